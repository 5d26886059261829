import JvmDerived
import JvmDerived.Pilot.@@N@@Statement
import JvmDerived.Pilot.@@N@@Code
set_option linter.unusedVariables false
set_option linter.unusedSimpArgs false
/- laws to paste: Road.backV (cut by pick.py; bodies as the Statement names them) -/
namespace Jvm.Pilot.@@N@@
namespace StrChars
open Jvm Sem ClassFile Op Lib Jvm.Stand Jvm.Free.XT Jvm.Free.ALB Jvm.Free.JM Jvm.Free
open Jvm.Lib.Cold (StaticIs)
/-- a char array whose places are chars -/
def Ch (a : Addr) (A : Cell) (U : State) : Prop := Arr .char a A U ∧ Typed .char A
theorem Ch.mv {a : Addr} {A : Cell} {U U' : State} (h : Ch a A U) (hal : U.vm.Alike U'.vm) (hh : U'.heap = U.heap) : Ch a A U' := ⟨h.1.mv hal hh, h.2⟩
theorem Ch.keep {a : Addr} {A : Cell} {U U' : State} (h : Ch a A U) (hal : U.vm.Alike U'.vm) (hk : U'.heap[a]? = some A) : Ch a A U' := ⟨h.1.keep hal hk, h.2⟩
/-- what place i of a char[]'s cell holds -/
def cv (A : Cell) (i : Nat) : Int32 := match A.slots[i]? with | some (.int x) => x | _ => 0
theorem Ch.get {a : Addr} {A : Cell} {U : State} (h : Ch a A U) {i : Nat} (hi : i < A.slots.size) : A.slots[i]? = some (.int (cv A i)) := by
  have e := Array.getElem?_eq_getElem hi
  have f := h.2 i _ e
  unfold cv; rw [e]
  generalize A.slots[i] = v at f
  cases v <;> simp [fits] at f ⊢
/-- the byte that i2b leaves of a char -/
def lo8 (x : Int32) : Int32 := x.toInt8.toInt32
theorem fits_lo8 (y : Int32) : fits .byte (.int (lo8 y)) = true := by
  have h1 := y.toInt8.le_toInt
  have h2 := y.toInt8.toInt_lt
  simp only [lo8, fits, Bool.and_eq_true, decide_eq_true_eq, Int32.le_iff_toInt_le, Int8.toInt_toInt32, show (-128 : Int32).toInt = -128 from by decide, show (127 : Int32).toInt = 127 from by decide]
  omega
/-- A' is A but that each place j of lo .. hi - 1 holds f j -/
def Laid (A A' : Cell) (lo hi : Nat) (f : Nat → Value) : Prop := A'.cls = A.cls ∧ A'.vm = A.vm ∧ A'.slots.size = A.slots.size ∧ ∀ i, A'.slots[i]? = if lo ≤ i ∧ i < hi then some (f i) else A.slots[i]?
theorem Laid.zero (A : Cell) (lo : Nat) (f : Nat → Value) : Laid A A lo (lo + 0) f := ⟨rfl, rfl, rfl, fun i => by rw [if_neg (by omega)]⟩
theorem Laid.step {A Ak : Cell} {lo k : Nat} {f : Nat → Value} {v : Value} (h : Laid A Ak lo k f) (hlo : lo ≤ k) (hk : k < Ak.slots.size) (hv : v = f k) : Laid A (Ak.setSlot k v) lo (k + 1) f := by
  refine ⟨h.1, h.2.1, by simpa [Cell.setSlot] using h.2.2.1, fun i => ?_⟩
  by_cases e : k = i
  · subst e; rw [Cell.slots_setSlot_self v hk, if_pos (by omega), hv]
  · rw [Cell.slots_setSlot_ne v e, h.2.2.2 i]
    by_cases q : lo ≤ i ∧ i < k
    · rw [if_pos q, if_pos (by omega)]
    · rw [if_neg q, if_neg (by omega)]
def U16 : String := "java/lang/StringUTF16"
namespace Cmp5
def yN : MethodName := ⟨"java/lang/StringUTF16", "compress", "([CI[BII)I"⟩
abbrev yB : ByteArray := jdk_52_method_21_code
theorem d0 : decode yB 0 = .ok (.iconst 0, 1) := by decide +kernel
theorem d1 : decode yB 1 = .ok (.istore 5, 2) := by decide +kernel
theorem d3 : decode yB 3 = .ok (.iload 5, 2) := by decide +kernel
theorem d5 : decode yB 5 = .ok (.iload 4, 2) := by decide +kernel
theorem d7 : decode yB 7 = .ok (.if_icmp (.ge) 37, 3) := by decide +kernel
theorem d10 : decode yB 10 = .ok (.aload_n 0, 1) := by decide +kernel
theorem d11 : decode yB 11 = .ok (.iload_n 1, 1) := by decide +kernel
theorem d12 : decode yB 12 = .ok (.caload, 1) := by decide +kernel
theorem d13 : decode yB 13 = .ok (.istore 6, 2) := by decide +kernel
theorem d15 : decode yB 15 = .ok (.iload 6, 2) := by decide +kernel
theorem d17 : decode yB 17 = .ok (.sipush 255, 3) := by decide +kernel
theorem d20 : decode yB 20 = .ok (.if_icmp (.le) 6, 3) := by decide +kernel
theorem d26 : decode yB 26 = .ok (.aload_n 2, 1) := by decide +kernel
theorem d27 : decode yB 27 = .ok (.iload_n 3, 1) := by decide +kernel
theorem d28 : decode yB 28 = .ok (.iload 6, 2) := by decide +kernel
theorem d30 : decode yB 30 = .ok (.i2b, 1) := by decide +kernel
theorem d31 : decode yB 31 = .ok (.bastore, 1) := by decide +kernel
theorem d32 : decode yB 32 = .ok (.iinc 1 1, 3) := by decide +kernel
theorem d35 : decode yB 35 = .ok (.iinc 3 1, 3) := by decide +kernel
theorem d38 : decode yB 38 = .ok (.iinc 5 1, 3) := by decide +kernel
theorem d41 : decode yB 41 = .ok (.goto (-38), 3) := by decide +kernel
theorem d44 : decode yB 44 = .ok (.iload 4, 2) := by decide +kernel
theorem d46 : decode yB 46 = .ok (.ireturn, 1) := by decide +kernel
def site : List Cond := []
def tab : Cond := tabOf yN yB 7 (some .int) site
def P (b : Addr) (A : Cell) (d : Addr) (B : Cell) (o q len : Nat) (args : Array Value) (s : State) : Prop := args = #[.ref b, .int (Int32.ofNat o), .ref d, .int (Int32.ofNat q), .int (Int32.ofNat len)] ∧ Ch b A s ∧ Arr .byte d B s ∧ b ≠ d ∧ o + len ≤ A.slots.size ∧ q + len ≤ B.slots.size ∧ ∀ i, i < len → ¬ 255 < cv A (o + i)
def E (b : Addr) (A : Cell) (d : Addr) (B : Cell) (o q len : Nat) (r : Option Value) (s u : State) : Prop := r = some (.int (Int32.ofNat len)) ∧ ∃ B', Put d B' s u ∧ Laid B B' q (q + len) (fun j => Value.int (lo8 (cv A (o + (j - q)))))
/-- no char of the range above 255: len; the places written hold each char's low byte -/
theorem law (l : Launch) (b : Addr) (A : Cell) (d : Addr) (B : Cell) (o q len : Nat) : Law l yN 5 5 0 0 yB 7 (some .int) site (P b A d B o q len) (E b A d B o q len) (copyLocs d q len) 0 0 := by
  refine Law.of_walk (plainFor_of_name (by decide +kernel)) (by decide +kernel) (by decide +kernel) (by decide) (fun _ _ h => by rw [h.1]; rfl) (fun _ U U' hal hh h => ⟨h.1, h.2.1.mv hal hh, h.2.2.1.mv hal hh, h.2.2.2⟩) (fun r U U' V V' h1 hal h2 h => ⟨h.1, h.2.elim fun B' q => ⟨B', q.1.mv h1 h2, q.2⟩⟩) ?_
  intro p e s m args below meth c s₁ X0 hexec hbytes hml hret hlk hnm hown hh0 W hP
  obtain ⟨rfl, hA, hB, hne, l1, l2, hp⟩ := hP
  have c1 : Steps p.tables e below (s₁.setTop (entryFrame m #[.ref b, .int (Int32.ofNat o), .ref d, .int (Int32.ofNat q), .int (Int32.ofNat len)] 7)) (s₁.setTop (mkF m 0 #[.val (.ref b), .val (.int (Int32.ofNat o)), .val (.ref d), .val (.int (Int32.ofNat q)), .val (.int (Int32.ofNat len)), .unset, .unset] [])) := entry rfl
  have hA0 := hA.1.mv X0.warmed.alike hh0
  have hB0 := hB.mv X0.warmed.alike hh0
  have a31 := hA.1.2.2.2
  have c2 : Steps p.tables e below (s₁.setTop (entryFrame m #[.ref b, .int (Int32.ofNat o), .ref d, .int (Int32.ofNat q), .int (Int32.ofNat len)] 7)) (s₁.setTop (mkF m 3 #[.val (.ref b), .val (.int (Int32.ofNat o)), .val (.ref d), .val (.int (Int32.ofNat q)), .val (.int (Int32.ofNat len)), .val (.int 0), .unset] [])) := c1.trans (by
    refine iconstV X0.here hexec rfl 0 (hb hbytes d0) (by decide) ?_
    refine XS.istore X0.here hexec rfl (hb hbytes d1) rfl rfl ?_
    exact Steps.refl _)
  have loop : ∀ (r i : Nat), i + r = len → ∀ (z : Slot), (z = .unset ∨ ∃ w, z = .val w ∧ w.category = 1) → ∀ (Tl : State) (Bk : Cell), Stand p l e { frames := 0, locals := 0, cells := 0, slots := 0 } s m #[.ref b, .int (Int32.ofNat o), .ref d, .int (Int32.ofNat q), .int (Int32.ofNat len)] below meth c Tl ([] ++ copyLocs d q i) 0 0 → Put d Bk s₁ Tl → Laid B Bk q (q + i) (fun j => Value.int (lo8 (cv A (o + (j - q))))) →
      Steps p.tables e below (s₁.setTop (entryFrame m #[.ref b, .int (Int32.ofNat o), .ref d, .int (Int32.ofNat q), .int (Int32.ofNat len)] 7)) (Tl.setTop (mkF m 3 #[.val (.ref b), .val (.int (Int32.ofNat (o + i))), .val (.ref d), .val (.int (Int32.ofNat (q + i))), .val (.int (Int32.ofNat len)), .val (.int (Int32.ofNat i)), z] [])) → ∃ (T' : State) (B' : Cell) (z' : Slot), Stand p l e { frames := 0, locals := 0, cells := 0, slots := 0 } s m #[.ref b, .int (Int32.ofNat o), .ref d, .int (Int32.ofNat q), .int (Int32.ofNat len)] below meth c T' ([] ++ copyLocs d q len) 0 0 ∧ Put d B' s₁ T' ∧ Laid B B' q (q + len) (fun j => Value.int (lo8 (cv A (o + (j - q))))) ∧
      Steps p.tables e below (s₁.setTop (entryFrame m #[.ref b, .int (Int32.ofNat o), .ref d, .int (Int32.ofNat q), .int (Int32.ofNat len)] 7)) (T'.setTop (mkF m 3 #[.val (.ref b), .val (.int (Int32.ofNat (o + len))), .val (.ref d), .val (.int (Int32.ofNat (q + len))), .val (.int (Int32.ofNat len)), .val (.int (Int32.ofNat len)), z'] [])) := by
    intro r
    induction r with
    | zero =>
      intro i hi z hz Tl Bk Xl pl fl cl
      have hil : i = len := by omega
      rw [hil] at Xl fl cl
      exact ⟨Tl, Bk, z, Xl, pl, fl, cl⟩
    | succ r ih =>
      intro i hi z hz Tl Bk Xl pl fl cl
      have all := X0.warmed.alike.symm.trans Xl.warmed.alike
      have hAl := hA0.keep all (pl.other hne hA0.1)
      have hBk := hB0.like all pl.1 fl.1 fl.2.1 fl.2.2.1
      have hlt : q + i < Bk.slots.size := by rw [fl.2.2.1]; omega
      have c3 : Steps p.tables e below (s₁.setTop (entryFrame m #[.ref b, .int (Int32.ofNat o), .ref d, .int (Int32.ofNat q), .int (Int32.ofNat len)] 7)) (Tl.setTop (mkF m 12 #[.val (.ref b), .val (.int (Int32.ofNat (o + i))), .val (.ref d), .val (.int (Int32.ofNat (q + i))), .val (.int (Int32.ofNat len)), .val (.int (Int32.ofNat i)), z] [.int (Int32.ofNat (o + i)), .ref b])) := cl.trans (by
        refine XS.iload Xl.here hexec rfl (hb hbytes d3) rfl ?_
        refine XS.iload Xl.here hexec rfl (hb hbytes d5) rfl ?_
        refine XS.icmpNo Xl.here hexec rfl (hb hbytes d7) rfl (ii_ge_f (lt32 (by omega) (by omega))) ?_
        refine XS.aloadN Xl.here hexec rfl (hb hbytes d10) rfl rfl ?_
        refine XS.iloadN Xl.here hexec rfl (hb hbytes d11) rfl ?_
        exact Steps.refl _)
      have c4 : Steps p.tables e below (s₁.setTop (entryFrame m #[.ref b, .int (Int32.ofNat o), .ref d, .int (Int32.ofNat q), .int (Int32.ofNat len)] 7)) (Tl.setTop (mkF m 13 #[.val (.ref b), .val (.int (Int32.ofNat (o + i))), .val (.ref d), .val (.int (Int32.ofNat (q + i))), .val (.int (Int32.ofNat len)), .val (.int (Int32.ofNat i)), z] [.int (cv A (o + i))])) := c3.trans (by
        refine Xl.aget hexec hAl rfl (hA.get (i := o + i) (by omega)) rfl rfl (hb hbytes d12) ?_
        exact Steps.refl _)
      have c5 : Steps p.tables e below (s₁.setTop (entryFrame m #[.ref b, .int (Int32.ofNat o), .ref d, .int (Int32.ofNat q), .int (Int32.ofNat len)] 7)) (Tl.setTop (mkF m 15 #[.val (.ref b), .val (.int (Int32.ofNat (o + i))), .val (.ref d), .val (.int (Int32.ofNat (q + i))), .val (.int (Int32.ofNat len)), .val (.int (Int32.ofNat i)), .val (.int (cv A (o + i)))] [])) := c4.trans (by
        refine XS.istoreS Xl.here hexec rfl (hb hbytes d13) rfl rfl hz ?_
        exact Steps.refl _)
      have c6 : Steps p.tables e below (s₁.setTop (entryFrame m #[.ref b, .int (Int32.ofNat o), .ref d, .int (Int32.ofNat q), .int (Int32.ofNat len)] 7)) (Tl.setTop (mkF m 31 #[.val (.ref b), .val (.int (Int32.ofNat (o + i))), .val (.ref d), .val (.int (Int32.ofNat (q + i))), .val (.int (Int32.ofNat len)), .val (.int (Int32.ofNat i)), .val (.int (cv A (o + i)))] [.int (lo8 (cv A (o + i))), .int (Int32.ofNat (q + i)), .ref d])) := c5.trans (by
        refine XS.iload Xl.here hexec rfl (hb hbytes d15) rfl ?_
        refine sipushV Xl.here hexec rfl 255 (hb hbytes d17) (by decide) ?_
        refine XS.icmpYes Xl.here hexec rfl (pc0 := 20) rfl (hb hbytes d20) rfl (ii_le_t (hp i (by omega))) (by decide) rfl ?_
        refine XS.aloadN Xl.here hexec rfl (hb hbytes d26) rfl rfl ?_
        refine XS.iloadN Xl.here hexec rfl (hb hbytes d27) rfl ?_
        refine XS.iload Xl.here hexec rfl (hb hbytes d28) rfl ?_
        refine i2b Xl.here hexec rfl (hb hbytes d30) rfl ?_
        exact Steps.refl _)
      obtain ⟨T7, X7, p7, st7⟩ := Xl.aput hexec hBk rfl hlt rfl (fits_lo8 (cv A (o + i))) (g := (mkF m 31 #[.val (.ref b), .val (.int (Int32.ofNat (o + i))), .val (.ref d), .val (.int (Int32.ofNat (q + i))), .val (.int (Int32.ofNat len)), .val (.int (Int32.ofNat i)), .val (.int (cv A (o + i)))] [.int (lo8 (cv A (o + i))), .int (Int32.ofNat (q + i)), .ref d])) rfl (rest := []) rfl (hb hbytes d31)
      have c8 : Steps p.tables e below (s₁.setTop (entryFrame m #[.ref b, .int (Int32.ofNat o), .ref d, .int (Int32.ofNat q), .int (Int32.ofNat len)] 7)) (T7.setTop (mkF m 32 #[.val (.ref b), .val (.int (Int32.ofNat (o + i))), .val (.ref d), .val (.int (Int32.ofNat (q + i))), .val (.int (Int32.ofNat len)), .val (.int (Int32.ofNat i)), .val (.int (cv A (o + i)))] [])) := c6.trans (st7 _ (Steps.refl _))
      have c9 : Steps p.tables e below (s₁.setTop (entryFrame m #[.ref b, .int (Int32.ofNat o), .ref d, .int (Int32.ofNat q), .int (Int32.ofNat len)] 7)) (T7.setTop (mkF m 3 #[.val (.ref b), .val (.int (Int32.ofNat (o + i) + 1)), .val (.ref d), .val (.int (Int32.ofNat (q + i) + 1)), .val (.int (Int32.ofNat len)), .val (.int (Int32.ofNat i + 1)), .val (.int (cv A (o + i)))] [])) := c8.trans (by
        refine iincV X7.here hexec rfl 1 (hb hbytes d32) (by decide) rfl rfl ?_
        refine iincV X7.here hexec rfl 1 (hb hbytes d35) (by decide) rfl rfl ?_
        refine iincV X7.here hexec rfl 1 (hb hbytes d38) (by decide) rfl rfl ?_
        refine XS.goto X7.here hexec rfl (pc0 := 41) rfl (hb hbytes d41) (by decide) rfl ?_
        exact Steps.refl _)
      have c10 : Steps p.tables e below (s₁.setTop (entryFrame m #[.ref b, .int (Int32.ofNat o), .ref d, .int (Int32.ofNat q), .int (Int32.ofNat len)] 7)) (T7.setTop (mkF m 3 #[.val (.ref b), .val (.int (Int32.ofNat (o + (i + 1)))), .val (.ref d), .val (.int (Int32.ofNat (q + (i + 1)))), .val (.int (Int32.ofNat len)), .val (.int (Int32.ofNat (i + 1))), .val (.int (cv A (o + i)))] [])) := by
        have := c9
        rw [succ32, succ32, succ32] at this
        exact this
      exact ih (i + 1) (by omega) _ (Or.inr ⟨_, rfl, rfl⟩) T7 _ (by rw [copyLocs_step, ← List.append_assoc]; exact X7) (pl.trans p7) (fl.step (by omega) hlt (by simp)) c10
  obtain ⟨T9, B9, z9, X9, p9, f9, g9⟩ := loop len 0 (by omega) .unset (Or.inl rfl) s₁ B (by simpa [copyLocs] using X0) ⟨hB0.1, fun _ _ => rfl, rfl⟩ (Laid.zero _ _ _) c2
  have c11 : Steps p.tables e below (s₁.setTop (entryFrame m #[.ref b, .int (Int32.ofNat o), .ref d, .int (Int32.ofNat q), .int (Int32.ofNat len)] 7)) (T9.setTop (mkF m 46 #[.val (.ref b), .val (.int (Int32.ofNat (o + len))), .val (.ref d), .val (.int (Int32.ofNat (q + len))), .val (.int (Int32.ofNat len)), .val (.int (Int32.ofNat len)), z9] [.int (Int32.ofNat len)])) := g9.trans (by
    refine XS.iload X9.here hexec rfl (hb hbytes d3) rfl ?_
    refine XS.iload X9.here hexec rfl (hb hbytes d5) rfl ?_
    refine XS.icmpYes X9.here hexec rfl (pc0 := 7) rfl (hb hbytes d7) rfl (ii_ge_t (nlt32 (by omega) (Nat.le_refl _))) (by decide) rfl ?_
    refine XS.iload X9.here hexec rfl (hb hbytes d44) rfl ?_
    exact Steps.refl _)
  exact ⟨T9, some (.int (Int32.ofNat len)), _, _, _, X9, by simp, rfl, rfl, (fun h => by cases h), ⟨rfl, B9, p9.from hh0, f9⟩, fun fs hl => c11.trans (X9.ireturnOut hexec hret rfl (Or.inl rfl) (hb hbytes d46) hl)⟩
end Cmp5
namespace Cmp3
def yN : MethodName := ⟨"java/lang/StringUTF16", "compress", "([CII)[B"⟩
abbrev yB : ByteArray := jdk_52_method_16_code
theorem d0 : decode yB 0 = .ok (.iload_n 2, 1) := by decide +kernel
theorem d1 : decode yB 1 = .ok (.newarray .byte, 2) := by decide +kernel
theorem d3 : decode yB 3 = .ok (.astore_n 3, 1) := by decide +kernel
theorem d4 : decode yB 4 = .ok (.aload_n 0, 1) := by decide +kernel
theorem d5 : decode yB 5 = .ok (.iload_n 1, 1) := by decide +kernel
theorem d6 : decode yB 6 = .ok (.aload_n 3, 1) := by decide +kernel
theorem d7 : decode yB 7 = .ok (.iconst 0, 1) := by decide +kernel
theorem d8 : decode yB 8 = .ok (.iload_n 2, 1) := by decide +kernel
theorem d9 : decode yB 9 = .ok (.invokestatic 115, 3) := by decide +kernel
theorem d12 : decode yB 12 = .ok (.istore 4, 2) := by decide +kernel
theorem d14 : decode yB 14 = .ok (.iload 4, 2) := by decide +kernel
theorem d16 : decode yB 16 = .ok (.iload_n 2, 1) := by decide +kernel
theorem d17 : decode yB 17 = .ok (.if_icmp (.eq) 40, 3) := by decide +kernel
theorem d57 : decode yB 57 = .ok (.aload_n 3, 1) := by decide +kernel
theorem d58 : decode yB 58 = .ok (.areturn, 1) := by decide +kernel
def site : List Cond := [.arrayClass .byte, Cmp5.tab] ++ staticW U16 115 Cmp5.yN
def tab : Cond := tabOf yN yB 6 (some (.array .byte)) site
def P (b : Addr) (A : Cell) (o len : Nat) (args : Array Value) (s : State) : Prop := args = #[.ref b, .int (Int32.ofNat o), .int (Int32.ofNat len)] ∧ Ch b A s ∧ o + len ≤ A.slots.size ∧ len ≤ 536870912 ∧ ∀ i, i < len → ¬ 255 < cv A (o + i)
def E (b : Addr) (A : Cell) (o len : Nat) (r : Option Value) (s u : State) : Prop := NewArr .byte "[B" len (fun j => .int (lo8 (cv A (o + j)))) r s u ∧ u.heap.size = s.heap.size + 1
/-- no char of the range above 255: a new byte[] of their low bytes -/
theorem law (l : Launch) (b : Addr) (A : Cell) (o len : Nat) : Law l yN 3 3 1 18 yB 6 (some (.array .byte)) site (P b A o len) (E b A o len) [] 1 len := by
  refine Law.of_walk (plainFor_of_name (by decide +kernel)) (by decide +kernel) (by decide +kernel) (by decide) (fun _ _ h => by rw [h.1]; rfl) (fun _ U U' hal hh h => ⟨h.1, h.2.1.mv hal hh, h.2.2⟩) (fun r U U' V V' h1 hal h2 h => ⟨NewArr.mv r U U' V V' h1 hal h2 h.1, by rw [h1, h2]; exact h.2⟩) ?_
  intro p e s m args below meth c s₁ X0 hexec hbytes hml hret hlk hnm hown hh0 W hP
  obtain ⟨rfl, hA, l1, l2, hp⟩ := hP
  have a31 := hA.1.2.2.2
  have c1 : Steps p.tables e below (s₁.setTop (entryFrame m #[.ref b, .int (Int32.ofNat o), .int (Int32.ofNat len)] 6)) (s₁.setTop (mkF m 0 #[.val (.ref b), .val (.int (Int32.ofNat o)), .val (.int (Int32.ofNat len)), .unset, .unset, .unset] [])) := entry rfl
  have c2 : Steps p.tables e below (s₁.setTop (entryFrame m #[.ref b, .int (Int32.ofNat o), .int (Int32.ofNat len)] 6)) (s₁.setTop (mkF m 1 #[.val (.ref b), .val (.int (Int32.ofNat o)), .val (.int (Int32.ofNat len)), .unset, .unset, .unset] [.int (Int32.ofNat len)])) := c1.trans (by
    refine XS.iloadN X0.here hexec rfl (hb hbytes d0) rfl ?_
    exact Steps.refl _)
  obtain ⟨T3, B3, X3, ba3, bs3, bv3, bh3, bf3, st3⟩ := X0.anew hexec (atype := .byte) (wk W (.arrayClass .byte)) rfl (by show len * 1 ≤ _; omega) (by omega) (g := (mkF m 1 #[.val (.ref b), .val (.int (Int32.ofNat o)), .val (.int (Int32.ofNat len)), .unset, .unset, .unset] [.int (Int32.ofNat len)])) rfl (hb hbytes d1) (rest := []) rfl (Nat.le_refl _) (by show 0 + len ≤ len; omega)
  rw [hh0] at ba3 st3
  have kp3 : XT.Kept s T3 := (XT.Kept.of_eq hh0).push bh3
  have hA3 := hA.keep X3.warmed.alike (kp3 _ _ hA.1.1)
  have hne : b ≠ s.heap.size := hA.1.ne
  have c4 : Steps p.tables e below (s₁.setTop (entryFrame m #[.ref b, .int (Int32.ofNat o), .int (Int32.ofNat len)] 6)) (T3.setTop (mkF m 3 #[.val (.ref b), .val (.int (Int32.ofNat o)), .val (.int (Int32.ofNat len)), .unset, .unset, .unset] [.ref s.heap.size])) := c2.trans (st3 _ (Steps.refl _))
  have c5 : Steps p.tables e below (s₁.setTop (entryFrame m #[.ref b, .int (Int32.ofNat o), .int (Int32.ofNat len)] 6)) (T3.setTop (mkF m 9 #[.val (.ref b), .val (.int (Int32.ofNat o)), .val (.int (Int32.ofNat len)), .val (.ref s.heap.size), .unset, .unset] [.int (Int32.ofNat len), .int 0, .ref s.heap.size, .int (Int32.ofNat o), .ref b])) := c4.trans (by
    refine XS.astoreN X3.here hexec rfl (hb hbytes d3) rfl rfl rfl ?_
    refine XS.aloadN X3.here hexec rfl (hb hbytes d4) rfl rfl ?_
    refine XS.iloadN X3.here hexec rfl (hb hbytes d5) rfl ?_
    refine XS.aloadN X3.here hexec rfl (hb hbytes d6) rfl rfl ?_
    refine iconstV X3.here hexec rfl 0 (hb hbytes d7) (by decide) ?_
    refine XS.iloadN X3.here hexec rfl (hb hbytes d8) rfl ?_
    exact Steps.refl _)
  obtain ⟨v6, T6, X6, E6, g6⟩ := X3.callS hexec (Cmp5.law l b A s.heap.size B3 o 0 len) hown (wks W (staticW U16 115 Cmp5.yN)) (wk W Cmp5.tab) (W := 0) (Nat.le_of_ble_eq_true rfl) (Nat.le_of_ble_eq_true rfl) (Nat.le_refl _) (by show 0 + len + 0 ≤ len; omega) (g := (mkF m 9 #[.val (.ref b), .val (.int (Int32.ofNat o)), .val (.int (Int32.ofNat len)), .val (.ref s.heap.size), .unset, .unset] [.int (Int32.ofNat len), .int (Int32.ofNat 0), .ref s.heap.size, .int (Int32.ofNat o), .ref b])) rfl (by rw [hml]; rfl) c5 (argsL := [.ref b, .int (Int32.ofNat o), .ref s.heap.size, .int (Int32.ofNat 0), .int (Int32.ofNat len)]) (rest := []) rfl rfl (by show 2 * 0 + 0 ≤ _; decide) (hb hbytes d9) (⟨rfl, hA3, ba3, hne, l1, by rw [bs3]; simp, hp⟩)
  obtain ⟨rfl, B6, p6, f6⟩ := E6
  have c7 : Steps p.tables e below (s₁.setTop (entryFrame m #[.ref b, .int (Int32.ofNat o), .int (Int32.ofNat len)] 6)) (T6.setTop (mkF m 12 #[.val (.ref b), .val (.int (Int32.ofNat o)), .val (.int (Int32.ofNat len)), .val (.ref s.heap.size), .unset, .unset] [.int (Int32.ofNat len)])) := g6
  have c8 : Steps p.tables e below (s₁.setTop (entryFrame m #[.ref b, .int (Int32.ofNat o), .int (Int32.ofNat len)] 6)) (T6.setTop (mkF m 58 #[.val (.ref b), .val (.int (Int32.ofNat o)), .val (.int (Int32.ofNat len)), .val (.ref s.heap.size), .val (.int (Int32.ofNat len)), .unset] [.ref s.heap.size])) := c7.trans (by
    refine XS.istore X6.here hexec rfl (hb hbytes d12) rfl rfl ?_
    refine XS.iload X6.here hexec rfl (hb hbytes d14) rfl ?_
    refine XS.iloadN X6.here hexec rfl (hb hbytes d16) rfl ?_
    refine XS.icmpYes X6.here hexec rfl (pc0 := 17) rfl (hb hbytes d17) rfl (ii_eq_t rfl) (by decide) rfl ?_
    refine XS.aloadN X6.here hexec rfl (hb hbytes d57) rfl rfl ?_
    exact Steps.refl _)
  have X8 := X6.wide (L' := []) (cells' := 1) (slots' := len) (fun x hx hlt => by
    simp only [List.nil_append, copyLocs, List.mem_map, List.mem_range] at hx
    obtain ⟨i, -, rfl⟩ := hx
    exact absurd hlt (Nat.lt_irrefl _)) (Nat.le_refl _) (by omega)
  exact ⟨T6, some (.ref s.heap.size), _, _, _, X8, rfl, rfl, rfl, (fun h => by cases h), ⟨⟨rfl, B6, ba3.like (X3.warmed.alike.symm.trans X6.warmed.alike) p6.1 f6.1 f6.2.1 f6.2.2.1, f6.2.1.trans bv3, by rw [X6.warmed.alike.findClass, f6.1]; exact bf3, by rw [f6.2.2.1, bs3]; simp, fun j hj => by rw [f6.2.2.2 j, if_pos (by omega)]; rfl, kp3.put p6 (Nat.le_refl _)⟩, by rw [p6.2.2, bh3, hh0]; simp⟩, fun fs hl => c8.trans (X8.areturnOut hexec rfl hret rfl (hb hbytes d58) hl)⟩
end Cmp3
namespace CodL
def yN : MethodName := ⟨"java/lang/StringUTF16", "coderFromArrayLen", "([BI)B"⟩
abbrev yB : ByteArray := jdk_52_method_15_code
theorem d0 : decode yB 0 = .ok (.iload_n 1, 1) := by decide +kernel
theorem d1 : decode yB 1 = .ok (.aload_n 0, 1) := by decide +kernel
theorem d2 : decode yB 2 = .ok (.arraylength, 1) := by decide +kernel
theorem d3 : decode yB 3 = .ok (.isub, 1) := by decide +kernel
theorem d4 : decode yB 4 = .ok (.bipush 31, 2) := by decide +kernel
theorem d6 : decode yB 6 = .ok (.iushr, 1) := by decide +kernel
theorem d7 : decode yB 7 = .ok (.i2b, 1) := by decide +kernel
theorem d8 : decode yB 8 = .ok (.ireturn, 1) := by decide +kernel
def site : List Cond := []
def tab : Cond := tabOf yN yB 2 (some .byte) site
def P (d : Addr) (B : Cell) (args : Array Value) (s : State) : Prop := args = #[.ref d, .int (Int32.ofNat B.slots.size)] ∧ Arr .byte d B s
def E (r : Option Value) (s u : State) : Prop := XT.PureE (some (.int 0)) r s u
/-- an array as long as the number of chars: LATIN1 -/
theorem law (l : Launch) (d : Addr) (B : Cell) : Law l yN 2 2 0 0 yB 2 (some .byte) site (P d B) E [] 0 0 := by
  refine Law.of_walk (plainFor_of_name (by decide +kernel)) (by decide +kernel) (by decide +kernel) (by decide) (fun _ _ h => by rw [h.1]; rfl) (fun _ U U' hal hh h => ⟨h.1, h.2.mv hal hh⟩) (fun r U U' V V' h1 hal h2 h => XT.PureE.mv r U U' V V' h1 hal h2 h) ?_
  intro p e s m args below meth c s₁ X0 hexec hbytes hml hret hlk hnm hown hh0 W hP
  obtain ⟨rfl, hB⟩ := hP
  have hB0 := hB.mv X0.warmed.alike hh0
  have c1 : Steps p.tables e below (s₁.setTop (entryFrame m #[.ref d, .int (Int32.ofNat B.slots.size)] 2)) (s₁.setTop (mkF m 0 #[.val (.ref d), .val (.int (Int32.ofNat B.slots.size))] [])) := entry rfl
  have c2 : Steps p.tables e below (s₁.setTop (entryFrame m #[.ref d, .int (Int32.ofNat B.slots.size)] 2)) (s₁.setTop (mkF m 2 #[.val (.ref d), .val (.int (Int32.ofNat B.slots.size))] [.ref d, .int (Int32.ofNat B.slots.size)])) := c1.trans (by
    refine XS.iloadN X0.here hexec rfl (hb hbytes d0) rfl ?_
    refine XS.aloadN X0.here hexec rfl (hb hbytes d1) rfl rfl ?_
    exact Steps.refl _)
  have c3 : Steps p.tables e below (s₁.setTop (entryFrame m #[.ref d, .int (Int32.ofNat B.slots.size)] 2)) (s₁.setTop (mkF m 8 #[.val (.ref d), .val (.int (Int32.ofNat B.slots.size))] [.int (lo8 (ushr (Int32.ofNat B.slots.size - Int32.ofNat B.slots.size) 31))])) := c2.trans (by
    refine X0.alen hexec hB0 rfl rfl (hb hbytes d2) ?_
    refine XS.isub X0.here hexec rfl (hb hbytes d3) rfl ?_
    refine bipushV X0.here hexec rfl 31 (hb hbytes d4) (by decide) ?_
    refine iushr X0.here hexec rfl (hb hbytes d6) rfl ?_
    refine i2b X0.here hexec rfl (hb hbytes d7) rfl ?_
    exact Steps.refl _)
  have e0 : lo8 (ushr (Int32.ofNat B.slots.size - Int32.ofNat B.slots.size) 31) = 0 := by rw [Int32.sub_self]; decide
  rw [e0] at c3
  exact ⟨s₁, some (.int 0), _, _, _, X0, rfl, rfl, rfl, (fun h => by cases h), ⟨rfl, hh0⟩, fun fs hl => c3.trans (X0.ireturnOut hexec hret rfl (Or.inr (Or.inr (Or.inl rfl))) (hb hbytes d8) hl)⟩
end CodL
/-- the String at a is Latin-1 over a new byte[] (the heap's one new cell): the low bytes of the len chars of A from o on; every cell but a is kept -/
def Got (a : Addr) (D : Cell) (fV fC : Field) (A : Cell) (o len : Nat) (r : Option Value) (s u : State) : Prop := r = none ∧ ∃ D' V : Cell, Blank "java/lang/String" a D' u ∧ Same D D' [fV.slot, fC.slot] ∧ D'.slots[fV.slot]? = some (.ref s.heap.size) ∧ D'.slots[fC.slot]? = some (.int 0) ∧ Arr .byte s.heap.size V u ∧ V.vm = .none ∧ u.vm.findClass "[B" = some V.cls ∧ V.slots.size = len ∧ (∀ j, j < len → V.slots[j]? = some (.int (lo8 (cv A (o + j))))) ∧ (∀ (y : Addr) (c : Cell), y ≠ a → s.heap[y]? = some c → u.heap[y]? = some c) ∧ u.heap.size = s.heap.size + 1
theorem Got.mv {a : Addr} {D A : Cell} {fV fC : Field} {o len : Nat} : ∀ r (U U' V V' : State), U'.heap = U.heap → V.vm.Alike V'.vm → V'.heap = V.heap → Got a D fV fC A o len r U V → Got a D fV fC A o len r U' V' :=
  fun r U U' V V' h1 hal h2 ⟨e0, D', X, a1, a2, a3, a4, a5, a6, a7, a8, a9, a10, a11⟩ => ⟨e0, D', X, a1.mv hal h2, a2, by rw [h1]; exact a3, a4, by rw [h1]; exact a5.mv hal h2, a6, by rw [hal.findClass]; exact a7, a8, a9, by rw [h1, h2]; exact a10, by rw [h1, h2]; exact a11⟩
namespace New4
def yN : MethodName := ⟨"java/lang/String", "<init>", "([CIILjava/lang/Void;)V"⟩
abbrev yB : ByteArray := jdk_42_method_149_code
theorem d0 : decode yB 0 = .ok (.aload_n 0, 1) := by decide +kernel
theorem d1 : decode yB 1 = .ok (.invokespecial 1, 3) := by decide +kernel
theorem d4 : decode yB 4 = .ok (.iload_n 3, 1) := by decide +kernel
theorem d5 : decode yB 5 = .ok (.ifCond (.ne) 22, 3) := by decide +kernel
theorem d27 : decode yB 27 = .ok (.getstatic 38, 3) := by decide +kernel
theorem d30 : decode yB 30 = .ok (.ifCond (.eq) 28, 3) := by decide +kernel
theorem d33 : decode yB 33 = .ok (.aload_n 1, 1) := by decide +kernel
theorem d34 : decode yB 34 = .ok (.iload_n 2, 1) := by decide +kernel
theorem d35 : decode yB 35 = .ok (.iload_n 3, 1) := by decide +kernel
theorem d36 : decode yB 36 = .ok (.invokestatic 177, 3) := by decide +kernel
theorem d39 : decode yB 39 = .ok (.astore 5, 2) := by decide +kernel
theorem d41 : decode yB 41 = .ok (.aload_n 0, 1) := by decide +kernel
theorem d42 : decode yB 42 = .ok (.aload 5, 2) := by decide +kernel
theorem d44 : decode yB 44 = .ok (.iload_n 3, 1) := by decide +kernel
theorem d45 : decode yB 45 = .ok (.invokestatic 47, 3) := by decide +kernel
theorem d48 : decode yB 48 = .ok (.putfield 15, 3) := by decide +kernel
theorem d51 : decode yB 51 = .ok (.aload_n 0, 1) := by decide +kernel
theorem d52 : decode yB 52 = .ok (.aload 5, 2) := by decide +kernel
theorem d54 : decode yB 54 = .ok (.putfield 9, 3) := by decide +kernel
theorem d57 : decode yB 57 = .ok (.return_, 1) := by decide +kernel
def site : List Cond := [.fieldLink "java/lang/String" 38 "java/lang/String" "COMPACT_STRINGS" "Z", Cmp3.tab, CodL.tab, .laysFinal "java/lang/String" "java/lang/String" "value" "[B", .fieldLink "java/lang/String" 9 "java/lang/String" "value" "[B", .laysFinal "java/lang/String" "java/lang/String" "coder" "B", .fieldLink "java/lang/String" 15 "java/lang/String" "coder" "B"] ++ objW "java/lang/String" 1 ++ staticW "java/lang/String" 177 Cmp3.yN ++ staticW "java/lang/String" 47 CodL.yN
def tab : Cond := tabOf yN yB 6 none site
def P (a : Addr) (D : Cell) (fV fC : Field) (b : Addr) (A : Cell) (z : Int32) (o len : Nat) (args : Array Value) (s : State) : Prop := args = #[.ref a, .ref b, .int (Int32.ofNat o), .int (Int32.ofNat len), .null] ∧ Blank "java/lang/String" a D s ∧ Found "java/lang/String" "value" "[B" fV s ∧ Found "java/lang/String" "coder" "B" fC s ∧ Ch b A s ∧ StaticIs s "java/lang/String" "COMPACT_STRINGS" "Z" (.int z) ∧ ¬ z = 0 ∧ 0 < len ∧ o + len ≤ A.slots.size ∧ len ≤ 536870912 ∧ ∀ i, i < len → ¬ 255 < cv A (o + i)
def E (a : Addr) (D : Cell) (fV fC : Field) (A : Cell) (o len : Nat) (r : Option Value) (s u : State) : Prop := Got a D fV fC A o len r s u
/-- len > 0, no char of the range above 255: a Latin-1 String of their low bytes -/
theorem law (l : Launch) (a : Addr) (D : Cell) (fV fC : Field) (b : Addr) (A : Cell) (z : Int32) (o len : Nat) : Law l yN 5 4 2 35 yB 6 none site (P a D fV fC b A z o len) (E a D fV fC A o len) [⟨a, fC.slot⟩, ⟨a, fV.slot⟩] 1 len := by
  refine Law.of_walk (plainFor_of_name (by decide +kernel)) (by decide +kernel) (by decide +kernel) (by decide) (fun _ _ h => by rw [h.1]; rfl) (fun _ U U' hal hh h => ⟨h.1, h.2.1.mv hal hh, h.2.2.1.al hal, h.2.2.2.1.al hal, h.2.2.2.2.1.mv hal hh, h.2.2.2.2.2.1.there hal hh, h.2.2.2.2.2.2⟩) (fun r U U' V V' h1 hal h2 h => Got.mv r U U' V V' h1 hal h2 h) ?_
  intro p e s m args below meth c s₁ X0 hexec hbytes hml hret hlk hnm hown hh0 W hP
  obtain ⟨rfl, hB, f1, f2, hA, s1, hz, l0, l1, l2, hp⟩ := hP
  have a31 := hA.1.2.2.2
  have c1 : Steps p.tables e below (s₁.setTop (entryFrame m #[.ref a, .ref b, .int (Int32.ofNat o), .int (Int32.ofNat len), .null] 6)) (s₁.setTop (mkF m 0 #[.val (.ref a), .val (.ref b), .val (.int (Int32.ofNat o)), .val (.int (Int32.ofNat len)), .val .null, .unset] [])) := entry rfl
  have c2 : Steps p.tables e below (s₁.setTop (entryFrame m #[.ref a, .ref b, .int (Int32.ofNat o), .int (Int32.ofNat len), .null] 6)) (s₁.setTop (mkF m 1 #[.val (.ref a), .val (.ref b), .val (.int (Int32.ofNat o)), .val (.int (Int32.ofNat len)), .val .null, .unset] [.ref a])) := c1.trans (by
    refine XS.aloadN X0.here hexec rfl (hb hbytes d0) rfl rfl ?_
    exact Steps.refl _)
  obtain ⟨T3, X3, q3, st3⟩ := X0.oinit hexec hown (wks W (objW "java/lang/String" 1)) (g := (mkF m 1 #[.val (.ref a), .val (.ref b), .val (.int (Int32.ofNat o)), .val (.int (Int32.ofNat len)), .val .null, .unset] [.ref a])) rfl (by rw [hml]; rfl) (rest := []) rfl (hb hbytes d1) (W := 0) (by show 2 * 0 + 0 ≤ _; decide) (Nat.le_of_ble_eq_true rfl) (Nat.le_of_ble_eq_true rfl)
  have hh3 := q3.trans hh0
  have c4 : Steps p.tables e below (s₁.setTop (entryFrame m #[.ref a, .ref b, .int (Int32.ofNat o), .int (Int32.ofNat len), .null] 6)) (T3.setTop (mkF m 27 #[.val (.ref a), .val (.ref b), .val (.int (Int32.ofNat o)), .val (.int (Int32.ofNat len)), .val .null, .unset] [])) := (c2.trans (st3 _ (Steps.refl _))).trans (by
    refine XS.iloadN X3.here hexec rfl (hb hbytes d4) rfl ?_
    refine XS.ifYes X3.here hexec rfl (pc0 := 5) rfl (hb hbytes d5) rfl (i0_ne_t (nz32 (by omega) l0)) (by decide) rfl ?_
    exact Steps.refl _)
  obtain ⟨T5, X5, q5, st5⟩ := X3.sget hexec hown (wk W (.fieldLink "java/lang/String" 38 "java/lang/String" "COMPACT_STRINGS" "Z")) s1 (fun _ _ h => by rw [hh3]; exact h) (g := (mkF m 27 #[.val (.ref a), .val (.ref b), .val (.int (Int32.ofNat o)), .val (.int (Int32.ofNat len)), .val .null, .unset] [])) rfl (hb hbytes d27)
  have hh5 := q5.trans hh3
  have c6 : Steps p.tables e below (s₁.setTop (entryFrame m #[.ref a, .ref b, .int (Int32.ofNat o), .int (Int32.ofNat len), .null] 6)) (T5.setTop (mkF m 30 #[.val (.ref a), .val (.ref b), .val (.int (Int32.ofNat o)), .val (.int (Int32.ofNat len)), .val .null, .unset] [.int z])) := c4.trans (st5 _ (Steps.refl _))
  have c7 : Steps p.tables e below (s₁.setTop (entryFrame m #[.ref a, .ref b, .int (Int32.ofNat o), .int (Int32.ofNat len), .null] 6)) (T5.setTop (mkF m 36 #[.val (.ref a), .val (.ref b), .val (.int (Int32.ofNat o)), .val (.int (Int32.ofNat len)), .val .null, .unset] [.int (Int32.ofNat len), .int (Int32.ofNat o), .ref b])) := c6.trans (by
    refine XS.ifNo X5.here hexec rfl (hb hbytes d30) rfl (i0_eq_f hz) ?_
    refine XS.aloadN X5.here hexec rfl (hb hbytes d33) rfl rfl ?_
    refine XS.iloadN X5.here hexec rfl (hb hbytes d34) rfl ?_
    refine XS.iloadN X5.here hexec rfl (hb hbytes d35) rfl ?_
    exact Steps.refl _)
  obtain ⟨v8, T8, X8, E8, g8⟩ := X5.callS hexec (Cmp3.law l b A o len) hown (wks W (staticW "java/lang/String" 177 Cmp3.yN)) (wk W Cmp3.tab) (W := 0) (Nat.le_of_ble_eq_true rfl) (Nat.le_of_ble_eq_true rfl) (Nat.le_refl _) (by show 0 + len ≤ len; omega) (g := (mkF m 36 #[.val (.ref a), .val (.ref b), .val (.int (Int32.ofNat o)), .val (.int (Int32.ofNat len)), .val .null, .unset] [.int (Int32.ofNat len), .int (Int32.ofNat o), .ref b])) rfl (by rw [hml]; rfl) c7 (argsL := [.ref b, .int (Int32.ofNat o), .int (Int32.ofNat len)]) (rest := []) rfl rfl (by show 2 * 0 + 0 ≤ _; decide) (hb hbytes d36) (⟨rfl, hA.mv X5.warmed.alike hh5, l1, l2, hp⟩)
  obtain ⟨e8, z8⟩ := E8
  obtain ⟨rfl, N, n1, n2, n3, n4, n5, n6⟩ := NewArr.mv _ T5 s _ _ hh5.symm (Vm.Alike.refl _) rfl e8
  rw [hh5] at z8
  have hB1 := hB.keep X8.warmed.alike (n6 _ _ hB.1)
  have hne : s.heap.size ≠ a := (Nat.ne_of_lt (Array.getElem?_eq_some_iff.mp hB.1).1).symm
  have c9 : Steps p.tables e below (s₁.setTop (entryFrame m #[.ref a, .ref b, .int (Int32.ofNat o), .int (Int32.ofNat len), .null] 6)) (T8.setTop (mkF m 39 #[.val (.ref a), .val (.ref b), .val (.int (Int32.ofNat o)), .val (.int (Int32.ofNat len)), .val .null, .unset] [.ref s.heap.size])) := g8
  have c10 : Steps p.tables e below (s₁.setTop (entryFrame m #[.ref a, .ref b, .int (Int32.ofNat o), .int (Int32.ofNat len), .null] 6)) (T8.setTop (mkF m 45 #[.val (.ref a), .val (.ref b), .val (.int (Int32.ofNat o)), .val (.int (Int32.ofNat len)), .val .null, .val (.ref s.heap.size)] [.int (Int32.ofNat N.slots.size), .ref s.heap.size, .ref a])) := by
    have hc : Steps p.tables e below (s₁.setTop (entryFrame m #[.ref a, .ref b, .int (Int32.ofNat o), .int (Int32.ofNat len), .null] 6)) (T8.setTop (mkF m 45 #[.val (.ref a), .val (.ref b), .val (.int (Int32.ofNat o)), .val (.int (Int32.ofNat len)), .val .null, .val (.ref s.heap.size)] [.int (Int32.ofNat len), .ref s.heap.size, .ref a])) := c9.trans (by
      refine XS.astore X8.here hexec rfl (hb hbytes d39) rfl rfl rfl ?_
      refine XS.aloadN X8.here hexec rfl (hb hbytes d41) rfl rfl ?_
      refine XS.aload X8.here hexec rfl (hb hbytes d42) rfl rfl ?_
      refine XS.iloadN X8.here hexec rfl (hb hbytes d44) rfl ?_
      exact Steps.refl _)
    rw [n4]; exact hc
  obtain ⟨v11, T11, X11, E11, g11⟩ := X8.callS hexec (CodL.law l s.heap.size N) hown (wks W (staticW "java/lang/String" 47 CodL.yN)) (wk W CodL.tab) (W := 1) (Nat.le_of_ble_eq_true rfl) (Nat.le_of_ble_eq_true rfl) (Nat.le_refl _) (by show 0 + len + 0 ≤ len; omega) (g := (mkF m 45 #[.val (.ref a), .val (.ref b), .val (.int (Int32.ofNat o)), .val (.int (Int32.ofNat len)), .val .null, .val (.ref s.heap.size)] [.int (Int32.ofNat N.slots.size), .ref s.heap.size, .ref a])) rfl (by rw [hml]; rfl) c10 (argsL := [.ref s.heap.size, .int (Int32.ofNat N.slots.size)]) (rest := [.ref a]) rfl rfl (by show 2 * 0 + (1 + 0) ≤ _; decide) (hb hbytes d45) (⟨rfl, n1⟩)
  obtain ⟨rfl, q11⟩ := E11
  have hB11 := hB1.mv (X8.warmed.alike.symm.trans X11.warmed.alike) q11
  have c12 : Steps p.tables e below (s₁.setTop (entryFrame m #[.ref a, .ref b, .int (Int32.ofNat o), .int (Int32.ofNat len), .null] 6)) (T11.setTop (mkF m 48 #[.val (.ref a), .val (.ref b), .val (.int (Int32.ofNat o)), .val (.int (Int32.ofNat len)), .val .null, .val (.ref s.heap.size)] [.int 0, .ref a])) := g11
  obtain ⟨T13, X13, p13, bl13, sl13, st13⟩ := X11.finit hexec hown (wk W (.fieldLink "java/lang/String" 15 "java/lang/String" "coder" "B")) (Or.inr ⟨_, (wk W (.laysFinal "java/lang/String" "java/lang/String" "coder" "B"))⟩) (Or.inl ⟨rfl, hnm⟩) f2 (Or.inl rfl) hB11 (t := .byte) (by decide +kernel) rfl (g := (mkF m 48 #[.val (.ref a), .val (.ref b), .val (.int (Int32.ofNat o)), .val (.int (Int32.ofNat len)), .val .null, .val (.ref s.heap.size)] [.int 0, .ref a])) rfl (rest := []) rfl (hb hbytes d48)
  have c14 : Steps p.tables e below (s₁.setTop (entryFrame m #[.ref a, .ref b, .int (Int32.ofNat o), .int (Int32.ofNat len), .null] 6)) (T13.setTop (mkF m 54 #[.val (.ref a), .val (.ref b), .val (.int (Int32.ofNat o)), .val (.int (Int32.ofNat len)), .val .null, .val (.ref s.heap.size)] [.ref s.heap.size, .ref a])) := (c12.trans (st13 _ (Steps.refl _))).trans (by
    refine XS.aloadN X13.here hexec rfl (hb hbytes d51) rfl rfl ?_
    refine XS.aload X13.here hexec rfl (hb hbytes d52) rfl rfl ?_
    exact Steps.refl _)
  obtain ⟨T15, X15, p15, bl15, sl15, st15⟩ := X13.finit hexec hown (wk W (.fieldLink "java/lang/String" 9 "java/lang/String" "value" "[B")) (Or.inr ⟨_, (wk W (.laysFinal "java/lang/String" "java/lang/String" "value" "[B"))⟩) (Or.inl ⟨rfl, hnm⟩) f1 (Or.inl rfl) bl13 (t := (.array .byte)) (by decide +kernel) rfl (g := (mkF m 54 #[.val (.ref a), .val (.ref b), .val (.int (Int32.ofNat o)), .val (.int (Int32.ofNat len)), .val .null, .val (.ref s.heap.size)] [.ref s.heap.size, .ref a])) rfl (rest := []) rfl (hb hbytes d54)
  have c16 : Steps p.tables e below (s₁.setTop (entryFrame m #[.ref a, .ref b, .int (Int32.ofNat o), .int (Int32.ofNat len), .null] 6)) (T15.setTop (mkF m 57 #[.val (.ref a), .val (.ref b), .val (.int (Int32.ofNat o)), .val (.int (Int32.ofNat len)), .val .null, .val (.ref s.heap.size)] [])) := c14.trans (st15 _ (Steps.refl _))
  have ap := apart (Or.inr ⟨_, (wk W (.laysFinal "java/lang/String" "java/lang/String" "value" "[B"))⟩) (Or.inr ⟨_, (wk W (.laysFinal "java/lang/String" "java/lang/String" "coder" "B"))⟩) f1 f2 (t₁ := .array .byte) (t₂ := .byte) (by decide +kernel) (by decide +kernel) (by decide)
  have al := X8.warmed.alike.symm.trans X15.warmed.alike
  have n7 : T11.heap[s.heap.size]? = some N := by rw [q11]; exact n1.1
  exact ⟨T15, none, _, _, _, X15, by simp, rfl, by omega, (fun _ => rfl), ⟨rfl, _, N, bl15, ((Same.refl D _).set _ (by simp)).set _ (by simp), sl15, (Cell.slots_setSlot_ne _ ap).trans sl13, n1.keep al (p15.other hne (p13.other hne n7)), n2, by rw [al.findClass]; exact n3, n4, n5, fun y c h1 h2 => p15.other h1 (p13.other h1 (by rw [q11]; exact n6 y c h2)), by rw [p15.2.2, p13.2.2, q11]; exact z8⟩, fun fs hl => c16.trans (X15.returnOut hexec hret (hb hbytes d57) hl)⟩
end New4
namespace New1
def yN : MethodName := ⟨"java/lang/String", "<init>", "([C)V"⟩
abbrev yB : ByteArray := jdk_42_method_3_code
theorem d0 : decode yB 0 = .ok (.aload_n 0, 1) := by decide +kernel
theorem d1 : decode yB 1 = .ok (.aload_n 1, 1) := by decide +kernel
theorem d2 : decode yB 2 = .ok (.iconst 0, 1) := by decide +kernel
theorem d3 : decode yB 3 = .ok (.aload_n 1, 1) := by decide +kernel
theorem d4 : decode yB 4 = .ok (.arraylength, 1) := by decide +kernel
theorem d5 : decode yB 5 = .ok (.aconst_null, 1) := by decide +kernel
theorem d6 : decode yB 6 = .ok (.invokespecial 27, 3) := by decide +kernel
theorem d9 : decode yB 9 = .ok (.return_, 1) := by decide +kernel
def site : List Cond := [New4.tab] ++ initW "java/lang/String" 27 New4.yN
def tab : Cond := tabOf yN yB 2 none site
def P (a : Addr) (D : Cell) (fV fC : Field) (b : Addr) (A : Cell) (z : Int32) (args : Array Value) (s : State) : Prop := args = #[.ref a, .ref b] ∧ Blank "java/lang/String" a D s ∧ Found "java/lang/String" "value" "[B" fV s ∧ Found "java/lang/String" "coder" "B" fC s ∧ Ch b A s ∧ StaticIs s "java/lang/String" "COMPACT_STRINGS" "Z" (.int z) ∧ ¬ z = 0 ∧ 0 < A.slots.size ∧ A.slots.size ≤ 536870912 ∧ ∀ i, i < A.slots.size → ¬ 255 < cv A i
def E (a : Addr) (D : Cell) (fV fC : Field) (A : Cell) (r : Option Value) (s u : State) : Prop := Got a D fV fC A 0 A.slots.size r s u
/-- new String(chars), not empty, no char above 255: a Latin-1 String of their low bytes -/
theorem law (l : Launch) (a : Addr) (D : Cell) (fV fC : Field) (b : Addr) (A : Cell) (z : Int32) : Law l yN 2 1 3 52 yB 2 none site (P a D fV fC b A z) (E a D fV fC A) [⟨a, fC.slot⟩, ⟨a, fV.slot⟩] 1 A.slots.size := by
  refine Law.of_walk (plainFor_of_name (by decide +kernel)) (by decide +kernel) (by decide +kernel) (by decide) (fun _ _ h => by rw [h.1]; rfl) (fun _ U U' hal hh h => ⟨h.1, h.2.1.mv hal hh, h.2.2.1.al hal, h.2.2.2.1.al hal, h.2.2.2.2.1.mv hal hh, h.2.2.2.2.2.1.there hal hh, h.2.2.2.2.2.2⟩) (fun r U U' V V' h1 hal h2 h => Got.mv r U U' V V' h1 hal h2 h) ?_
  intro p e s m args below meth c s₁ X0 hexec hbytes hml hret hlk hnm hown hh0 W hP
  obtain ⟨rfl, hB, f1, f2, hA, s1, hz, l0, l2, hp⟩ := hP
  have c1 : Steps p.tables e below (s₁.setTop (entryFrame m #[.ref a, .ref b] 2)) (s₁.setTop (mkF m 0 #[.val (.ref a), .val (.ref b)] [])) := entry rfl
  have c2 : Steps p.tables e below (s₁.setTop (entryFrame m #[.ref a, .ref b] 2)) (s₁.setTop (mkF m 6 #[.val (.ref a), .val (.ref b)] [.null, .int (Int32.ofNat A.slots.size), .int 0, .ref b, .ref a])) := c1.trans (by
    refine XS.aloadN X0.here hexec rfl (hb hbytes d0) rfl rfl ?_
    refine XS.aloadN X0.here hexec rfl (hb hbytes d1) rfl rfl ?_
    refine iconstV X0.here hexec rfl 0 (hb hbytes d2) (by decide) ?_
    refine XS.aloadN X0.here hexec rfl (hb hbytes d3) rfl rfl ?_
    refine X0.alen hexec (hA.1.mv X0.warmed.alike hh0) rfl rfl (hb hbytes d4) ?_
    refine XS.aconstNull X0.here hexec rfl (hb hbytes d5) ?_
    exact Steps.refl _)
  obtain ⟨v3, T3, X3, E3, g3⟩ := X0.callN hexec (New4.law l a D fV fC b A z 0 A.slots.size) rfl hown (wks W (initW "java/lang/String" 27 New4.yN)) (W New4.tab (by simp only [site, List.mem_cons, List.mem_append, true_or, or_true])) (W := 0) (Nat.le_of_ble_eq_true rfl) (Nat.le_of_ble_eq_true rfl) (Nat.le_refl _) (by show 0 + A.slots.size ≤ A.slots.size; omega) (g := (mkF m 6 #[.val (.ref a), .val (.ref b)] [.null, .int (Int32.ofNat A.slots.size), .int (Int32.ofNat 0), .ref b, .ref a])) rfl (by rw [hml]; rfl) c2 (argsL := [.ref b, .int (Int32.ofNat 0), .int (Int32.ofNat A.slots.size), .null]) (rest := []) rfl rfl (by show 2 * 0 + 0 ≤ _; decide) (hb hbytes d6) (⟨rfl, hB.mv X0.warmed.alike hh0, f1.al X0.warmed.alike, f2.al X0.warmed.alike, hA.mv X0.warmed.alike hh0, s1.there X0.warmed.alike hh0, hz, l0, by omega, l2, fun i hi => by rw [Nat.zero_add]; exact hp i hi⟩)
  have e0 := Got.mv _ s₁ s _ _ hh0.symm (Vm.Alike.refl _) rfl E3
  obtain rfl := e0.1
  have c4 : Steps p.tables e below (s₁.setTop (entryFrame m #[.ref a, .ref b] 2)) (T3.setTop (mkF m 9 #[.val (.ref a), .val (.ref b)] [])) := g3
  exact ⟨T3, none, _, _, _, X3, by simp, rfl, by omega, (fun _ => rfl), e0, fun fs hl => c4.trans (X3.returnOut hexec hret (hb hbytes d9) hl)⟩
theorem pays {l : Launch} {R : Room} {p : Program} {e : Env} {below : List Frame} {s : State} {sargs : Array Value} {len W : Nat} (a : Addr) (D : Cell) (fV fC : Field) (b : Addr) (A : Cell) (z : Int32) (htab : tab.before sargs s = true) (hfr : 4 ≤ R.frames) (hlo : W + 65 ≤ R.locals) :
    Back l R p e below s sargs yN len W (fun A₁ a₁ => A₁.cells + 1 ≤ R.cells ∧ A₁.slots + A.slots.size ≤ R.slots ∧ P a D fV fC b A z a₁ A₁.U) (fun A₁ _ v₁ B₁ => E a D fV fC A v₁ A₁.U B₁.U ∧ B₁.locs = A₁.locs ++ [⟨a, fC.slot⟩, ⟨a, fV.slot⟩] ∧ B₁.cells = A₁.cells + 1 ∧ B₁.slots = A₁.slots + A.slots.size) :=
  (law l a D fV fC b A z).pays htab hfr (by omega)
end New1
end StrChars
namespace StrChars.Road
open Jvm Sem ClassFile Op Lib Jvm.Stand Jvm.Free Jvm.Free.XT
open Jvm.Lib.Cold (StaticIs)
abbrev ST : String := "java/lang/String"
/-- every table word that New1's law asks, flat -/
abbrev words : List Jvm.Cond := [.code New1.yN New1.yB 2 none, .initialized ST, .methodLink ST 27 New4.yN, .instanceMethod New4.yN,
  .code New4.yN New4.yB 6 none, .fieldLink ST 38 ST "COMPACT_STRINGS" "Z", .laysFinal ST ST "value" "[B", .fieldLink ST 9 ST "value" "[B", .laysFinal ST ST "coder" "B", .fieldLink ST 15 ST "coder" "B",
  .methodLink ST 1 Lib.objectInit, .instanceMethod Lib.objectInit, .code Lib.objectInit ⟨#[0xb1]⟩ 1 none, .methodLink ST 177 Cmp3.yN, .static Cmp3.yN, .methodLink ST 47 CodL.yN, .static CodL.yN,
  .code Cmp3.yN Cmp3.yB 6 (some (.array .byte)), .initialized U16, .arrayClass .byte, .methodLink U16 115 Cmp5.yN, .static Cmp5.yN, .code Cmp5.yN Cmp5.yB 7 (some .int), .code CodL.yN CodL.yB 2 (some .byte)]
theorem tab_of {a : Array Value} {s : State} (h : ∀ w ∈ words, w.before a s = true) : New1.tab.before a s = true := by
  have h5 : Cmp5.tab.before a s = true := unparts (wk h (.code Cmp5.yN Cmp5.yB 7 (some .int))) (wks h (.initialized Cmp5.yN.cls :: Cmp5.site))
  have hc : CodL.tab.before a s = true := unparts (wk h (.code CodL.yN CodL.yB 2 (some .byte))) (wks h (.initialized CodL.yN.cls :: CodL.site))
  have q5 : ∀ w ∈ Cmp5.tab :: words, w.before a s = true := fun w hw => (List.mem_cons.mp hw).elim (fun e => e ▸ h5) (h w)
  have h3 : Cmp3.tab.before a s = true := unparts (wk q5 (.code Cmp3.yN Cmp3.yB 6 (some (.array .byte)))) (wks q5 (.initialized Cmp3.yN.cls :: Cmp3.site))
  have q3 : ∀ w ∈ Cmp3.tab :: CodL.tab :: words, w.before a s = true := fun w hw => (List.mem_cons.mp hw).elim (fun e => e ▸ h3) fun hw => (List.mem_cons.mp hw).elim (fun e => e ▸ hc) (h w)
  have h4 : New4.tab.before a s = true := unparts (wk q3 (.code New4.yN New4.yB 6 none)) (wks q3 (.initialized New4.yN.cls :: New4.site))
  have q4 : ∀ w ∈ New4.tab :: words, w.before a s = true := fun w hw => (List.mem_cons.mp hw).elim (fun e => e ▸ h4) (h w)
  exact unparts (wk q4 (.code New1.yN New1.yB 2 none)) (wks q4 (.initialized New1.yN.cls :: New1.site))
/-- the words ride from the start Z to the walk's own state -/
theorem moved {Z s : State} {a0 args : Array Value} (hZ : Z.Warmed39 s.vm) (hw : ∀ d ∈ words, d.before a0 Z = true) : ∀ d ∈ words, d.before args s = true := fun d hd => by
  have q := hw d hd
  have t : ∀ d ∈ words, d = .arrayClass .byte ∨ (d.onTables && d.keepsFace) = true := by decide +kernel
  rcases t d hd with rfl | t
  · exact RoadKit.mvA hZ q
  · exact RoadKit.mv hZ q t
/-- WHAT COMES BACK, over the tables of the start Z: h the heap at the call, h' behind it -/
def Q (Z : State) (x : Addr) (A : Cell) (h : Heap) (v : Option Value) (h' : Heap) (L : List Loc) : Prop := v = none ∧ (∀ y ∈ L, y.base = x) ∧ RoadKit.Keep h h' [x] ∧ h'.size = h.size + 1 ∧ RoadKit.Exa Z h' x ST ∧ RoadKit.Fld Z h' x ST "value" "[B" (.ref h.size) ∧ RoadKit.Fld Z h' x ST "coder" "B" (.int 0) ∧
  (∃ V : Cell, RoadKit.Arr Z h' h.size V .byte ∧ V.vm = .none ∧ Z.vm.findClass "[B" = some V.cls ∧ V.slots.size = A.slots.size ∧ ∀ j, j < A.slots.size → V.slots[j]? = some (.int (lo8 (cv A j)))) ∧
  ∀ (O n d : String) (w : Value), RoadKit.Fld Z h x O n d w → RoadKit.slotOf Z O n d ≠ RoadKit.slotOf Z ST "value" "[B" → RoadKit.slotOf Z O n d ≠ RoadKit.slotOf Z ST "coder" "B" → RoadKit.Fld Z h' x O n d w
/-- **new String(chars) AT A CALL, IN THE ROAD'S FORM**: for specialBack behind newO: x the fresh String, b the char[] with the cell A -/
theorem back {p : Program} {l : Launch} {e : Env} {R : Room} {s : State} {args : Array Value} {below : List Frame} {len W : Nat} {Z : State} {a0 : Array Value} {h : Heap} (hZ : Z.Warmed39 s.vm) (hw : ∀ d ∈ words, d.before a0 Z = true) {kI : Nat} (wi : (Jvm.Cond.instantiable ST kI).before a0 Z = true)
    {x b : Addr} {A : Cell} {z : Int32} {v0 c0 : Value} (E : RoadKit.Exa Z h x ST) (V : RoadKit.Fld Z h x ST "value" "[B" v0) (C : RoadKit.Fld Z h x ST "coder" "B" c0) (K : RoadKit.Arr Z h b A .char) (hty : Typed .char A) (S : RoadKit.Sta Z h ST "COMPACT_STRINGS" "Z" (.int z)) (hz : ¬ z = 0)
    (l0 : 0 < A.slots.size) (l2 : A.slots.size ≤ 536870912) (hp : ∀ i, i < A.slots.size → ¬ 255 < cv A i) (hfr : 4 ≤ R.frames) (hlo : W + 65 ≤ R.locals) :
    Back l R p e below s args New1.yN len W (fun P a => a = #[.ref x, .ref b] ∧ P.U.heap = h ∧ P.cells + 1 ≤ R.cells ∧ P.slots + A.slots.size ≤ R.slots)
      (fun P _ v B => ∃ L, Q Z x A h v B.U.heap L ∧ B.locs = P.locs ++ L ∧ B.cells = P.cells + 1 ∧ B.slots = P.slots + A.slots.size) := by
  intro m meth c P g ig mk a X hg hsize hdg hW hn hp'
  obtain ⟨rfl, rfl, r1, r2⟩ := hp'
  have al : Z.vm.Alike P.U.vm := hZ.alike.trans X.warmed.alike
  obtain ⟨D, cfV, kV, iV, fV, hD, gV, stV, knV, obV, asV, slV⟩ := id V
  obtain ⟨D', cfC, kC, iC, fC, hD', gC, stC, -, -, asC, slC⟩ := id C
  cases hD.symm.trans hD'
  obtain ⟨D2, kD, e1, e2, e3, e4, e5⟩ := id E
  cases hD.symm.trans e1
  obtain ⟨c2, k2, i1, i2, i3, -⟩ := Cond.instantiable_spec wi
  cases e2.symm.trans i1
  cases e3.symm.trans i2
  obtain ⟨kU, u1, u2⟩ := al.2.2 _ _ e3
  have hB : Blank ST x D P.U := ⟨hD, ⟨knV, fun q hq => by rw [hq] at obV; cases obV⟩, by rw [al.findClass]; exact e2, kU, u1, by rw [u2]; exact i3, by rw [u2]; exact e5 i3⟩
  have F1 : Found ST "value" "[B" fV P.U := ⟨SBG.found_only al ⟨cfV, kV, iV, gV⟩, stV⟩
  have F2 : Found ST "coder" "B" fC P.U := ⟨SBG.found_only al ⟨cfC, kC, iC, gC⟩, stC⟩
  have hA : Ch b A P.U := ⟨⟨K.1, State.isArrayOf_alike al K.2.1, K.2.2, by omega⟩, hty⟩
  have hS : StaticIs P.U ST "COMPACT_STRINGS" "Z" (.int z) := by
    obtain ⟨cfS, iS, kS, fS, st, cS, t1, t2, t3, t4, t5, t6, t7⟩ := S
    exact StaticIs.there (s := { Z with heap := P.U.heap }) ⟨cfS, iS, kS, fS, st, cS, t1, t2, t3, t4, t5, (fun q => by rw [q] at t6; cases t6), t7⟩ al rfl
  obtain ⟨v, B, X', ⟨⟨hv, E', V', q1, q2, q3, q4, q5, q6, q7, q8, q9, q10, q11⟩, hl, hc, hs⟩, st⟩ := New1.pays x D fV fC b A z (tab_of (moved hZ hw)) hfr hlo m meth c P g ig mk _ X hg hsize hdg hW hn ⟨r1, r2, rfl, hB, F1, F2, hA, hS, hz, l0, l2, hp⟩
  have al' : Z.vm.Alike B.U.vm := hZ.alike.trans X'.warmed.alike
  have hsz : E'.slots.size = D.slots.size := by
    obtain ⟨-, -, -, kB, w1, w2, w3⟩ := q1
    obtain ⟨kB', y1, y2⟩ := al'.2.2 _ _ e3
    rw [q2.2.1] at w1
    cases w1.symm.trans y1
    rw [w3, e5 i3, y2]
  refine ⟨v, B, X', ⟨_, ⟨hv, ?_, ⟨by omega, fun y cy hy hn' => q10 y cy (by simpa using hn') hy, fun y cy hy => ?_⟩, q11, ⟨E', _, q1.1, by rw [q2.2.1]; exact e2, by rw [q2.2.1]; exact e3, by rw [q2.1]; exact obV, fun _ => by rw [hsz]; exact e5 i3⟩,
    ⟨E', cfV, kV, iV, fV, q1.1, gV, stV, by rw [q2.1]; exact knV, by rw [q2.1]; exact obV, by rw [q2.2.1]; exact asV, q3⟩, ⟨E', cfC, kC, iC, fC, q1.1, gC, stC, by rw [q2.1]; exact knV, by rw [q2.1]; exact obV, by rw [q2.2.1]; exact asC, q4⟩,
    ⟨V', ⟨q5.1, State.isArrayOf_alike al'.symm q5.2.1, q5.2.2.1⟩, q6, by rw [← al'.findClass]; exact q7, q8, fun j hj => by have := q9 j hj; rwa [Nat.zero_add] at this⟩, fun O n d w F n1 n2 => ?_⟩, hl, hc, hs⟩, st⟩
  · intro y hy
    simp only [List.mem_cons, List.not_mem_nil, or_false] at hy
    rcases hy with rfl | rfl <;> rfl
  · by_cases q : y = x
    · subst q
      cases hD.symm.trans hy
      exact ⟨E', q1.1, q2.2.1, q2.1, hsz⟩
    · exact ⟨cy, q10 y cy q hy, rfl, rfl, rfl⟩
  · obtain ⟨D3, cf, k, i, f, g1, g2, g3, g4, g5, g6, g7⟩ := F
    cases hD.symm.trans g1
    simp only [RoadKit.slotOf, g2, gV, gC, Option.map_some, Option.getD_some] at n1 n2
    exact ⟨E', cf, k, i, f, q1.1, g2, g3, by rw [q2.1]; exact g4, by rw [q2.1]; exact g5, by rw [q2.2.1]; exact g6, by rw [q2.2.2 f.slot (by simp [n1, n2])]; exact g7⟩
end StrChars.Road
namespace StrChars.Road
open Jvm Sem ClassFile Op Lib Jvm.Stand Jvm.Free Jvm.Free.XT
/-- WHAT COMES BACK, the byte[] as a list of values -/
def QA (Z : State) (x : Addr) (zn : Int32) (cs : List Int32) (h : Heap) (v : Option Value) (h' : Heap) (L : List Loc) : Prop := v = none ∧ (∀ y ∈ L, y.base = x) ∧ RoadKit.Keep h h' [x] ∧ h'.size = h.size + 1 ∧ RoadKit.Exa Z h' x ST ∧ RoadKit.Fld Z h' x ST "value" "[B" (.ref h.size) ∧ RoadKit.Fld Z h' x ST "coder" "B" (.int 0) ∧
  (∃ kb, Z.vm.findClass "[B" = some kb ∧ RoadKit.Arv Z h' h.size kb .byte zn (cs.map fun c => .int (lo8 c)) (.int 0)) ∧
  ∀ (O n d : String) (w : Value), RoadKit.Fld Z h x O n d w → RoadKit.slotOf Z O n d ≠ RoadKit.slotOf Z ST "value" "[B" → RoadKit.slotOf Z O n d ≠ RoadKit.slotOf Z ST "coder" "B" → RoadKit.Fld Z h' x O n d w
/-- **new String(chars) AT A CALL, THE ARRAYS AS LISTS**: the char[] at b holds cs, not empty, no char above 255 -/
theorem backArv {p : Program} {l : Launch} {e : Env} {R : Room} {s : State} {args : Array Value} {below : List Frame} {len W : Nat} {Z : State} {a0 : Array Value} {h : Heap} (hZ : Z.Warmed39 s.vm) (hw : ∀ d ∈ words, d.before a0 Z = true) {kI : Nat} (wi : (Jvm.Cond.instantiable ST kI).before a0 Z = true)
    {x b : Addr} {k : ClassId} {zn z : Int32} {cs : List Int32} {dv v0 c0 : Value} (E : RoadKit.Exa Z h x ST) (V : RoadKit.Fld Z h x ST "value" "[B" v0) (C : RoadKit.Fld Z h x ST "coder" "B" c0) (K : RoadKit.Arv Z h b k .char zn (cs.map Value.int) dv) (S : RoadKit.Sta Z h ST "COMPACT_STRINGS" "Z" (.int z)) (hz : ¬ z = 0)
    (hlen : zn.toNatClampNeg = cs.length) (h0 : 0 < cs.length) (hbig : cs.length ≤ 536870912) (hall : ∀ c ∈ cs, ¬ 255 < c) (hfr : 4 ≤ R.frames) (hlo : W + 65 ≤ R.locals) :
    Back l R p e below s args New1.yN len W (fun P a => a = #[.ref x, .ref b] ∧ P.U.heap = h ∧ P.cells + 1 ≤ R.cells ∧ P.slots + cs.length ≤ R.slots)
      (fun P _ v B => ∃ L, QA Z x zn cs h v B.U.heap L ∧ B.locs = P.locs ++ L ∧ B.cells = P.cells + 1 ∧ B.slots = P.slots + cs.length) := by
  obtain ⟨A, K1, K2, K3, K4, K5, K6⟩ := K
  have e : A.slots.size = cs.length := K3.trans hlen
  have hat : ∀ (i : Nat) (hi : i < cs.length), A.slots[i]? = some (.int cs[i]) := fun i hi => by rw [K5 i (by omega)]; simp [List.getD_eq_getElem?_getD, hi]
  have hcv : ∀ (i : Nat) (hi : i < cs.length), cv A i = cs[i] := fun i hi => by unfold cv; rw [hat i hi]
  have hty : Typed .char A := fun i v hv => by
    have hi : i < A.slots.size := (Array.getElem?_eq_some_iff.mp hv).1
    have q := K5 i hi
    rw [hv] at q
    rw [Option.some.inj q]
    exact K6 i hi
  refine Back.mono (back hZ hw wi E V C K1 hty S hz (by omega) (by omega) (fun i hi => by rw [hcv i (by omega)]; exact hall _ (List.getElem_mem _)) hfr hlo) (fun P a hp => ⟨hp.1, hp.2.1, hp.2.2.1, by rw [e]; exact hp.2.2.2⟩) (fun P a v B hp hq => ?_)
  obtain ⟨L, ⟨q1, q2, q3, q4, q5, q6, q7, ⟨V', v1, v2, v3, v4, v5⟩, q9⟩, hl, hc, hs⟩ := hq
  refine ⟨L, ⟨q1, q2, q3, q4, q5, q6, q7, ⟨V'.cls, v3, V', v1, rfl, by rw [v4, e, hlen], K4, fun i hi => ?_, fun i hi => ?_⟩, q9⟩, hl, hc, by rw [hs, e]⟩
  · have hi' : i < cs.length := by omega
    rw [v5 i (by omega), hcv i hi']; simp [List.getD_eq_getElem?_getD, hi']
  · have hi' : i < cs.length := by omega
    simp only [List.getD_eq_getElem?_getD, List.getElem?_map, List.getElem?_eq_getElem hi', Option.map_some, Option.getD_some]
    exact fits_lo8 _
end StrChars.Road
namespace StrChars.Road
open Jvm Sem ClassFile Op Lib Jvm.Stand Jvm.Free Jvm.Free.XT
/-- WHAT COMES BACK, in the writer's own shape -/
def QV (Z : State) (x : Addr) (N : Int32) (bs : List Int32) (h : Heap) (n0 : Nat) (v : Option Value) (h' : Heap) (L : List Loc) : Prop := v = none ∧ RoadKit.Fr n0 L ∧ RoadKit.Keep h h' [x] ∧ RoadKit.Exa Z h' x ST ∧ RoadKit.Fld Z h' x ST "coder" "B" (.int 0) ∧
  ∃ (t : Addr) (kb : ClassId), n0 ≤ t ∧ h.size ≤ t ∧ ¬ t = x ∧ RoadKit.Fld Z h' x ST "value" "[B" (.ref t) ∧ RoadKit.Arv Z h' t kb .byte N (bs.map Value.int) (.int 0)
/-- **new String(chars) AT A CALL, FOR THE WRITER**: a char[] of n known ints, each 0 to 255 -/
theorem backV {p : Program} {l : Launch} {e : Env} {R : Room} {s : State} {args : Array Value} {below : List Frame} {len W : Nat} {Z : State} {a0 : Array Value} {h : Heap} (hZ : Z.Warmed39 s.vm) (hw : ∀ d ∈ words, d.before a0 Z = true) {kI : Nat} (wi : (Jvm.Cond.instantiable ST kI).before a0 Z = true)
    {x b : Addr} {kC : ClassId} {cs bs : List Int32} {d v0 c0 : Value} {z N : Int32} {n n0 : Nat} (hx0 : n0 ≤ x) (hh0 : n0 ≤ h.size) (E : RoadKit.Exa Z h x ST) (V : RoadKit.Fld Z h x ST "value" "[B" v0) (C : RoadKit.Fld Z h x ST "coder" "B" c0) (K : RoadKit.Arv Z h b kC .char N (cs.map Value.int) d) (S : RoadKit.Sta Z h ST "COMPACT_STRINGS" "Z" (.int z)) (hz : ¬ z = 0)
    (hn : cs.length = n) (hN : N = Int32.ofNat n) (l0 : 0 < n) (l2 : n ≤ 4000) (hp : ∀ c ∈ cs, ¬ c < 0 ∧ ¬ (255 : Int32) < c) (hb : bs = cs.map (fun c => c.toInt8.toInt32)) (hfr : 4 ≤ R.frames) (hlo : W + 65 ≤ R.locals) :
    Back l R p e below s args (⟨"java/lang/String", "<init>", "([C)V"⟩ : MethodName) len W (fun P a => a = #[.ref x, .ref b] ∧ P.U.heap = h ∧ P.cells + 1 ≤ R.cells ∧ P.slots + n ≤ R.slots)
      (fun P _ v B => ∃ L, QV Z x N bs h n0 v B.U.heap L ∧ B.locs = P.locs ++ L ∧ B.cells = P.cells + 1 ∧ B.slots = P.slots + n) := by
  subst hn hN hb
  refine Back.mono (backArv hZ hw wi E V C K S hz (n32 (by omega)) l0 (by omega) (fun c hc => (hp c hc).2) hfr hlo) (fun P a hp => hp) (fun P a v B hp hq => ?_)
  obtain ⟨L, ⟨q1, q2, q3, q4, q5, q6, q7, ⟨kb, v1, v2⟩, q9⟩, hl, hc, hs⟩ := hq
  exact ⟨L, ⟨q1, fun y hy => by rw [q2 y hy]; exact hx0, q3, q5, q7, h.size, kb, hh0, Nat.le_refl _, Nat.ne_of_gt E.lt, q6, by rw [List.map_map]; exact v2⟩, hl, hc, hs⟩
end StrChars.Road
end Jvm.Pilot.@@N@@
namespace Jvm.Pilot.@@N@@
open Jvm Jvm.ClassFile Sem Op Lib Jvm.Free Jvm.Stand Jvm.LawKit Jvm.RoadKit Bundle Jvm.Pilot.@@N@@.Jvm.D

section OwnKit
variable {p : Program} {l : Launch} {e : Env} {R : Room} {s : State} {m : MethodId} {args : Array Value} {below : List Frame} {meth : Method} {c : Code} {T : State} {locs : List Loc} {cells slots : Nat} {Q : Option Value → Heap → List Loc → Prop} {kc kn : Nat} {h : Heap}
/-- from T, with the frame g on top, the body comes to its end, and the end is as Q says -/
def own_Fin (p : Program) (e : Env) (s : State) (below : List Frame) (Q : Option Value → Heap → List Loc → Prop) (kc kn : Nat) (T : State) (g : JFrame) : Prop :=
  ∃ s₂ o, Steps p.tables e below (T.setTop g) s₂ ∧ s₂.status = .running ∧ Ended s₂ below o ∧ ∃ v L, o = .returned v ∧ Q v s₂.heap L ∧ FrameEnd s o s₂ L kc kn
theorem own_via {T' : State} {g g' : JFrame} (k : ∀ t, Steps p.tables e below (T'.setTop g') t → Steps p.tables e below (T.setTop g) t) (hf : own_Fin p e s below Q kc kn T' g') : own_Fin p e s below Q kc kn T g := by
  obtain ⟨s2, o, h1, r⟩ := hf
  exact ⟨s2, o, k _ h1, r⟩
theorem own_ret0 (X : Stand p l e R s m args below meth c T locs cells slots) (hx : p.tables.exec = Jvm.exec) (hret : meth.sig.returnType = none) (hlk : meth.locks = false) {pc : Nat} {Ls : Array Slot} (hd : decode c.code pc = .ok (.return_, 1)) (eT : T.heap = h) (hq : Q none h locs) (hc : cells ≤ kc) (hs : slots ≤ kn) : own_Fin p e s below Q kc kn T (mkF m pc Ls []) := by
  obtain ⟨fs, hr, hrun, hended, hW, hsame⟩ := X.leave (v := none) (fun _ => rfl) hlk
  exact ⟨_, _, X.returnOut hx hret hd hr, hrun, hended, none, locs, rfl, by subst eT; exact hq, ⟨_, rfl⟩, hW, hsame.mono hc hs⟩
theorem own_retN (X : Stand p l e R s m args below meth c T locs cells slots) (hx : p.tables.exec = Jvm.exec) {t : FieldType} (hret : meth.sig.returnType = some t) (hlk : meth.locks = false) (ht : t = .boolean ∨ t = .byte ∨ t = .char ∨ t = .short) {pc : Nat} {Ls : Array Slot} {z r : Int32} {rest : List Value} (hd : decode c.code pc = .ok (.ireturn, 1)) (eT : T.heap = h) (hv : nar t z = r) (hq : Q (some (.int r)) h locs) (hc : cells ≤ kc) (hs : slots ≤ kn) : own_Fin p e s below Q kc kn T (mkF m pc Ls (.int z :: rest)) := by
  obtain ⟨fs, hr, hrun, hended, hW, hsame⟩ := X.leave (v := some (.int (nar t z))) (fun h => by rw [hret] at h; cases h) hlk
  exact ⟨_, _, retN X hx hret ht hd hr, hrun, hended, _, locs, rfl, by subst eT; rw [hv]; exact hq, ⟨_, rfl⟩, hW, hsame.mono hc hs⟩
theorem own_retI (X : Stand p l e R s m args below meth c T locs cells slots) (hx : p.tables.exec = Jvm.exec) (hret : meth.sig.returnType = some .int) (hlk : meth.locks = false) {pc : Nat} {Ls : Array Slot} {z r : Int32} {rest : List Value} (hd : decode c.code pc = .ok (.ireturn, 1)) (eT : T.heap = h) (hv : z = r) (hq : Q (some (.int r)) h locs) (hc : cells ≤ kc) (hs : slots ≤ kn) : own_Fin p e s below Q kc kn T (mkF m pc Ls (.int z :: rest)) := by
  subst hv
  obtain ⟨fs, hr, hrun, hended, hW, hsame⟩ := X.leave (v := some (.int z)) (fun h => by rw [hret] at h; cases h) hlk
  exact ⟨_, _, retOut X hx hret rfl (Or.inl ⟨rfl, Or.inl rfl, z, rfl⟩) hd hr, hrun, hended, _, locs, rfl, by subst eT; exact hq, ⟨_, rfl⟩, hW, hsame.mono hc hs⟩
theorem own_retJ (X : Stand p l e R s m args below meth c T locs cells slots) (hx : p.tables.exec = Jvm.exec) (hret : meth.sig.returnType = some .long) (hlk : meth.locks = false) {pc : Nat} {Ls : Array Slot} {z r : Int64} {rest : List Value} (hd : decode c.code pc = .ok (.lreturn, 1)) (eT : T.heap = h) (hv : z = r) (hq : Q (some (.long r)) h locs) (hc : cells ≤ kc) (hs : slots ≤ kn) : own_Fin p e s below Q kc kn T (mkF m pc Ls (.long z :: rest)) := by
  subst hv
  obtain ⟨fs, hr, hrun, hended, hW, hsame⟩ := X.leave (v := some (.long z)) (fun h => by rw [hret] at h; cases h) hlk
  exact ⟨_, _, retOut X hx hret rfl (Or.inr (Or.inl ⟨rfl, rfl, z, rfl⟩)) hd hr, hrun, hended, _, locs, rfl, by subst eT; exact hq, ⟨_, rfl⟩, hW, hsame.mono hc hs⟩
theorem own_retD (X : Stand p l e R s m args below meth c T locs cells slots) (hx : p.tables.exec = Jvm.exec) (hret : meth.sig.returnType = some .double) (hlk : meth.locks = false) {pc : Nat} {Ls : Array Slot} {z r : UInt64} {rest : List Value} (hd : decode c.code pc = .ok (.dreturn, 1)) (eT : T.heap = h) (hv : z = r) (hq : Q (some (.double r)) h locs) (hc : cells ≤ kc) (hs : slots ≤ kn) : own_Fin p e s below Q kc kn T (mkF m pc Ls (.double z :: rest)) := by
  subst hv
  obtain ⟨fs, hr, hrun, hended, hW, hsame⟩ := X.leave (v := some (.double z)) (fun h => by rw [hret] at h; cases h) hlk
  exact ⟨_, _, retOut X hx hret rfl (Or.inr (Or.inr (Or.inl ⟨rfl, rfl, z, rfl⟩))) hd hr, hrun, hended, _, locs, rfl, by subst eT; exact hq, ⟨_, rfl⟩, hW, hsame.mono hc hs⟩
theorem own_retA (X : Stand p l e R s m args below meth c T locs cells slots) (hx : p.tables.exec = Jvm.exec) {t : FieldType} (hret : meth.sig.returnType = some t) (hlk : meth.locks = false) (ht : t.isReference = true) {pc : Nat} {Ls : Array Slot} {w : Value} {rest : List Value} (hw : w.isRef = true) (hd : decode c.code pc = .ok (.areturn, 1)) (eT : T.heap = h) (hq : Q (some w) h locs) (hc : cells ≤ kc) (hs : slots ≤ kn) : own_Fin p e s below Q kc kn T (mkF m pc Ls (w :: rest)) := by
  obtain ⟨fs, hr, hrun, hended, hW, hsame⟩ := X.leave (v := some w) (fun h => by rw [hret] at h; cases h) hlk
  have hn : narrow t w = w := by
    cases t <;> first | (cases ht; done) | rfl
  exact ⟨_, _, retOut X hx hret hn (Or.inr (Or.inr (Or.inr (Or.inr ⟨rfl, ht, hw⟩)))) hd hr, hrun, hended, _, locs, rfl, by subst eT; exact hq, ⟨_, rfl⟩, hW, hsame.mono hc hs⟩
end OwnKit

section OwnKitH
variable {p : Program} {l : Launch} {e : Env} {R : Room} {s : State} {m : MethodId} {args : Array Value} {below : List Frame} {meth : Method} {c : Code} {T : State} {locs : List Loc} {cells slots : Nat} {Q : Option Value → Heap → List Loc → Prop} {kc kn : Nat} {h h0 : Heap} {Z : State} {a0 : Array Value} {EL : List (String × Nat)} {vm : Vm} {k0 : Nat}
/-- own_Fin of a body that may load String constants -/
def own_FinH (p : Program) (e : Env) (s : State) (below : List Frame) (Z : State) (EL : List (String × Nat)) (Q : Option Value → Heap → List Loc → Prop) (kc kn : Nat) (T : State) (g : JFrame) : Prop :=
  ∃ s₂ o, Steps p.tables e below (T.setTop g) s₂ ∧ s₂.status = .running ∧ Ended s₂ below o ∧ ∃ v L, o = .returned v ∧ Q v s₂.heap L ∧ CHr Z EL s.vm s.heap s₂.vm s₂.heap ∧ ReturnedEndW s o s₂ L kc kn
theorem own_viaH {T' : State} {g g' : JFrame} (k : ∀ t, Steps p.tables e below (T'.setTop g') t → Steps p.tables e below (T.setTop g) t) (hf : own_FinH p e s below Z EL Q kc kn T' g') : own_FinH p e s below Z EL Q kc kn T g := by
  obtain ⟨s2, o, h1, r⟩ := hf
  exact ⟨s2, o, k _ h1, r⟩
theorem own_endH (X : Stand p l e R (s.setVm vm) m args below meth c T locs cells slots) (hlk : meth.locks = false) (hEL : EW Z a0 EL) (hZ : Z.Warmed39 vm) (hS : s.Since vm k0) (hk : k0 ≤ h.size) (hh : s.heap = h0) (C : CHr Z EL s.vm h0 vm h) (eT : T.heap = h) {v : Option Value} (hv : meth.sig.returnType = none → v = none) {g : JFrame}
    (st : ∀ fs : List Frame, (∀ (f : JFrame) (acts : List Action), f.method = m → f.locked = none → f.entered = [] → (doReturn e (T.setTop f) acts v).1 = T.setFrames fs) → Steps p.tables e below (T.setTop g) (T.setFrames fs)) (hq : Q v h locs) (hc : cells ≤ kc) (hs : slots ≤ kn) : own_FinH p e s below Z EL Q kc kn T g := by
  obtain ⟨fs, hr, hrun, hended, w1, w2, w3, w4⟩ := X.leaveW hS (by rw [eT]; exact hk) hv hlk
  subst eT hh
  have K : CHr Z EL vm T.heap T.vm T.heap := CHv.at X hZ hEL C.1
  exact ⟨_, _, st fs hr, hrun, hended, v, locs, rfl, hq, C.trans K, w1, w2, w3, w4.mono hc hs⟩
theorem own_ret0H (X : Stand p l e R (s.setVm vm) m args below meth c T locs cells slots) (hx : p.tables.exec = Jvm.exec) (hret : meth.sig.returnType = none) (hlk : meth.locks = false) (hEL : EW Z a0 EL) (hZ : Z.Warmed39 vm) (hS : s.Since vm k0) (hk : k0 ≤ h.size) (hh : s.heap = h0) (C : CHr Z EL s.vm h0 vm h) {pc : Nat} {Ls : Array Slot} (hd : decode c.code pc = .ok (.return_, 1)) (eT : T.heap = h) (hq : Q none h locs) (hc : cells ≤ kc) (hs : slots ≤ kn) : own_FinH p e s below Z EL Q kc kn T (mkF m pc Ls []) :=
  own_endH X hlk hEL hZ hS hk hh C eT (fun _ => rfl) (fun fs hr => X.returnOut hx hret hd hr) hq hc hs
theorem own_retNH (X : Stand p l e R (s.setVm vm) m args below meth c T locs cells slots) (hx : p.tables.exec = Jvm.exec) {t : FieldType} (hret : meth.sig.returnType = some t) (hlk : meth.locks = false) (hEL : EW Z a0 EL) (hZ : Z.Warmed39 vm) (hS : s.Since vm k0) (hk : k0 ≤ h.size) (hh : s.heap = h0) (C : CHr Z EL s.vm h0 vm h) (ht : t = .boolean ∨ t = .byte ∨ t = .char ∨ t = .short) {pc : Nat} {Ls : Array Slot} {z r : Int32} {rest : List Value} (hd : decode c.code pc = .ok (.ireturn, 1)) (eT : T.heap = h) (hv : nar t z = r) (hq : Q (some (.int r)) h locs) (hc : cells ≤ kc) (hs : slots ≤ kn) : own_FinH p e s below Z EL Q kc kn T (mkF m pc Ls (.int z :: rest)) := by
  subst hv
  exact own_endH X hlk hEL hZ hS hk hh C eT (fun q => by rw [hret] at q; cases q) (fun fs hr => retN X hx hret ht hd hr) hq hc hs
theorem own_retIH (X : Stand p l e R (s.setVm vm) m args below meth c T locs cells slots) (hx : p.tables.exec = Jvm.exec) (hret : meth.sig.returnType = some .int) (hlk : meth.locks = false) (hEL : EW Z a0 EL) (hZ : Z.Warmed39 vm) (hS : s.Since vm k0) (hk : k0 ≤ h.size) (hh : s.heap = h0) (C : CHr Z EL s.vm h0 vm h) {pc : Nat} {Ls : Array Slot} {z r : Int32} {rest : List Value} (hd : decode c.code pc = .ok (.ireturn, 1)) (eT : T.heap = h) (hv : z = r) (hq : Q (some (.int r)) h locs) (hc : cells ≤ kc) (hs : slots ≤ kn) : own_FinH p e s below Z EL Q kc kn T (mkF m pc Ls (.int z :: rest)) := by
  subst hv
  exact own_endH X hlk hEL hZ hS hk hh C eT (fun q => by rw [hret] at q; cases q) (fun fs hr => retOut X hx hret rfl (Or.inl ⟨rfl, Or.inl rfl, z, rfl⟩) hd hr) hq hc hs
theorem own_retAH (X : Stand p l e R (s.setVm vm) m args below meth c T locs cells slots) (hx : p.tables.exec = Jvm.exec) {t : FieldType} (hret : meth.sig.returnType = some t) (hlk : meth.locks = false) (hEL : EW Z a0 EL) (hZ : Z.Warmed39 vm) (hS : s.Since vm k0) (hk : k0 ≤ h.size) (hh : s.heap = h0) (C : CHr Z EL s.vm h0 vm h) (ht : t.isReference = true) {pc : Nat} {Ls : Array Slot} {w : Value} {rest : List Value} (hw : w.isRef = true) (hd : decode c.code pc = .ok (.areturn, 1)) (eT : T.heap = h) (hq : Q (some w) h locs) (hc : cells ≤ kc) (hs : slots ≤ kn) : own_FinH p e s below Z EL Q kc kn T (mkF m pc Ls (w :: rest)) := by
  have hn : narrow t w = w := by
    cases t <;> first | (cases ht; done) | rfl
  exact own_endH X hlk hEL hZ hS hk hh C eT (fun q => by rw [hret] at q; cases q) (fun fs hr => retOut X hx hret hn (Or.inr (Or.inr (Or.inr (Or.inr ⟨rfl, ht, hw⟩)))) hd hr) hq hc hs
/-- a String whose value is still null is no booked one -/
theorem own_safe_null {x : Addr} (hal : Z.vm.Alike vm) (E : Exa Z h x "java/lang/String") (F : Fld Z h x "java/lang/String" "value" "[B" .null) : Safe Z EL vm h x := fun B => by
  obtain ⟨p1, -, u, a, -, q, -, G, rfl | rfl⟩ := B
  · obtain ⟨cell, cf, k, i, f, h1, h2, h3, -, -, -, h7⟩ := F
    obtain ⟨cS, ⟨⟨s1, s2, s3, ⟨c', k', i', s4, s4'⟩, s5, s6, s7, s8, -⟩, -, -⟩, -⟩ := G
    cases (show h[q.sa]? = some q.sC from s1).symm.trans h1
    obtain ⟨k2, z4⟩ := ff_back (U := Wst Z vm h) hal s4
    cases h2.symm.trans z4
    rw [h7] at s8
    cases s8
  · obtain ⟨cell, k, e1, e2, e3, -⟩ := E
    cases (show h[q.sd]? = some q.SA from G.hd).symm.trans e1
    obtain ⟨cS, -, -, f, -⟩ := G
    have f' : vm.findClass "[B" = some q.SA.cls := f
    rw [hal.findClass] at f'
    obtain ⟨k1, q1, q2⟩ := Vm.findClass_spec f'
    obtain ⟨k2, q3, q4⟩ := Vm.findClass_spec e2
    cases q1.symm.trans q3
    exact absurd (q2.symm.trans q4) (by decide)
end OwnKitH

theorem own_lt32 {a b : Int32} : a < b ↔ a.toInt < b.toInt := Int32.lt_iff_toInt_lt
theorem own_in {x : Int32} (h1 : ¬ x < (-128 : Int32)) (h2 : ¬ (127 : Int32) < x) : ¬ (x + (128 : Int32)) < 0 ∧ (x + (128 : Int32)) < (256 : Int32) := by
  have e := c_iadd x (128 : Int32)
  have r := rng32 (x + (128 : Int32))
  rw [own_lt32] at *
  rw [own_lt32]
  have a1 : (-128 : Int32).toInt = -128 := by decide
  have a2 : (127 : Int32).toInt = 127 := by decide
  have a3 : (128 : Int32).toInt = 128 := by decide
  have a4 : (256 : Int32).toInt = 256 := by decide
  have a5 : (0 : Int32).toInt = 0 := by decide
  omega
theorem own_inL {x : Int64} (h1 : ¬ lcmpW x (-128 : Int64) < (0 : Int32)) (h2 : ¬ (0 : Int32) < lcmpW x (127 : Int64)) : ¬ (x.toInt32 + (128 : Int32)) < 0 ∧ (x.toInt32 + (128 : Int32)) < (256 : Int32) := by
  rw [lw_lt, Int64.lt_iff_toInt_lt] at h1
  rw [lw_gt, Int64.lt_iff_toInt_lt] at h2
  have b1 : (-128 : Int64).toInt = -128 := by decide
  have b2 : (127 : Int64).toInt = 127 := by decide
  have e0 := c_l2i x
  have r0 := rng32 x.toInt32
  have e := c_iadd x.toInt32 (128 : Int32)
  have r := rng32 (x.toInt32 + (128 : Int32))
  rw [own_lt32, own_lt32]
  have a3 : (128 : Int32).toInt = 128 := by decide
  have a4 : (256 : Int32).toInt = 256 := by decide
  have a5 : (0 : Int32).toInt = 0 := by decide
  omega
theorem own_i2c {x : Int32} (h0 : 0 ≤ x.toInt) (h1 : x.toInt < 65536) : x.toUInt32.toUInt16.toUInt32.toInt32 = x := Int32.toInt_inj.mp (by have := c_i2c x; omega)
theorem own_m255 (x : Int32) : 0 ≤ (x &&& (255 : Int32)).toInt ∧ (x &&& (255 : Int32)).toInt ≤ 255 := c_and x (255 : Int32) (by decide)
theorem own_m255L (x : Int64) : 0 ≤ (x &&& (255 : Int64)).toInt32.toInt ∧ (x &&& (255 : Int64)).toInt32.toInt ≤ 255 := by
  have e := c_maskL x (255 : Int64) 8 (by decide) (by decide)
  have e2 := c_l2i (x &&& (255 : Int64))
  have r := rng32 (x &&& (255 : Int64)).toInt32
  omega
theorem own_dbl (x : Int32) : nar .char (x &&& (255 : Int32)).toUInt32.toUInt16.toUInt32.toInt32 = x &&& (255 : Int32) := by
  have := own_m255 x
  show ((x &&& (255 : Int32)).toUInt32.toUInt16.toUInt32.toInt32).toUInt32.toUInt16.toUInt32.toInt32 = _
  have q := own_i2c (x := x &&& (255 : Int32)) (by omega) (by omega)
  rw [q, q]
theorem own_dblL (x : Int64) : nar .char ((x &&& (255 : Int64)).toInt32).toUInt32.toUInt16.toUInt32.toInt32 = (x &&& (255 : Int64)).toInt32 := by
  have := own_m255L x
  show (((x &&& (255 : Int64)).toInt32).toUInt32.toUInt16.toUInt32.toInt32).toUInt32.toUInt16.toUInt32.toInt32 = _
  have q := own_i2c (x := (x &&& (255 : Int64)).toInt32) (by omega) (by omega)
  rw [q, q]
theorem own_latZ {x : Int32} (h : 0 ≤ x.toInt ∧ x.toInt ≤ 255) : ¬ x < 0 ∧ ¬ (255 : Int32) < x := by
  have e : (255 : Int32).toInt = 255 := rfl
  have e0 : (0 : Int32).toInt = 0 := rfl
  rw [own_lt32, own_lt32]
  omega
theorem own_two (x : Int32) (y : Int64) : ∀ c ∈ [x &&& (255 : Int32), (y &&& (255 : Int64)).toInt32], ¬ c < 0 ∧ ¬ (255 : Int32) < c := by
  intro c hc
  simp only [List.mem_cons, List.not_mem_nil, or_false] at hc
  rcases hc with rfl | rfl
  · exact own_latZ (own_m255 x)
  · exact own_latZ (own_m255L y)
def own_EL : List (String × Nat) := []
theorem own_ew {Z : State} {a0 : Array Value} (hw : ∀ d ∈ tables_1, d.before a0 Z = true) : EW Z a0 own_EL := EW.nil
theorem own_atoms {Z : State} {a0 : Array Value} (hw : ∀ d ∈ tables_1, d.before a0 Z = true) : ∀ a ∈ Bundle.stringAtoms, a.before a0 Z = true := fun d hd => hw d ((by decide +kernel : ∀ d ∈ Bundle.stringAtoms, d ∈ tables_1) d hd)

theorem own_lenK {Z : State} {args : Array Value} {t : Term} {a : Addr} {c : Cell} {ty : FieldType} {k : Int32} (ev : t.eval args Z none [] Z = some (.ref a)) (A : Arr Z Z.heap a c ty) (h : (Cond.eq (.length t) (.int k)).value args Z none Z [] = some true) : c.slots.size < 2 ^ 31 ∧ c.slots.size.toInt32 = k := by
  have e := eqv_i (Term.int_eval k) h
  have ha : Z.arrayAt? a = some c := A.fin (Vm.Alike.refl _)
  have q : c.slots.size < 2 ^ 31 := by
    by_cases hl : c.slots.size < 2 ^ 31
    · exact hl
    · simp [Term.eval, ev, ha, hl] at e
  refine ⟨q, ?_⟩
  have e2 := len_f ev ha q
  rw [e] at e2
  exact (Value.int.inj (Option.some.inj e2)).symm
theorem own_len256 {Z : State} {args : Array Value} {t : Term} {a : Addr} {c : Cell} {ty : FieldType} (ev : t.eval args Z none [] Z = some (.ref a)) (A : Arr Z Z.heap a c ty) (h : (Cond.eq (.length t) (.int 256)).value args Z none Z [] = some true) : c.slots.size < 2 ^ 31 ∧ c.slots.size.toInt32 = 256 := own_lenK ev A h
theorem own_len0 {Z : State} {args : Array Value} {t : Term} {a : Addr} {c : Cell} {ty : FieldType} (ev : t.eval args Z none [] Z = some (.ref a)) (A : Arr Z Z.heap a c ty) (h : (Cond.eq (.length t) (.int 0)).value args Z none Z [] = some true) : c.slots.size < 2 ^ 31 ∧ c.slots.size.toInt32 = 0 := own_lenK ev A h
theorem own_eqi {Z : State} {args : Array Value} {t : Term} {k : Int32} (h : (Cond.eq t (.int k)).value args Z none Z [] = some true) : t.eval args Z none [] Z = some (.int k) := eqv_i (Term.int_eval k) h
def own_vfi (j : Int32) : Value := .int (j - (128 : Int32))
def own_vfl (j : Int32) : Value := .long (j - (128 : Int32)).toInt64
theorem own_sub_at {Z : State} {args : Array Value} {j : Int32} (hj : ¬ j < 0) : (Term.sub (.index 0) (.int 128)).eval args Z none [j.toNatClampNeg] Z = some (.int (j - (128 : Int32))) := by
  have e := idx_at (args := args) (first := Z) (s := Z) (o := none) hj
  simp [Term.eval, e]
  exact (back32 hj).1
theorem own_vfi_at {Z : State} {args : Array Value} {X : Term} {j : Int32} (hj : ¬ j < 0) (h : (Cond.eq X (.sub (.index 0) (.int 128))).value args Z none Z [j.toNatClampNeg] = some true) : X.eval args Z none [j.toNatClampNeg] Z = some (own_vfi j) := eqv_i (own_sub_at hj) h
theorem own_vfl_at {Z : State} {args : Array Value} {X : Term} {j : Int32} (hj : ¬ j < 0) (h : (Cond.eq X (.op1 .i2l (.sub (.index 0) (.int 128)))).value args Z none Z [j.toNatClampNeg] = some true) : X.eval args Z none [j.toNatClampNeg] Z = some (own_vfl j) := eqv_l (i2l_at (own_sub_at hj)) h
theorem own_d_jdk_18_1_0 : decode jdk_18_method_1_code 0 = .ok (.aload_n 0, 1) := by decide +kernel
theorem own_d_jdk_18_1_1 : decode jdk_18_method_1_code 1 = .ok (.invokespecial 1, 3) := by decide +kernel
theorem own_d_jdk_18_1_4 : decode jdk_18_method_1_code 4 = .ok (.return_, 1) := by decide +kernel
theorem own_pn0 : plainName "java/lang/Number" = true := by first | (simp [plainName, overriddenIn]; done) | decide +kernel
theorem own_ef_numInit (m : MethodId) (a1 : Addr) : entryFrame m #[(.ref a1)] 1 = mkF m 0 #[.val (.ref a1)] [] := by (first | (simp [entryFrame, mkF, argsToLocals, Value.category]; done) | rfl)
def own_Q_numInit (Z : State) (a1 : Addr) (h0 : Heap) (n0 : Nat) (vq : Option Value) (h : Heap) (Lq : List Loc) : Prop := (vq = none) ∧ (Fr n0 Lq) ∧ (h = h0)
set_option maxRecDepth 65536 in
set_option maxHeartbeats 40000000 in
theorem own_rm_numInit (l : Launch) (Z : State) (a0 : Array Value) (hw : ∀ d ∈ tables_1, d.before a0 Z = true) (ws : List Jvm.Cond) (a1 : Addr) (h0 : Heap) (n0 : Nat) (Z0 : n0 ≤ h0.size) :
    MetFree l (⟨"java/lang/Number", "<init>", "()V"⟩ : MethodName) (head1 (Jvm.Cond.code (⟨"java/lang/Number", "<init>", "()V"⟩ : MethodName) jdk_18_method_1_code 1 none :: ws) ({ frames := 1, cells := 0, slots := 0, locals := 12 } : Room)) (fun aq Uq => aq = #[(.ref a1)] ∧ Z.Warmed39 Uq.vm ∧ Uq.heap = h0) (fun _ _ _ _ _ => True) (fun _ Uq oq Uq' => ∃ vq Lq, oq = .returned vq ∧ own_Q_numInit Z a1 h0 n0 vq Uq'.heap Lq ∧ FrameEnd Uq oq Uq' Lq ({ frames := 1, cells := 0, slots := 0, locals := 12 } : Room).cells ({ frames := 1, cells := 0, slots := 0, locals := 12 } : Room).slots) := by
  refine MetFree.of_bodySF (plainFor_of_name own_pn0) hisR ?_
  intro p e s m args below meth cde s₁ Bd hml0 hP hK
  obtain ⟨rfl, hZ, hh⟩ := hP
  have hx := Bd.exec
  have hby := Bd.bytes
  have hml : cde.maxLocals = 1 := hml0
  have hown : s.vm.findClass "java/lang/Number" = some m.cls := findClass_of_methodNamed Bd.named
  have hnm := (name_of_methodNamed Bd.named Bd.method).1
  have X0 : Stand p l e ({ frames := 1, cells := 0, slots := 0, locals := 12 } : Room) s m #[(.ref a1)] below meth cde s₁ [] 0 0 := Stand.of_body Bd
  have e0 : s₁.heap = h0 := by rw [← hh, Bd.state]; rfl
  have N0 := Fr.nil n0
  show own_Fin p e s below (own_Q_numInit Z a1 h0 n0) ({ frames := 1, cells := 0, slots := 0, locals := 12 } : Room).cells ({ frames := 1, cells := 0, slots := 0, locals := 12 } : Room).slots s₁ (entryFrame m #[(.ref a1)] 1)
  rw [own_ef_numInit m a1]
  refine own_via (fun _ k => XS.aloadN X0.here hx rfl (hb hby own_d_jdk_18_1_0) rfl rfl k) ?_
  show own_Fin _ _ _ _ _ _ _ s₁ (mkF m 1 #[.val (.ref a1)] [(.ref a1)])
  obtain ⟨T1_, X1_, e1_, st1_⟩ := initO X0 hx hZ hown (hw _ (List.mem_of_getElem? (i := 93) rfl)) (hw _ (List.mem_of_getElem? (i := 30) rfl)) (hw _ (List.mem_of_getElem? (i := 31) rfl)) e0 (g := (mkF m 1 #[.val (.ref a1)] [(.ref a1)])) rfl (by rw [hml]; rfl) rfl (hb hby own_d_jdk_18_1_1) (by decide) (W := 0) (by show 2 * 0 + _ ≤ _; exact Nat.le_of_eq rfl) (by decide)
  refine own_via (fun _ k => st1_ _ k) ?_
  show own_Fin _ _ _ _ _ _ _ T1_ (mkF m 4 #[.val (.ref a1)] [])
  exact own_ret0 X1_ hx Bd.returns Bd.notSynchronized (hb hby own_d_jdk_18_1_4) e1_ ⟨rfl, N0, rfl⟩ (by decide) (by decide)
theorem own_d_jdk_33_23_0 : decode jdk_33_method_23_code 0 = .ok (.aload_n 0, 1) := by decide +kernel
theorem own_d_jdk_33_23_1 : decode jdk_33_method_23_code 1 = .ok (.invokespecial 202, 3) := by decide +kernel
theorem own_pd0 : parseMethodDescriptor "()V" = some ⟨[], none⟩ := by decide +kernel
theorem own_d_jdk_33_23_4 : decode jdk_33_method_23_code 4 = .ok (.aload_n 0, 1) := by decide +kernel
theorem own_d_jdk_33_23_5 : decode jdk_33_method_23_code 5 = .ok (.iload_n 1, 1) := by decide +kernel
theorem own_d_jdk_33_23_6 : decode jdk_33_method_23_code 6 = .ok (.putfield 205, 3) := by decide +kernel
theorem own_d_jdk_33_23_9 : decode jdk_33_method_23_code 9 = .ok (.return_, 1) := by decide +kernel
theorem own_pn1 : plainName "java/lang/Integer" = true := by first | (simp [plainName, overriddenIn]; done) | decide +kernel
theorem own_ef_intInit (m : MethodId) (a1 : Addr) (x : Int32) : entryFrame m #[(.ref a1), (.int x)] 2 = mkF m 0 #[.val (.ref a1), .val (.int x)] [] := by (first | (simp [entryFrame, mkF, argsToLocals, Value.category]; done) | rfl)
def own_Q_intInit (Z : State) (a1 : Addr) (x : Int32) (u1 : Value) (h0 : Heap) (n0 : Nat) (vq : Option Value) (h : Heap) (Lq : List Loc) : Prop := (vq = none) ∧ (Fr n0 Lq) ∧ (Keep h0 h [a1]) ∧ (Exa Z h a1 "java/lang/Integer")
set_option maxRecDepth 65536 in
set_option maxHeartbeats 40000000 in
theorem own_rm_intInit (l : Launch) (Z : State) (a0 : Array Value) (hw : ∀ d ∈ tables_1, d.before a0 Z = true) (ws : List Jvm.Cond) (a1 : Addr) (x : Int32) (u1 : Value) (h0 : Heap) (n0 : Nat) (Z0 : n0 ≤ h0.size) (E1 : Exa Z h0 a1 "java/lang/Integer") (F1 : Fld Z h0 a1 "java/lang/Integer" "value" "I" u1) (g1 : n0 ≤ a1) :
    MetFree l (⟨"java/lang/Integer", "<init>", "(I)V"⟩ : MethodName) (head1 (Jvm.Cond.code (⟨"java/lang/Integer", "<init>", "(I)V"⟩ : MethodName) jdk_33_method_23_code 2 none :: ws) ({ frames := 2, cells := 0, slots := 0, locals := 24 } : Room)) (fun aq Uq => aq = #[(.ref a1), (.int x)] ∧ Z.Warmed39 Uq.vm ∧ Uq.heap = h0) (fun _ _ _ _ _ => True) (fun _ Uq oq Uq' => ∃ vq Lq, oq = .returned vq ∧ own_Q_intInit Z a1 x u1 h0 n0 vq Uq'.heap Lq ∧ FrameEnd Uq oq Uq' Lq ({ frames := 2, cells := 0, slots := 0, locals := 24 } : Room).cells ({ frames := 2, cells := 0, slots := 0, locals := 24 } : Room).slots) := by
  refine MetFree.of_bodySF (plainFor_of_name own_pn1) hisR ?_
  intro p e s m args below meth cde s₁ Bd hml0 hP hK
  obtain ⟨rfl, hZ, hh⟩ := hP
  have hx := Bd.exec
  have hby := Bd.bytes
  have hml : cde.maxLocals = 2 := hml0
  have hown : s.vm.findClass "java/lang/Integer" = some m.cls := findClass_of_methodNamed Bd.named
  have hnm := (name_of_methodNamed Bd.named Bd.method).1
  have X0 : Stand p l e ({ frames := 2, cells := 0, slots := 0, locals := 24 } : Room) s m #[(.ref a1), (.int x)] below meth cde s₁ [] 0 0 := Stand.of_body Bd
  have e0 : s₁.heap = h0 := by rw [← hh, Bd.state]; rfl
  have N0 := Fr.nil n0
  show own_Fin p e s below (own_Q_intInit Z a1 x u1 h0 n0) ({ frames := 2, cells := 0, slots := 0, locals := 24 } : Room).cells ({ frames := 2, cells := 0, slots := 0, locals := 24 } : Room).slots s₁ (entryFrame m #[(.ref a1), (.int x)] 2)
  rw [own_ef_intInit m a1 x]
  refine own_via (fun _ k => XS.aloadN X0.here hx rfl (hb hby own_d_jdk_33_23_0) rfl rfl k) ?_
  show own_Fin _ _ _ _ _ _ _ s₁ (mkF m 1 #[.val (.ref a1), .val (.int x)] [(.ref a1)])
  obtain ⟨_, _, ⟨T1_, L1_, k1_, n1_⟩, -, X1_, ⟨Lc1_, hQ1_, l1_, y1_, z1_⟩, st1_⟩ := X0.specialBack hx (y := (⟨"java/lang/Number", "<init>", "()V"⟩ : MethodName)) rfl hown (mvT hZ (hw _ (List.mem_of_getElem? (i := 87) rfl))) (mvT hZ (hw _ (List.mem_of_getElem? (i := 88) rfl))) (mvT hZ (hw _ (List.mem_of_getElem? (i := 92) rfl))) (by decide) (backOf (W := 0) (own_rm_numInit l Z a0 hw [] a1 h0 n0 Z0 ) hZ (hw _ (List.mem_of_getElem? (i := 92) rfl)) (hw _ (List.mem_of_getElem? (i := 91) rfl)) (by decide) (by decide)) (g := (mkF m 1 #[.val (.ref a1), .val (.int x)] [(.ref a1)])) rfl (by rw [hml]; rfl) (Steps.refl _) (a := a1) (argsL := []) (rest := []) (lenOf own_pd0 rfl) rfl (by show 2 * 0 + _ ≤ _; exact Nat.le_of_eq rfl) (hb hby own_d_jdk_33_23_1) (fun _ _ => ⟨rfl, e0, (by decide : 0 + 0 ≤ _), (by decide : 0 + 0 ≤ _)⟩)
  dsimp only [Pt.U, Pt.locs, Pt.cells, Pt.slots] at X1_ l1_ y1_ z1_ st1_ hQ1_
  subst l1_ y1_ z1_
  obtain ⟨rfl, Nq1_, hh1_⟩ := hQ1_
  have N1_ := Fr.app N0 Nq1_
  refine own_via (fun _ k => st1_.trans k) ?_
  show own_Fin _ _ _ _ _ _ _ T1_ (mkF m 4 #[.val (.ref a1), .val (.int x)] [])
  refine own_via (fun _ k => XS.aloadN X1_.here hx rfl (hb hby own_d_jdk_33_23_4) rfl rfl k) ?_
  show own_Fin _ _ _ _ _ _ _ T1_ (mkF m 5 #[.val (.ref a1), .val (.int x)] [(.ref a1)])
  refine own_via (fun _ k => XS.iloadN X1_.here hx rfl (hb hby own_d_jdk_33_23_5) rfl k) ?_
  show own_Fin _ _ _ _ _ _ _ T1_ (mkF m 6 #[.val (.ref a1), .val (.int x)] [(.int x), (.ref a1)])
  obtain ⟨T2_, h2_, X2_, e2_, W2_, st2_⟩ := putF X1_ hx hZ hown (host := "") (Or.inl (hw _ (List.mem_of_getElem? (i := 94) rfl))) Via.refl hh1_ F1 E1 (Or.inr ⟨(hw _ (List.mem_of_getElem? (i := 95) rfl)), rfl, hnm⟩) (hw _ (List.mem_of_getElem? (i := 82) rfl)) (ty := .int) (by decide) rfl rfl (g := (mkF m 6 #[.val (.ref a1), .val (.int x)] [(.int x), (.ref a1)])) rfl rfl (hb hby own_d_jdk_33_23_6)
  have Fw2_ := F1.same W2_
  have N2_ := Fr.snoc X2_ N1_ g1
  refine own_via (fun _ k => st2_ _ k) ?_
  show own_Fin _ _ _ _ _ _ _ T2_ (mkF m 9 #[.val (.ref a1), .val (.int x)] [])
  exact own_ret0 X2_ hx Bd.returns Bd.notSynchronized (hb hby own_d_jdk_33_23_9) e2_ ⟨rfl, N2_, ((Keep.refl h0 [a1]).wr W2_ (Or.inl (List.mem_of_getElem? (i := 0) rfl))), (E1.wr W2_)⟩ (by decide) (by decide)
theorem own_d_jdk_35_26_0 : decode jdk_35_method_26_code 0 = .ok (.aload_n 0, 1) := by decide +kernel
theorem own_d_jdk_35_26_1 : decode jdk_35_method_26_code 1 = .ok (.invokespecial 270, 3) := by decide +kernel
theorem own_d_jdk_35_26_4 : decode jdk_35_method_26_code 4 = .ok (.aload_n 0, 1) := by decide +kernel
theorem own_d_jdk_35_26_5 : decode jdk_35_method_26_code 5 = .ok (.lload_n 1, 1) := by decide +kernel
theorem own_d_jdk_35_26_6 : decode jdk_35_method_26_code 6 = .ok (.putfield 273, 3) := by decide +kernel
theorem own_d_jdk_35_26_9 : decode jdk_35_method_26_code 9 = .ok (.return_, 1) := by decide +kernel
theorem own_pn2 : plainName "java/lang/Long" = true := by first | (simp [plainName, overriddenIn]; done) | decide +kernel
theorem own_ef_longInit (m : MethodId) (a1 : Addr) (x : Int64) : entryFrame m #[(.ref a1), (.long x)] 3 = mkF m 0 #[.val (.ref a1), .val (.long x), .second] [] := by (first | (simp [entryFrame, mkF, argsToLocals, Value.category]; done) | rfl)
def own_Q_longInit (Z : State) (a1 : Addr) (x : Int64) (u1 : Value) (h0 : Heap) (n0 : Nat) (vq : Option Value) (h : Heap) (Lq : List Loc) : Prop := (vq = none) ∧ (Fr n0 Lq) ∧ (Keep h0 h [a1]) ∧ (Exa Z h a1 "java/lang/Long")
set_option maxRecDepth 65536 in
set_option maxHeartbeats 40000000 in
theorem own_rm_longInit (l : Launch) (Z : State) (a0 : Array Value) (hw : ∀ d ∈ tables_1, d.before a0 Z = true) (ws : List Jvm.Cond) (a1 : Addr) (x : Int64) (u1 : Value) (h0 : Heap) (n0 : Nat) (Z0 : n0 ≤ h0.size) (E1 : Exa Z h0 a1 "java/lang/Long") (F1 : Fld Z h0 a1 "java/lang/Long" "value" "J" u1) (g1 : n0 ≤ a1) :
    MetFree l (⟨"java/lang/Long", "<init>", "(J)V"⟩ : MethodName) (head1 (Jvm.Cond.code (⟨"java/lang/Long", "<init>", "(J)V"⟩ : MethodName) jdk_35_method_26_code 3 none :: ws) ({ frames := 2, cells := 0, slots := 0, locals := 24 } : Room)) (fun aq Uq => aq = #[(.ref a1), (.long x)] ∧ Z.Warmed39 Uq.vm ∧ Uq.heap = h0) (fun _ _ _ _ _ => True) (fun _ Uq oq Uq' => ∃ vq Lq, oq = .returned vq ∧ own_Q_longInit Z a1 x u1 h0 n0 vq Uq'.heap Lq ∧ FrameEnd Uq oq Uq' Lq ({ frames := 2, cells := 0, slots := 0, locals := 24 } : Room).cells ({ frames := 2, cells := 0, slots := 0, locals := 24 } : Room).slots) := by
  refine MetFree.of_bodySF (plainFor_of_name own_pn2) hisR ?_
  intro p e s m args below meth cde s₁ Bd hml0 hP hK
  obtain ⟨rfl, hZ, hh⟩ := hP
  have hx := Bd.exec
  have hby := Bd.bytes
  have hml : cde.maxLocals = 3 := hml0
  have hown : s.vm.findClass "java/lang/Long" = some m.cls := findClass_of_methodNamed Bd.named
  have hnm := (name_of_methodNamed Bd.named Bd.method).1
  have X0 : Stand p l e ({ frames := 2, cells := 0, slots := 0, locals := 24 } : Room) s m #[(.ref a1), (.long x)] below meth cde s₁ [] 0 0 := Stand.of_body Bd
  have e0 : s₁.heap = h0 := by rw [← hh, Bd.state]; rfl
  have N0 := Fr.nil n0
  show own_Fin p e s below (own_Q_longInit Z a1 x u1 h0 n0) ({ frames := 2, cells := 0, slots := 0, locals := 24 } : Room).cells ({ frames := 2, cells := 0, slots := 0, locals := 24 } : Room).slots s₁ (entryFrame m #[(.ref a1), (.long x)] 3)
  rw [own_ef_longInit m a1 x]
  refine own_via (fun _ k => XS.aloadN X0.here hx rfl (hb hby own_d_jdk_35_26_0) rfl rfl k) ?_
  show own_Fin _ _ _ _ _ _ _ s₁ (mkF m 1 #[.val (.ref a1), .val (.long x), .second] [(.ref a1)])
  obtain ⟨_, _, ⟨T1_, L1_, k1_, n1_⟩, -, X1_, ⟨Lc1_, hQ1_, l1_, y1_, z1_⟩, st1_⟩ := X0.specialBack hx (y := (⟨"java/lang/Number", "<init>", "()V"⟩ : MethodName)) rfl hown (mvT hZ (hw _ (List.mem_of_getElem? (i := 103) rfl))) (mvT hZ (hw _ (List.mem_of_getElem? (i := 88) rfl))) (mvT hZ (hw _ (List.mem_of_getElem? (i := 92) rfl))) (by decide) (backOf (W := 0) (own_rm_numInit l Z a0 hw [] a1 h0 n0 Z0 ) hZ (hw _ (List.mem_of_getElem? (i := 92) rfl)) (hw _ (List.mem_of_getElem? (i := 91) rfl)) (by decide) (by decide)) (g := (mkF m 1 #[.val (.ref a1), .val (.long x), .second] [(.ref a1)])) rfl (by rw [hml]; rfl) (Steps.refl _) (a := a1) (argsL := []) (rest := []) (lenOf own_pd0 rfl) rfl (by show 2 * 0 + _ ≤ _; exact Nat.le_of_eq rfl) (hb hby own_d_jdk_35_26_1) (fun _ _ => ⟨rfl, e0, (by decide : 0 + 0 ≤ _), (by decide : 0 + 0 ≤ _)⟩)
  dsimp only [Pt.U, Pt.locs, Pt.cells, Pt.slots] at X1_ l1_ y1_ z1_ st1_ hQ1_
  subst l1_ y1_ z1_
  obtain ⟨rfl, Nq1_, hh1_⟩ := hQ1_
  have N1_ := Fr.app N0 Nq1_
  refine own_via (fun _ k => st1_.trans k) ?_
  show own_Fin _ _ _ _ _ _ _ T1_ (mkF m 4 #[.val (.ref a1), .val (.long x), .second] [])
  refine own_via (fun _ k => XS.aloadN X1_.here hx rfl (hb hby own_d_jdk_35_26_4) rfl rfl k) ?_
  show own_Fin _ _ _ _ _ _ _ T1_ (mkF m 5 #[.val (.ref a1), .val (.long x), .second] [(.ref a1)])
  refine own_via (fun _ k => XS.lloadN X1_.here hx rfl (hb hby own_d_jdk_35_26_5) rfl k) ?_
  show own_Fin _ _ _ _ _ _ _ T1_ (mkF m 6 #[.val (.ref a1), .val (.long x), .second] [(.long x), (.ref a1)])
  obtain ⟨T2_, h2_, X2_, e2_, W2_, st2_⟩ := putF X1_ hx hZ hown (host := "") (Or.inl (hw _ (List.mem_of_getElem? (i := 105) rfl))) Via.refl hh1_ F1 E1 (Or.inr ⟨(hw _ (List.mem_of_getElem? (i := 106) rfl)), rfl, hnm⟩) (hw _ (List.mem_of_getElem? (i := 98) rfl)) (ty := .long) (by decide) rfl rfl (g := (mkF m 6 #[.val (.ref a1), .val (.long x), .second] [(.long x), (.ref a1)])) rfl rfl (hb hby own_d_jdk_35_26_6)
  have Fw2_ := F1.same W2_
  have N2_ := Fr.snoc X2_ N1_ g1
  refine own_via (fun _ k => st2_ _ k) ?_
  show own_Fin _ _ _ _ _ _ _ T2_ (mkF m 9 #[.val (.ref a1), .val (.long x), .second] [])
  exact own_ret0 X2_ hx Bd.returns Bd.notSynchronized (hb hby own_d_jdk_35_26_9) e2_ ⟨rfl, N2_, ((Keep.refl h0 [a1]).wr W2_ (Or.inl (List.mem_of_getElem? (i := 0) rfl))), (E1.wr W2_)⟩ (by decide) (by decide)
theorem own_d_jdk_33_22_0 : decode jdk_33_method_22_code 0 = .ok (.iload_n 0, 1) := by decide +kernel
theorem own_d_jdk_33_22_1 : decode jdk_33_method_22_code 1 = .ok (.bipush (-128), 2) := by decide +kernel
theorem own_d_jdk_33_22_3 : decode jdk_33_method_22_code 3 = .ok (.if_icmp .lt 20, 3) := by decide +kernel
theorem own_d_jdk_33_22_23 : decode jdk_33_method_22_code 23 = .ok (.new 1, 3) := by decide +kernel
theorem own_d_jdk_33_22_26 : decode jdk_33_method_22_code 26 = .ok (.dup, 1) := by decide +kernel
theorem own_d_jdk_33_22_27 : decode jdk_33_method_22_code 27 = .ok (.iload_n 0, 1) := by decide +kernel
theorem own_d_jdk_33_22_28 : decode jdk_33_method_22_code 28 = .ok (.invokespecial 199, 3) := by decide +kernel
theorem own_pd1 : parseMethodDescriptor "(I)V" = some ⟨[.int], none⟩ := by decide +kernel
theorem own_d_jdk_33_22_31 : decode jdk_33_method_22_code 31 = .ok (.areturn, 1) := by decide +kernel
theorem own_d_jdk_33_22_6 : decode jdk_33_method_22_code 6 = .ok (.iload_n 0, 1) := by decide +kernel
theorem own_d_jdk_33_22_7 : decode jdk_33_method_22_code 7 = .ok (.getstatic 191, 3) := by decide +kernel
theorem own_d_jdk_33_22_10 : decode jdk_33_method_22_code 10 = .ok (.if_icmp .gt 13, 3) := by decide +kernel
theorem own_d_jdk_33_22_13 : decode jdk_33_method_22_code 13 = .ok (.getstatic 195, 3) := by decide +kernel
theorem own_d_jdk_33_22_16 : decode jdk_33_method_22_code 16 = .ok (.iload_n 0, 1) := by decide +kernel
theorem own_d_jdk_33_22_17 : decode jdk_33_method_22_code 17 = .ok (.sipush 128, 3) := by decide +kernel
theorem own_d_jdk_33_22_20 : decode jdk_33_method_22_code 20 = .ok (.iadd, 1) := by decide +kernel
theorem own_d_jdk_33_22_21 : decode jdk_33_method_22_code 21 = .ok (.aaload, 1) := by decide +kernel
theorem own_d_jdk_33_22_22 : decode jdk_33_method_22_code 22 = .ok (.areturn, 1) := by decide +kernel
theorem own_ef_intOf (m : MethodId) (x : Int32) : entryFrame m #[(.int x)] 1 = mkF m 0 #[.val (.int x)] [] := by (first | (simp [entryFrame, mkF, argsToLocals, Value.category]; done) | rfl)
def own_Q_intOf (Z : State) (x : Int32) (ca : Addr) (cc : Cell) (vf : Int32 → Value) (h0 : Heap) (n0 : Nat) (vq : Option Value) (h : Heap) (Lq : List Loc) : Prop := ∃ (t : Addr), (vq = some (.ref t)) ∧ (Fr n0 Lq) ∧ (Keep h0 h []) ∧ (Exa Z h t "java/lang/Integer")
set_option maxRecDepth 65536 in
set_option maxHeartbeats 40000000 in
theorem own_rm_intOf (l : Launch) (Z : State) (a0 : Array Value) (hw : ∀ d ∈ tables_1, d.before a0 Z = true) (ws : List Jvm.Cond) (x : Int32) (ca : Addr) (cc : Cell) (vf : Int32 → Value) (h0 : Heap) (n0 : Nat) (Z0 : n0 ≤ h0.size) (O0 : Old Z n0 h0) (Sc : Sta Z Z.heap "java/lang/Integer$IntegerCache" "cache" "[Ljava/lang/Integer;" (.ref ca)) (Bx : Bxs Z ca cc "java/lang/Integer" "I" (256 : Int32) vf) (Sh : Sta Z Z.heap "java/lang/Integer$IntegerCache" "high" "I" (.int (127 : Int32))) :
    MetFree l (⟨"java/lang/Integer", "valueOf", "(I)Ljava/lang/Integer;"⟩ : MethodName) (head1 (Jvm.Cond.code (⟨"java/lang/Integer", "valueOf", "(I)Ljava/lang/Integer;"⟩ : MethodName) jdk_33_method_22_code 1 (some (.object "java/lang/Integer")) :: ws) ({ frames := 3, cells := 1, slots := 1, locals := 38 } : Room)) (fun aq Uq => aq = #[(.int x)] ∧ Z.Warmed39 Uq.vm ∧ Uq.heap = h0) (fun _ _ _ _ _ => True) (fun _ Uq oq Uq' => ∃ vq Lq, oq = .returned vq ∧ own_Q_intOf Z x ca cc vf h0 n0 vq Uq'.heap Lq ∧ FrameEnd Uq oq Uq' Lq ({ frames := 3, cells := 1, slots := 1, locals := 38 } : Room).cells ({ frames := 3, cells := 1, slots := 1, locals := 38 } : Room).slots) := by
  refine MetFree.of_bodySF (plainFor_of_name own_pn1) hisR ?_
  intro p e s m args below meth cde s₁ Bd hml0 hP hK
  obtain ⟨rfl, hZ, hh⟩ := hP
  have hx := Bd.exec
  have hby := Bd.bytes
  have hml : cde.maxLocals = 1 := hml0
  have hown : s.vm.findClass "java/lang/Integer" = some m.cls := findClass_of_methodNamed Bd.named
  have hnm := (name_of_methodNamed Bd.named Bd.method).1
  have X0 : Stand p l e ({ frames := 3, cells := 1, slots := 1, locals := 38 } : Room) s m #[(.int x)] below meth cde s₁ [] 0 0 := Stand.of_body Bd
  have e0 : s₁.heap = h0 := by rw [← hh, Bd.state]; rfl
  have N0 := Fr.nil n0
  show own_Fin p e s below (own_Q_intOf Z x ca cc vf h0 n0) ({ frames := 3, cells := 1, slots := 1, locals := 38 } : Room).cells ({ frames := 3, cells := 1, slots := 1, locals := 38 } : Room).slots s₁ (entryFrame m #[(.int x)] 1)
  rw [own_ef_intOf m x]
  refine own_via (fun _ k => XS.iloadN X0.here hx rfl (hb hby own_d_jdk_33_22_0) rfl k) ?_
  show own_Fin _ _ _ _ _ _ _ s₁ (mkF m 1 #[.val (.int x)] [(.int x)])
  refine own_via (fun _ k => XS.bipush X0.here hx rfl (hb hby own_d_jdk_33_22_1) k) ?_
  show own_Fin _ _ _ _ _ _ _ s₁ (mkF m 3 #[.val (.int x)] [(.int (-128 : Int32)), (.int x)])
  rcases Classical.em (x < (-128 : Int32)) with h1 | h1
  · refine own_via (fun _ k => XS.icmpYes X0.here hx rfl (pc0 := 3) (pc' := 23) rfl (hb hby own_d_jdk_33_22_3) rfl (tlt h1).1 (by decide) (by decide) k) ?_
    show own_Fin _ _ _ _ _ _ _ s₁ (mkF m 23 #[.val (.int x)] [])
    obtain ⟨T1_, h1_, X1_, e1_, E1_, A1_, D1_, -, st1_⟩ := newO X0 hx hZ hown (hw _ (List.mem_of_getElem? (i := 81) rfl)) (hw _ (List.mem_of_getElem? (i := 82) rfl)) (hw _ (List.mem_of_getElem? (i := 77) rfl)) e0 (g := (mkF m 23 #[.val (.int x)] [])) rfl (hb hby own_d_jdk_33_22_23) (by decide) (by decide)
    obtain ⟨b1_, g1_⟩ : ∃ z, z = h0.size := ⟨_, rfl⟩
    rw [← g1_] at A1_ D1_ st1_
    have F2_ : Fld Z h1_ b1_ "java/lang/Integer" "value" "I" (.int (0 : Int32)) := D1_ (Or.inr (hw _ (List.mem_of_getElem? (i := 95) rfl))) (ty := .int) (by decide)
    refine own_via (fun _ k => st1_ _ k) ?_
    show own_Fin _ _ _ _ _ _ _ T1_ (mkF m 26 #[.val (.int x)] [(.ref b1_)])
    refine own_via (fun _ k => XS.dup X1_.here hx rfl (hb hby own_d_jdk_33_22_26) rfl rfl k) ?_
    show own_Fin _ _ _ _ _ _ _ T1_ (mkF m 27 #[.val (.int x)] [(.ref b1_), (.ref b1_)])
    refine own_via (fun _ k => XS.iloadN X1_.here hx rfl (hb hby own_d_jdk_33_22_27) rfl k) ?_
    show own_Fin _ _ _ _ _ _ _ T1_ (mkF m 28 #[.val (.int x)] [(.int x), (.ref b1_), (.ref b1_)])
    have g4_ : n0 ≤ b1_ := Nat.le_trans Z0 (Nat.le_of_eq g1_.symm)
    obtain ⟨_, _, ⟨T3_, L3_, k3_, n3_⟩, -, X3_, ⟨Lc3_, hQ3_, l3_, y3_, z3_⟩, st3_⟩ := X1_.specialBack hx (y := (⟨"java/lang/Integer", "<init>", "(I)V"⟩ : MethodName)) rfl hown (mvT hZ (hw _ (List.mem_of_getElem? (i := 83) rfl))) (mvT hZ (hw _ (List.mem_of_getElem? (i := 84) rfl))) (mvT hZ (hw _ (List.mem_of_getElem? (i := 86) rfl))) (by decide) (backOf (W := 1) (own_rm_intInit l Z a0 hw [] b1_ x (.int (0 : Int32)) h1_ n0 (Nat.le_trans Z0 E1_.1) A1_ F2_ g4_) hZ (hw _ (List.mem_of_getElem? (i := 86) rfl)) (hw _ (List.mem_of_getElem? (i := 77) rfl)) (by decide) (by decide)) (g := (mkF m 28 #[.val (.int x)] [(.int x), (.ref b1_), (.ref b1_)])) rfl (by rw [hml]; rfl) (Steps.refl _) (a := b1_) (argsL := [(.int x)]) (rest := [(.ref b1_)]) (lenOf own_pd1 rfl) rfl (by show 2 * 0 + _ ≤ _; exact Nat.le_of_eq rfl) (hb hby own_d_jdk_33_22_28) (fun _ _ => ⟨rfl, e1_, (by decide : 0 + 1 + 0 ≤ _), (by decide : 0 + 1 + 0 ≤ _)⟩)
    dsimp only [Pt.U, Pt.locs, Pt.cells, Pt.slots] at X3_ l3_ y3_ z3_ st3_ hQ3_
    subst l3_ y3_ z3_
    obtain ⟨rfl, Nq3_, K3_, r5_⟩ := hQ3_
    have N3_ := Fr.app N0 Nq3_
    refine own_via (fun _ k => st3_.trans k) ?_
    show own_Fin _ _ _ _ _ _ _ T3_ (mkF m 31 #[.val (.int x)] [(.ref b1_)])
    exact own_retA X3_ hx Bd.returns Bd.notSynchronized rfl rfl (hb hby own_d_jdk_33_22_31) rfl ⟨b1_, rfl, N3_, (((Keep.refl h0 []).ext E1_).trans K3_ (allS (Or.inr (Nat.le_of_eq g1_.symm)) all0)), r5_⟩ (by decide) (by decide)
  · refine own_via (fun _ k => XS.icmpNo X0.here hx rfl (hb hby own_d_jdk_33_22_3) rfl (flt h1).1 k) ?_
    show own_Fin _ _ _ _ _ _ _ s₁ (mkF m 6 #[.val (.int x)] [])
    refine own_via (fun _ k => XS.iloadN X0.here hx rfl (hb hby own_d_jdk_33_22_6) rfl k) ?_
    show own_Fin _ _ _ _ _ _ _ s₁ (mkF m 7 #[.val (.int x)] [(.int x)])
    obtain ⟨T6_, X6_, e6_, st6_⟩ := getS2 X0 hx hZ hown (host := "") (Or.inl (hw _ (List.mem_of_getElem? (i := 79) rfl))) Via.refl e0 (Sh.ext O0.2) (g := (mkF m 7 #[.val (.int x)] [(.int x)])) rfl (hb hby own_d_jdk_33_22_7)
    refine own_via (fun _ k => st6_ _ k) ?_
    show own_Fin _ _ _ _ _ _ _ T6_ (mkF m 10 #[.val (.int x)] [(.int (127 : Int32)), (.int x)])
    rcases Classical.em ((127 : Int32) < x) with h2 | h2
    · refine own_via (fun _ k => XS.icmpYes X6_.here hx rfl (pc0 := 10) (pc' := 23) rfl (hb hby own_d_jdk_33_22_10) rfl (tlt h2).2.2.1 (by decide) (by decide) k) ?_
      show own_Fin _ _ _ _ _ _ _ T6_ (mkF m 23 #[.val (.int x)] [])
      obtain ⟨T7_, h7_, X7_, e7_, E7_, A7_, D7_, -, st7_⟩ := newO X6_ hx hZ hown (hw _ (List.mem_of_getElem? (i := 81) rfl)) (hw _ (List.mem_of_getElem? (i := 82) rfl)) (hw _ (List.mem_of_getElem? (i := 77) rfl)) e6_ (g := (mkF m 23 #[.val (.int x)] [])) rfl (hb hby own_d_jdk_33_22_23) (by decide) (by decide)
      obtain ⟨b7_, g7_⟩ : ∃ z, z = h0.size := ⟨_, rfl⟩
      rw [← g7_] at A7_ D7_ st7_
      have F8_ : Fld Z h7_ b7_ "java/lang/Integer" "value" "I" (.int (0 : Int32)) := D7_ (Or.inr (hw _ (List.mem_of_getElem? (i := 95) rfl))) (ty := .int) (by decide)
      refine own_via (fun _ k => st7_ _ k) ?_
      show own_Fin _ _ _ _ _ _ _ T7_ (mkF m 26 #[.val (.int x)] [(.ref b7_)])
      refine own_via (fun _ k => XS.dup X7_.here hx rfl (hb hby own_d_jdk_33_22_26) rfl rfl k) ?_
      show own_Fin _ _ _ _ _ _ _ T7_ (mkF m 27 #[.val (.int x)] [(.ref b7_), (.ref b7_)])
      refine own_via (fun _ k => XS.iloadN X7_.here hx rfl (hb hby own_d_jdk_33_22_27) rfl k) ?_
      show own_Fin _ _ _ _ _ _ _ T7_ (mkF m 28 #[.val (.int x)] [(.int x), (.ref b7_), (.ref b7_)])
      have g10_ : n0 ≤ b7_ := Nat.le_trans Z0 (Nat.le_of_eq g7_.symm)
      obtain ⟨_, _, ⟨T9_, L9_, k9_, n9_⟩, -, X9_, ⟨Lc9_, hQ9_, l9_, y9_, z9_⟩, st9_⟩ := X7_.specialBack hx (y := (⟨"java/lang/Integer", "<init>", "(I)V"⟩ : MethodName)) rfl hown (mvT hZ (hw _ (List.mem_of_getElem? (i := 83) rfl))) (mvT hZ (hw _ (List.mem_of_getElem? (i := 84) rfl))) (mvT hZ (hw _ (List.mem_of_getElem? (i := 86) rfl))) (by decide) (backOf (W := 1) (own_rm_intInit l Z a0 hw [] b7_ x (.int (0 : Int32)) h7_ n0 (Nat.le_trans Z0 E7_.1) A7_ F8_ g10_) hZ (hw _ (List.mem_of_getElem? (i := 86) rfl)) (hw _ (List.mem_of_getElem? (i := 77) rfl)) (by decide) (by decide)) (g := (mkF m 28 #[.val (.int x)] [(.int x), (.ref b7_), (.ref b7_)])) rfl (by rw [hml]; rfl) (Steps.refl _) (a := b7_) (argsL := [(.int x)]) (rest := [(.ref b7_)]) (lenOf own_pd1 rfl) rfl (by show 2 * 0 + _ ≤ _; exact Nat.le_of_eq rfl) (hb hby own_d_jdk_33_22_28) (fun _ _ => ⟨rfl, e7_, (by decide : 0 + 1 + 0 ≤ _), (by decide : 0 + 1 + 0 ≤ _)⟩)
      dsimp only [Pt.U, Pt.locs, Pt.cells, Pt.slots] at X9_ l9_ y9_ z9_ st9_ hQ9_
      subst l9_ y9_ z9_
      obtain ⟨rfl, Nq9_, K9_, r11_⟩ := hQ9_
      have N9_ := Fr.app N0 Nq9_
      refine own_via (fun _ k => st9_.trans k) ?_
      show own_Fin _ _ _ _ _ _ _ T9_ (mkF m 31 #[.val (.int x)] [(.ref b7_)])
      exact own_retA X9_ hx Bd.returns Bd.notSynchronized rfl rfl (hb hby own_d_jdk_33_22_31) rfl ⟨b7_, rfl, N9_, (((Keep.refl h0 []).ext E7_).trans K9_ (allS (Or.inr (Nat.le_of_eq g7_.symm)) all0)), r11_⟩ (by decide) (by decide)
    · refine own_via (fun _ k => XS.icmpNo X6_.here hx rfl (hb hby own_d_jdk_33_22_10) rfl (flt h2).2.2.1 k) ?_
      show own_Fin _ _ _ _ _ _ _ T6_ (mkF m 13 #[.val (.int x)] [])
      obtain ⟨T12_, X12_, e12_, st12_⟩ := getS2 X6_ hx hZ hown (host := "") (Or.inl (hw _ (List.mem_of_getElem? (i := 96) rfl))) Via.refl e6_ (Sc.ext O0.2) (g := (mkF m 13 #[.val (.int x)] [])) rfl (hb hby own_d_jdk_33_22_13)
      refine own_via (fun _ k => st12_ _ k) ?_
      show own_Fin _ _ _ _ _ _ _ T12_ (mkF m 16 #[.val (.int x)] [(.ref ca)])
      refine own_via (fun _ k => XS.iloadN X12_.here hx rfl (hb hby own_d_jdk_33_22_16) rfl k) ?_
      show own_Fin _ _ _ _ _ _ _ T12_ (mkF m 17 #[.val (.int x)] [(.int x), (.ref ca)])
      refine own_via (fun _ k => XS.sipush X12_.here hx rfl (hb hby own_d_jdk_33_22_17) k) ?_
      show own_Fin _ _ _ _ _ _ _ T12_ (mkF m 20 #[.val (.int x)] [(.int (128 : Int32)), (.int x), (.ref ca)])
      refine own_via (fun _ k => XS.iadd X12_.here hx rfl (hb hby own_d_jdk_33_22_20) rfl k) ?_
      show own_Fin _ _ _ _ _ _ _ T12_ (mkF m 21 #[.val (.int x)] [(.int (x + (128 : Int32))), (.ref ca)])
      obtain ⟨Ab13_, Sb13_, Mb13_⟩ := Bx.ext O0.2
      have hin13_ : ¬ ((x + (128 : Int32)) < 0 ∨ cc.slots.size ≤ ((x + (128 : Int32))).toNatClampNeg) := inb_of Sb13_ (own_in h1 h2)
      obtain ⟨x13_, hb13_, eb13_, -⟩ := Bx.2.2.2 (x + (128 : Int32)) hin13_
      refine own_via (fun _ k => X12_.aaload hx (j := (x + (128 : Int32))) (v := .ref x13_) (by rw [e12_]; exact Ab13_.1) (State.isArrayOf_alike hZ.alike Ab13_.2.1) rfl Ab13_.2.2 hin13_ hb13_ (g := (mkF m 21 #[.val (.int x)] [(.int (x + (128 : Int32))), (.ref ca)])) rfl rfl (hb hby own_d_jdk_33_22_21) _ k) ?_
      have ex13_ := eb13_.ext O0.2
      show own_Fin _ _ _ _ _ _ _ T12_ (mkF m 22 #[.val (.int x)] [(.ref x13_)])
      exact own_retA X12_ hx Bd.returns Bd.notSynchronized rfl rfl (hb hby own_d_jdk_33_22_22) e12_ ⟨x13_, rfl, N0, (Keep.refl h0 []), ex13_⟩ (by decide) (by decide)
theorem own_d_jdk_35_24_0 : decode jdk_35_method_24_code 0 = .ok (.sipush 128, 3) := by decide +kernel
theorem own_d_jdk_35_24_3 : decode jdk_35_method_24_code 3 = .ok (.istore_n 2, 1) := by decide +kernel
theorem own_d_jdk_35_24_4 : decode jdk_35_method_24_code 4 = .ok (.lload_n 0, 1) := by decide +kernel
theorem own_d_jdk_35_24_5 : decode jdk_35_method_24_code 5 = .ok (.ldc2_w 230, 3) := by decide +kernel
theorem own_d_jdk_35_24_8 : decode jdk_35_method_24_code 8 = .ok (.lcmp, 1) := by decide +kernel
theorem own_d_jdk_35_24_9 : decode jdk_35_method_24_code 9 = .ok (.ifCond .lt 22, 3) := by decide +kernel
theorem own_d_jdk_35_24_31 : decode jdk_35_method_24_code 31 = .ok (.new 1, 3) := by decide +kernel
theorem own_d_jdk_35_24_34 : decode jdk_35_method_24_code 34 = .ok (.dup, 1) := by decide +kernel
theorem own_d_jdk_35_24_35 : decode jdk_35_method_24_code 35 = .ok (.lload_n 0, 1) := by decide +kernel
theorem own_d_jdk_35_24_36 : decode jdk_35_method_24_code 36 = .ok (.invokespecial 240, 3) := by decide +kernel
theorem own_pd2 : parseMethodDescriptor "(J)V" = some ⟨[.long], none⟩ := by decide +kernel
theorem own_d_jdk_35_24_39 : decode jdk_35_method_24_code 39 = .ok (.areturn, 1) := by decide +kernel
theorem own_d_jdk_35_24_12 : decode jdk_35_method_24_code 12 = .ok (.lload_n 0, 1) := by decide +kernel
theorem own_d_jdk_35_24_13 : decode jdk_35_method_24_code 13 = .ok (.ldc2_w 232, 3) := by decide +kernel
theorem own_d_jdk_35_24_16 : decode jdk_35_method_24_code 16 = .ok (.lcmp, 1) := by decide +kernel
theorem own_d_jdk_35_24_17 : decode jdk_35_method_24_code 17 = .ok (.ifCond .gt 14, 3) := by decide +kernel
theorem own_d_jdk_35_24_20 : decode jdk_35_method_24_code 20 = .ok (.getstatic 234, 3) := by decide +kernel
theorem own_d_jdk_35_24_23 : decode jdk_35_method_24_code 23 = .ok (.lload_n 0, 1) := by decide +kernel
theorem own_d_jdk_35_24_24 : decode jdk_35_method_24_code 24 = .ok (.l2i, 1) := by decide +kernel
theorem own_d_jdk_35_24_25 : decode jdk_35_method_24_code 25 = .ok (.sipush 128, 3) := by decide +kernel
theorem own_d_jdk_35_24_28 : decode jdk_35_method_24_code 28 = .ok (.iadd, 1) := by decide +kernel
theorem own_d_jdk_35_24_29 : decode jdk_35_method_24_code 29 = .ok (.aaload, 1) := by decide +kernel
theorem own_d_jdk_35_24_30 : decode jdk_35_method_24_code 30 = .ok (.areturn, 1) := by decide +kernel
theorem own_ef_longOf (m : MethodId) (x : Int64) : entryFrame m #[(.long x)] 3 = mkF m 0 #[.val (.long x), .second, .unset] [] := by (first | (simp [entryFrame, mkF, argsToLocals, Value.category]; done) | rfl)
def own_Q_longOf (Z : State) (x : Int64) (ca : Addr) (cc : Cell) (vf : Int32 → Value) (h0 : Heap) (n0 : Nat) (vq : Option Value) (h : Heap) (Lq : List Loc) : Prop := ∃ (t : Addr), (vq = some (.ref t)) ∧ (Fr n0 Lq) ∧ (Keep h0 h []) ∧ (Exa Z h t "java/lang/Long")
set_option maxRecDepth 65536 in
set_option maxHeartbeats 40000000 in
theorem own_rm_longOf (l : Launch) (Z : State) (a0 : Array Value) (hw : ∀ d ∈ tables_1, d.before a0 Z = true) (ws : List Jvm.Cond) (x : Int64) (ca : Addr) (cc : Cell) (vf : Int32 → Value) (h0 : Heap) (n0 : Nat) (Z0 : n0 ≤ h0.size) (O0 : Old Z n0 h0) (Sc : Sta Z Z.heap "java/lang/Long$LongCache" "cache" "[Ljava/lang/Long;" (.ref ca)) (Bx : Bxs Z ca cc "java/lang/Long" "J" (256 : Int32) vf) :
    MetFree l (⟨"java/lang/Long", "valueOf", "(J)Ljava/lang/Long;"⟩ : MethodName) (head1 (Jvm.Cond.code (⟨"java/lang/Long", "valueOf", "(J)Ljava/lang/Long;"⟩ : MethodName) jdk_35_method_24_code 3 (some (.object "java/lang/Long")) :: ws) ({ frames := 3, cells := 1, slots := 1, locals := 39 } : Room)) (fun aq Uq => aq = #[(.long x)] ∧ Z.Warmed39 Uq.vm ∧ Uq.heap = h0) (fun _ _ _ _ _ => True) (fun _ Uq oq Uq' => ∃ vq Lq, oq = .returned vq ∧ own_Q_longOf Z x ca cc vf h0 n0 vq Uq'.heap Lq ∧ FrameEnd Uq oq Uq' Lq ({ frames := 3, cells := 1, slots := 1, locals := 39 } : Room).cells ({ frames := 3, cells := 1, slots := 1, locals := 39 } : Room).slots) := by
  refine MetFree.of_bodySF (plainFor_of_name own_pn2) hisR ?_
  intro p e s m args below meth cde s₁ Bd hml0 hP hK
  obtain ⟨rfl, hZ, hh⟩ := hP
  have hx := Bd.exec
  have hby := Bd.bytes
  have hml : cde.maxLocals = 3 := hml0
  have hown : s.vm.findClass "java/lang/Long" = some m.cls := findClass_of_methodNamed Bd.named
  have hnm := (name_of_methodNamed Bd.named Bd.method).1
  have X0 : Stand p l e ({ frames := 3, cells := 1, slots := 1, locals := 39 } : Room) s m #[(.long x)] below meth cde s₁ [] 0 0 := Stand.of_body Bd
  have e0 : s₁.heap = h0 := by rw [← hh, Bd.state]; rfl
  have N0 := Fr.nil n0
  show own_Fin p e s below (own_Q_longOf Z x ca cc vf h0 n0) ({ frames := 3, cells := 1, slots := 1, locals := 39 } : Room).cells ({ frames := 3, cells := 1, slots := 1, locals := 39 } : Room).slots s₁ (entryFrame m #[(.long x)] 3)
  rw [own_ef_longOf m x]
  refine own_via (fun _ k => XS.sipush X0.here hx rfl (hb hby own_d_jdk_35_24_0) k) ?_
  show own_Fin _ _ _ _ _ _ _ s₁ (mkF m 3 #[.val (.long x), .second, .unset] [(.int (128 : Int32))])
  refine own_via (fun _ k => XS.istoreN X0.here hx rfl (hb hby own_d_jdk_35_24_3) rfl (l' := #[.val (.long x), .second, .val (.int (128 : Int32))]) rfl k) ?_
  show own_Fin _ _ _ _ _ _ _ s₁ (mkF m 4 #[.val (.long x), .second, .val (.int (128 : Int32))] [])
  refine own_via (fun _ k => XS.lloadN X0.here hx rfl (hb hby own_d_jdk_35_24_4) rfl k) ?_
  show own_Fin _ _ _ _ _ _ _ s₁ (mkF m 5 #[.val (.long x), .second, .val (.int (128 : Int32))] [(.long x)])
  refine own_via (fun _ k => X0.ldc2Long hx hown (mvT hZ (hw _ (List.mem_of_getElem? (i := 4) rfl))) (g := (mkF m 5 #[.val (.long x), .second, .val (.int (128 : Int32))] [(.long x)])) rfl (hb hby own_d_jdk_35_24_5) _ k) ?_
  show own_Fin _ _ _ _ _ _ _ s₁ (mkF m 8 #[.val (.long x), .second, .val (.int (128 : Int32))] [(.long (-128 : Int64)), (.long x)])
  refine own_via (fun _ k => XS.lcmp X0.here hx rfl (hb hby own_d_jdk_35_24_8) rfl k) ?_
  show own_Fin _ _ _ _ _ _ _ s₁ (mkF m 9 #[.val (.long x), .second, .val (.int (128 : Int32))] [(.int (lcmpW x (-128 : Int64)))])
  rcases Classical.em ((lcmpW x (-128 : Int64)) < (0 : Int32)) with h1 | h1
  · refine own_via (fun _ k => XS.ifYes X0.here hx rfl (pc0 := 9) (pc' := 31) rfl (hb hby own_d_jdk_35_24_9) rfl ((if0 _ _).trans (tlt h1).1) (by decide) (by decide) k) ?_
    show own_Fin _ _ _ _ _ _ _ s₁ (mkF m 31 #[.val (.long x), .second, .val (.int (128 : Int32))] [])
    obtain ⟨T1_, h1_, X1_, e1_, E1_, A1_, D1_, -, st1_⟩ := newO X0 hx hZ hown (hw _ (List.mem_of_getElem? (i := 97) rfl)) (hw _ (List.mem_of_getElem? (i := 98) rfl)) (hw _ (List.mem_of_getElem? (i := 2) rfl)) e0 (g := (mkF m 31 #[.val (.long x), .second, .val (.int (128 : Int32))] [])) rfl (hb hby own_d_jdk_35_24_31) (by decide) (by decide)
    obtain ⟨b1_, g1_⟩ : ∃ z, z = h0.size := ⟨_, rfl⟩
    rw [← g1_] at A1_ D1_ st1_
    have F2_ : Fld Z h1_ b1_ "java/lang/Long" "value" "J" (.long (0 : Int64)) := D1_ (Or.inr (hw _ (List.mem_of_getElem? (i := 106) rfl))) (ty := .long) (by decide)
    refine own_via (fun _ k => st1_ _ k) ?_
    show own_Fin _ _ _ _ _ _ _ T1_ (mkF m 34 #[.val (.long x), .second, .val (.int (128 : Int32))] [(.ref b1_)])
    refine own_via (fun _ k => XS.dup X1_.here hx rfl (hb hby own_d_jdk_35_24_34) rfl rfl k) ?_
    show own_Fin _ _ _ _ _ _ _ T1_ (mkF m 35 #[.val (.long x), .second, .val (.int (128 : Int32))] [(.ref b1_), (.ref b1_)])
    refine own_via (fun _ k => XS.lloadN X1_.here hx rfl (hb hby own_d_jdk_35_24_35) rfl k) ?_
    show own_Fin _ _ _ _ _ _ _ T1_ (mkF m 36 #[.val (.long x), .second, .val (.int (128 : Int32))] [(.long x), (.ref b1_), (.ref b1_)])
    have g4_ : n0 ≤ b1_ := Nat.le_trans Z0 (Nat.le_of_eq g1_.symm)
    obtain ⟨_, _, ⟨T3_, L3_, k3_, n3_⟩, -, X3_, ⟨Lc3_, hQ3_, l3_, y3_, z3_⟩, st3_⟩ := X1_.specialBack hx (y := (⟨"java/lang/Long", "<init>", "(J)V"⟩ : MethodName)) rfl hown (mvT hZ (hw _ (List.mem_of_getElem? (i := 99) rfl))) (mvT hZ (hw _ (List.mem_of_getElem? (i := 100) rfl))) (mvT hZ (hw _ (List.mem_of_getElem? (i := 102) rfl))) (by decide) (backOf (W := 1) (own_rm_longInit l Z a0 hw [] b1_ x (.long (0 : Int64)) h1_ n0 (Nat.le_trans Z0 E1_.1) A1_ F2_ g4_) hZ (hw _ (List.mem_of_getElem? (i := 102) rfl)) (hw _ (List.mem_of_getElem? (i := 2) rfl)) (by decide) (by decide)) (g := (mkF m 36 #[.val (.long x), .second, .val (.int (128 : Int32))] [(.long x), (.ref b1_), (.ref b1_)])) rfl (by rw [hml]; rfl) (Steps.refl _) (a := b1_) (argsL := [(.long x)]) (rest := [(.ref b1_)]) (lenOf own_pd2 rfl) rfl (by show 2 * 0 + _ ≤ _; exact Nat.le_of_eq rfl) (hb hby own_d_jdk_35_24_36) (fun _ _ => ⟨rfl, e1_, (by decide : 0 + 1 + 0 ≤ _), (by decide : 0 + 1 + 0 ≤ _)⟩)
    dsimp only [Pt.U, Pt.locs, Pt.cells, Pt.slots] at X3_ l3_ y3_ z3_ st3_ hQ3_
    subst l3_ y3_ z3_
    obtain ⟨rfl, Nq3_, K3_, r5_⟩ := hQ3_
    have N3_ := Fr.app N0 Nq3_
    refine own_via (fun _ k => st3_.trans k) ?_
    show own_Fin _ _ _ _ _ _ _ T3_ (mkF m 39 #[.val (.long x), .second, .val (.int (128 : Int32))] [(.ref b1_)])
    exact own_retA X3_ hx Bd.returns Bd.notSynchronized rfl rfl (hb hby own_d_jdk_35_24_39) rfl ⟨b1_, rfl, N3_, (((Keep.refl h0 []).ext E1_).trans K3_ (allS (Or.inr (Nat.le_of_eq g1_.symm)) all0)), r5_⟩ (by decide) (by decide)
  · refine own_via (fun _ k => XS.ifNo X0.here hx rfl (hb hby own_d_jdk_35_24_9) rfl ((if0 _ _).trans (flt h1).1) k) ?_
    show own_Fin _ _ _ _ _ _ _ s₁ (mkF m 12 #[.val (.long x), .second, .val (.int (128 : Int32))] [])
    refine own_via (fun _ k => XS.lloadN X0.here hx rfl (hb hby own_d_jdk_35_24_12) rfl k) ?_
    show own_Fin _ _ _ _ _ _ _ s₁ (mkF m 13 #[.val (.long x), .second, .val (.int (128 : Int32))] [(.long x)])
    refine own_via (fun _ k => X0.ldc2Long hx hown (mvT hZ (hw _ (List.mem_of_getElem? (i := 5) rfl))) (g := (mkF m 13 #[.val (.long x), .second, .val (.int (128 : Int32))] [(.long x)])) rfl (hb hby own_d_jdk_35_24_13) _ k) ?_
    show own_Fin _ _ _ _ _ _ _ s₁ (mkF m 16 #[.val (.long x), .second, .val (.int (128 : Int32))] [(.long (127 : Int64)), (.long x)])
    refine own_via (fun _ k => XS.lcmp X0.here hx rfl (hb hby own_d_jdk_35_24_16) rfl k) ?_
    show own_Fin _ _ _ _ _ _ _ s₁ (mkF m 17 #[.val (.long x), .second, .val (.int (128 : Int32))] [(.int (lcmpW x (127 : Int64)))])
    rcases Classical.em ((0 : Int32) < (lcmpW x (127 : Int64))) with h2 | h2
    · refine own_via (fun _ k => XS.ifYes X0.here hx rfl (pc0 := 17) (pc' := 31) rfl (hb hby own_d_jdk_35_24_17) rfl ((if0 _ _).trans (tlt h2).2.2.1) (by decide) (by decide) k) ?_
      show own_Fin _ _ _ _ _ _ _ s₁ (mkF m 31 #[.val (.long x), .second, .val (.int (128 : Int32))] [])
      obtain ⟨T6_, h6_, X6_, e6_, E6_, A6_, D6_, -, st6_⟩ := newO X0 hx hZ hown (hw _ (List.mem_of_getElem? (i := 97) rfl)) (hw _ (List.mem_of_getElem? (i := 98) rfl)) (hw _ (List.mem_of_getElem? (i := 2) rfl)) e0 (g := (mkF m 31 #[.val (.long x), .second, .val (.int (128 : Int32))] [])) rfl (hb hby own_d_jdk_35_24_31) (by decide) (by decide)
      obtain ⟨b6_, g6_⟩ : ∃ z, z = h0.size := ⟨_, rfl⟩
      rw [← g6_] at A6_ D6_ st6_
      have F7_ : Fld Z h6_ b6_ "java/lang/Long" "value" "J" (.long (0 : Int64)) := D6_ (Or.inr (hw _ (List.mem_of_getElem? (i := 106) rfl))) (ty := .long) (by decide)
      refine own_via (fun _ k => st6_ _ k) ?_
      show own_Fin _ _ _ _ _ _ _ T6_ (mkF m 34 #[.val (.long x), .second, .val (.int (128 : Int32))] [(.ref b6_)])
      refine own_via (fun _ k => XS.dup X6_.here hx rfl (hb hby own_d_jdk_35_24_34) rfl rfl k) ?_
      show own_Fin _ _ _ _ _ _ _ T6_ (mkF m 35 #[.val (.long x), .second, .val (.int (128 : Int32))] [(.ref b6_), (.ref b6_)])
      refine own_via (fun _ k => XS.lloadN X6_.here hx rfl (hb hby own_d_jdk_35_24_35) rfl k) ?_
      show own_Fin _ _ _ _ _ _ _ T6_ (mkF m 36 #[.val (.long x), .second, .val (.int (128 : Int32))] [(.long x), (.ref b6_), (.ref b6_)])
      have g9_ : n0 ≤ b6_ := Nat.le_trans Z0 (Nat.le_of_eq g6_.symm)
      obtain ⟨_, _, ⟨T8_, L8_, k8_, n8_⟩, -, X8_, ⟨Lc8_, hQ8_, l8_, y8_, z8_⟩, st8_⟩ := X6_.specialBack hx (y := (⟨"java/lang/Long", "<init>", "(J)V"⟩ : MethodName)) rfl hown (mvT hZ (hw _ (List.mem_of_getElem? (i := 99) rfl))) (mvT hZ (hw _ (List.mem_of_getElem? (i := 100) rfl))) (mvT hZ (hw _ (List.mem_of_getElem? (i := 102) rfl))) (by decide) (backOf (W := 1) (own_rm_longInit l Z a0 hw [] b6_ x (.long (0 : Int64)) h6_ n0 (Nat.le_trans Z0 E6_.1) A6_ F7_ g9_) hZ (hw _ (List.mem_of_getElem? (i := 102) rfl)) (hw _ (List.mem_of_getElem? (i := 2) rfl)) (by decide) (by decide)) (g := (mkF m 36 #[.val (.long x), .second, .val (.int (128 : Int32))] [(.long x), (.ref b6_), (.ref b6_)])) rfl (by rw [hml]; rfl) (Steps.refl _) (a := b6_) (argsL := [(.long x)]) (rest := [(.ref b6_)]) (lenOf own_pd2 rfl) rfl (by show 2 * 0 + _ ≤ _; exact Nat.le_of_eq rfl) (hb hby own_d_jdk_35_24_36) (fun _ _ => ⟨rfl, e6_, (by decide : 0 + 1 + 0 ≤ _), (by decide : 0 + 1 + 0 ≤ _)⟩)
      dsimp only [Pt.U, Pt.locs, Pt.cells, Pt.slots] at X8_ l8_ y8_ z8_ st8_ hQ8_
      subst l8_ y8_ z8_
      obtain ⟨rfl, Nq8_, K8_, r10_⟩ := hQ8_
      have N8_ := Fr.app N0 Nq8_
      refine own_via (fun _ k => st8_.trans k) ?_
      show own_Fin _ _ _ _ _ _ _ T8_ (mkF m 39 #[.val (.long x), .second, .val (.int (128 : Int32))] [(.ref b6_)])
      exact own_retA X8_ hx Bd.returns Bd.notSynchronized rfl rfl (hb hby own_d_jdk_35_24_39) rfl ⟨b6_, rfl, N8_, (((Keep.refl h0 []).ext E6_).trans K8_ (allS (Or.inr (Nat.le_of_eq g6_.symm)) all0)), r10_⟩ (by decide) (by decide)
    · refine own_via (fun _ k => XS.ifNo X0.here hx rfl (hb hby own_d_jdk_35_24_17) rfl ((if0 _ _).trans (flt h2).2.2.1) k) ?_
      show own_Fin _ _ _ _ _ _ _ s₁ (mkF m 20 #[.val (.long x), .second, .val (.int (128 : Int32))] [])
      obtain ⟨T11_, X11_, e11_, st11_⟩ := getS2 X0 hx hZ hown (host := "") (Or.inl (hw _ (List.mem_of_getElem? (i := 6) rfl))) Via.refl e0 (Sc.ext O0.2) (g := (mkF m 20 #[.val (.long x), .second, .val (.int (128 : Int32))] [])) rfl (hb hby own_d_jdk_35_24_20)
      refine own_via (fun _ k => st11_ _ k) ?_
      show own_Fin _ _ _ _ _ _ _ T11_ (mkF m 23 #[.val (.long x), .second, .val (.int (128 : Int32))] [(.ref ca)])
      refine own_via (fun _ k => XS.lloadN X11_.here hx rfl (hb hby own_d_jdk_35_24_23) rfl k) ?_
      show own_Fin _ _ _ _ _ _ _ T11_ (mkF m 24 #[.val (.long x), .second, .val (.int (128 : Int32))] [(.long x), (.ref ca)])
      refine own_via (fun _ k => XS.l2i X11_.here hx rfl (hb hby own_d_jdk_35_24_24) rfl k) ?_
      show own_Fin _ _ _ _ _ _ _ T11_ (mkF m 25 #[.val (.long x), .second, .val (.int (128 : Int32))] [(.int (x.toInt32)), (.ref ca)])
      refine own_via (fun _ k => XS.sipush X11_.here hx rfl (hb hby own_d_jdk_35_24_25) k) ?_
      show own_Fin _ _ _ _ _ _ _ T11_ (mkF m 28 #[.val (.long x), .second, .val (.int (128 : Int32))] [(.int (128 : Int32)), (.int (x.toInt32)), (.ref ca)])
      refine own_via (fun _ k => XS.iadd X11_.here hx rfl (hb hby own_d_jdk_35_24_28) rfl k) ?_
      show own_Fin _ _ _ _ _ _ _ T11_ (mkF m 29 #[.val (.long x), .second, .val (.int (128 : Int32))] [(.int ((x.toInt32) + (128 : Int32))), (.ref ca)])
      obtain ⟨Ab12_, Sb12_, Mb12_⟩ := Bx.ext O0.2
      have hin12_ : ¬ (((x.toInt32) + (128 : Int32)) < 0 ∨ cc.slots.size ≤ (((x.toInt32) + (128 : Int32))).toNatClampNeg) := inb_of Sb12_ (own_inL h1 h2)
      obtain ⟨x12_, hb12_, eb12_, -⟩ := Bx.2.2.2 ((x.toInt32) + (128 : Int32)) hin12_
      refine own_via (fun _ k => X11_.aaload hx (j := ((x.toInt32) + (128 : Int32))) (v := .ref x12_) (by rw [e11_]; exact Ab12_.1) (State.isArrayOf_alike hZ.alike Ab12_.2.1) rfl Ab12_.2.2 hin12_ hb12_ (g := (mkF m 29 #[.val (.long x), .second, .val (.int (128 : Int32))] [(.int ((x.toInt32) + (128 : Int32))), (.ref ca)])) rfl rfl (hb hby own_d_jdk_35_24_29) _ k) ?_
      have ex12_ := eb12_.ext O0.2
      show own_Fin _ _ _ _ _ _ _ T11_ (mkF m 30 #[.val (.long x), .second, .val (.int (128 : Int32))] [(.ref x12_)])
      exact own_retA X11_ hx Bd.returns Bd.notSynchronized rfl rfl (hb hby own_d_jdk_35_24_30) e11_ ⟨x12_, rfl, N0, (Keep.refl h0 []), ex12_⟩ (by decide) (by decide)
theorem own_d_jdk_22_1_0 : decode jdk_22_method_1_code 0 = .ok (.aload_n 0, 1) := by decide +kernel
theorem own_d_jdk_22_1_1 : decode jdk_22_method_1_code 1 = .ok (.invokespecial 1, 3) := by decide +kernel
theorem own_d_jdk_22_1_4 : decode jdk_22_method_1_code 4 = .ok (.return_, 1) := by decide +kernel
theorem own_pn3 : plainName "java/util/AbstractCollection" = true := by first | (simp [plainName, overriddenIn]; done) | decide +kernel
theorem own_ef_acInit (m : MethodId) (a1 : Addr) : entryFrame m #[(.ref a1)] 1 = mkF m 0 #[.val (.ref a1)] [] := by (first | (simp [entryFrame, mkF, argsToLocals, Value.category]; done) | rfl)
def own_Q_acInit (Z : State) (a1 : Addr) (h0 : Heap) (n0 : Nat) (vq : Option Value) (h : Heap) (Lq : List Loc) : Prop := (vq = none) ∧ (Fr n0 Lq) ∧ (h = h0)
set_option maxRecDepth 65536 in
set_option maxHeartbeats 40000000 in
theorem own_rm_acInit (l : Launch) (Z : State) (a0 : Array Value) (hw : ∀ d ∈ tables_1, d.before a0 Z = true) (ws : List Jvm.Cond) (a1 : Addr) (h0 : Heap) (n0 : Nat) (Z0 : n0 ≤ h0.size) :
    MetFree l (⟨"java/util/AbstractCollection", "<init>", "()V"⟩ : MethodName) (head1 (Jvm.Cond.code (⟨"java/util/AbstractCollection", "<init>", "()V"⟩ : MethodName) jdk_22_method_1_code 1 none :: ws) ({ frames := 1, cells := 0, slots := 0, locals := 12 } : Room)) (fun aq Uq => aq = #[(.ref a1)] ∧ Z.Warmed39 Uq.vm ∧ Uq.heap = h0) (fun _ _ _ _ _ => True) (fun _ Uq oq Uq' => ∃ vq Lq, oq = .returned vq ∧ own_Q_acInit Z a1 h0 n0 vq Uq'.heap Lq ∧ FrameEnd Uq oq Uq' Lq ({ frames := 1, cells := 0, slots := 0, locals := 12 } : Room).cells ({ frames := 1, cells := 0, slots := 0, locals := 12 } : Room).slots) := by
  refine MetFree.of_bodySF (plainFor_of_name own_pn3) hisR ?_
  intro p e s m args below meth cde s₁ Bd hml0 hP hK
  obtain ⟨rfl, hZ, hh⟩ := hP
  have hx := Bd.exec
  have hby := Bd.bytes
  have hml : cde.maxLocals = 1 := hml0
  have hown : s.vm.findClass "java/util/AbstractCollection" = some m.cls := findClass_of_methodNamed Bd.named
  have hnm := (name_of_methodNamed Bd.named Bd.method).1
  have X0 : Stand p l e ({ frames := 1, cells := 0, slots := 0, locals := 12 } : Room) s m #[(.ref a1)] below meth cde s₁ [] 0 0 := Stand.of_body Bd
  have e0 : s₁.heap = h0 := by rw [← hh, Bd.state]; rfl
  have N0 := Fr.nil n0
  show own_Fin p e s below (own_Q_acInit Z a1 h0 n0) ({ frames := 1, cells := 0, slots := 0, locals := 12 } : Room).cells ({ frames := 1, cells := 0, slots := 0, locals := 12 } : Room).slots s₁ (entryFrame m #[(.ref a1)] 1)
  rw [own_ef_acInit m a1]
  refine own_via (fun _ k => XS.aloadN X0.here hx rfl (hb hby own_d_jdk_22_1_0) rfl rfl k) ?_
  show own_Fin _ _ _ _ _ _ _ s₁ (mkF m 1 #[.val (.ref a1)] [(.ref a1)])
  obtain ⟨T1_, X1_, e1_, st1_⟩ := initO X0 hx hZ hown (hw _ (List.mem_of_getElem? (i := 125) rfl)) (hw _ (List.mem_of_getElem? (i := 30) rfl)) (hw _ (List.mem_of_getElem? (i := 31) rfl)) e0 (g := (mkF m 1 #[.val (.ref a1)] [(.ref a1)])) rfl (by rw [hml]; rfl) rfl (hb hby own_d_jdk_22_1_1) (by decide) (W := 0) (by show 2 * 0 + _ ≤ _; exact Nat.le_of_eq rfl) (by decide)
  refine own_via (fun _ k => st1_ _ k) ?_
  show own_Fin _ _ _ _ _ _ _ T1_ (mkF m 4 #[.val (.ref a1)] [])
  exact own_ret0 X1_ hx Bd.returns Bd.notSynchronized (hb hby own_d_jdk_22_1_4) e1_ ⟨rfl, N0, rfl⟩ (by decide) (by decide)
theorem own_d_jdk_39_1_0 : decode jdk_39_method_1_code 0 = .ok (.aload_n 0, 1) := by decide +kernel
theorem own_d_jdk_39_1_1 : decode jdk_39_method_1_code 1 = .ok (.invokespecial 1, 3) := by decide +kernel
theorem own_d_jdk_39_1_4 : decode jdk_39_method_1_code 4 = .ok (.aload_n 0, 1) := by decide +kernel
theorem own_d_jdk_39_1_5 : decode jdk_39_method_1_code 5 = .ok (.iconst 0, 1) := by decide +kernel
theorem own_d_jdk_39_1_6 : decode jdk_39_method_1_code 6 = .ok (.putfield 7, 3) := by decide +kernel
theorem own_d_jdk_39_1_9 : decode jdk_39_method_1_code 9 = .ok (.return_, 1) := by decide +kernel
theorem own_pn4 : plainName "java/util/AbstractList" = true := by first | (simp [plainName, overriddenIn]; done) | decide +kernel
theorem own_ef_ablInit (m : MethodId) (a1 : Addr) : entryFrame m #[(.ref a1)] 1 = mkF m 0 #[.val (.ref a1)] [] := by (first | (simp [entryFrame, mkF, argsToLocals, Value.category]; done) | rfl)
def own_Q_ablInit (Z : State) (a1 : Addr) (u1 : Value) (u2 : Value) (u3 : Value) (h0 : Heap) (n0 : Nat) (vq : Option Value) (h : Heap) (Lq : List Loc) : Prop := (vq = none) ∧ (Fr n0 Lq) ∧ (Keep h0 h [a1]) ∧ (Exa Z h a1 "java/util/ArrayList") ∧ (Fld Z h a1 "java/util/AbstractList" "modCount" "I" (.int (0 : Int32))) ∧ (Fld Z h a1 "java/util/ArrayList" "elementData" "[Ljava/lang/Object;" u2) ∧ (Fld Z h a1 "java/util/ArrayList" "size" "I" u3)
set_option maxRecDepth 65536 in
set_option maxHeartbeats 40000000 in
theorem own_rm_ablInit (l : Launch) (Z : State) (a0 : Array Value) (hw : ∀ d ∈ tables_1, d.before a0 Z = true) (ws : List Jvm.Cond) (a1 : Addr) (u1 : Value) (u2 : Value) (u3 : Value) (h0 : Heap) (n0 : Nat) (Z0 : n0 ≤ h0.size) (E1 : Exa Z h0 a1 "java/util/ArrayList") (F1 : Fld Z h0 a1 "java/util/AbstractList" "modCount" "I" u1) (F2 : Fld Z h0 a1 "java/util/ArrayList" "elementData" "[Ljava/lang/Object;" u2) (F3 : Fld Z h0 a1 "java/util/ArrayList" "size" "I" u3) (g1 : n0 ≤ a1) :
    MetFree l (⟨"java/util/AbstractList", "<init>", "()V"⟩ : MethodName) (head1 (Jvm.Cond.code (⟨"java/util/AbstractList", "<init>", "()V"⟩ : MethodName) jdk_39_method_1_code 1 none :: ws) ({ frames := 2, cells := 0, slots := 0, locals := 24 } : Room)) (fun aq Uq => aq = #[(.ref a1)] ∧ Z.Warmed39 Uq.vm ∧ Uq.heap = h0) (fun _ _ _ _ _ => True) (fun _ Uq oq Uq' => ∃ vq Lq, oq = .returned vq ∧ own_Q_ablInit Z a1 u1 u2 u3 h0 n0 vq Uq'.heap Lq ∧ FrameEnd Uq oq Uq' Lq ({ frames := 2, cells := 0, slots := 0, locals := 24 } : Room).cells ({ frames := 2, cells := 0, slots := 0, locals := 24 } : Room).slots) := by
  refine MetFree.of_bodySF (plainFor_of_name own_pn4) hisR ?_
  intro p e s m args below meth cde s₁ Bd hml0 hP hK
  obtain ⟨rfl, hZ, hh⟩ := hP
  have hx := Bd.exec
  have hby := Bd.bytes
  have hml : cde.maxLocals = 1 := hml0
  have hown : s.vm.findClass "java/util/AbstractList" = some m.cls := findClass_of_methodNamed Bd.named
  have hnm := (name_of_methodNamed Bd.named Bd.method).1
  have X0 : Stand p l e ({ frames := 2, cells := 0, slots := 0, locals := 24 } : Room) s m #[(.ref a1)] below meth cde s₁ [] 0 0 := Stand.of_body Bd
  have e0 : s₁.heap = h0 := by rw [← hh, Bd.state]; rfl
  have N0 := Fr.nil n0
  show own_Fin p e s below (own_Q_ablInit Z a1 u1 u2 u3 h0 n0) ({ frames := 2, cells := 0, slots := 0, locals := 24 } : Room).cells ({ frames := 2, cells := 0, slots := 0, locals := 24 } : Room).slots s₁ (entryFrame m #[(.ref a1)] 1)
  rw [own_ef_ablInit m a1]
  refine own_via (fun _ k => XS.aloadN X0.here hx rfl (hb hby own_d_jdk_39_1_0) rfl rfl k) ?_
  show own_Fin _ _ _ _ _ _ _ s₁ (mkF m 1 #[.val (.ref a1)] [(.ref a1)])
  obtain ⟨_, _, ⟨T1_, L1_, k1_, n1_⟩, -, X1_, ⟨Lc1_, hQ1_, l1_, y1_, z1_⟩, st1_⟩ := X0.specialBack hx (y := (⟨"java/util/AbstractCollection", "<init>", "()V"⟩ : MethodName)) rfl hown (mvT hZ (hw _ (List.mem_of_getElem? (i := 119) rfl))) (mvT hZ (hw _ (List.mem_of_getElem? (i := 120) rfl))) (mvT hZ (hw _ (List.mem_of_getElem? (i := 124) rfl))) (by decide) (backOf (W := 0) (own_rm_acInit l Z a0 hw [] a1 h0 n0 Z0 ) hZ (hw _ (List.mem_of_getElem? (i := 124) rfl)) (hw _ (List.mem_of_getElem? (i := 123) rfl)) (by decide) (by decide)) (g := (mkF m 1 #[.val (.ref a1)] [(.ref a1)])) rfl (by rw [hml]; rfl) (Steps.refl _) (a := a1) (argsL := []) (rest := []) (lenOf own_pd0 rfl) rfl (by show 2 * 0 + _ ≤ _; exact Nat.le_of_eq rfl) (hb hby own_d_jdk_39_1_1) (fun _ _ => ⟨rfl, e0, (by decide : 0 + 0 ≤ _), (by decide : 0 + 0 ≤ _)⟩)
  dsimp only [Pt.U, Pt.locs, Pt.cells, Pt.slots] at X1_ l1_ y1_ z1_ st1_ hQ1_
  subst l1_ y1_ z1_
  obtain ⟨rfl, Nq1_, hh1_⟩ := hQ1_
  have N1_ := Fr.app N0 Nq1_
  refine own_via (fun _ k => st1_.trans k) ?_
  show own_Fin _ _ _ _ _ _ _ T1_ (mkF m 4 #[.val (.ref a1)] [])
  refine own_via (fun _ k => XS.aloadN X1_.here hx rfl (hb hby own_d_jdk_39_1_4) rfl rfl k) ?_
  show own_Fin _ _ _ _ _ _ _ T1_ (mkF m 5 #[.val (.ref a1)] [(.ref a1)])
  refine own_via (fun _ k => XS.iconst X1_.here hx rfl (hb hby own_d_jdk_39_1_5) k) ?_
  show own_Fin _ _ _ _ _ _ _ T1_ (mkF m 6 #[.val (.ref a1)] [(.int (0 : Int32)), (.ref a1)])
  obtain ⟨T2_, h2_, X2_, e2_, W2_, st2_⟩ := putF X1_ hx hZ hown (host := "") (Or.inl (hw _ (List.mem_of_getElem? (i := 126) rfl))) Via.refl hh1_ F1 E1 (Or.inl (hw _ (List.mem_of_getElem? (i := 127) rfl))) (hw _ (List.mem_of_getElem? (i := 108) rfl)) (ty := .int) (by decide) rfl rfl (g := (mkF m 6 #[.val (.ref a1)] [(.int (0 : Int32)), (.ref a1)])) rfl rfl (hb hby own_d_jdk_39_1_6)
  have Fw2_ := F1.same W2_
  have N2_ := Fr.snoc X2_ N1_ g1
  refine own_via (fun _ k => st2_ _ k) ?_
  show own_Fin _ _ _ _ _ _ _ T2_ (mkF m 9 #[.val (.ref a1)] [])
  have f3_ := (F2.other W2_ (Or.inr (slot_ne (Or.inl (hw _ (List.mem_of_getElem? (i := 130) rfl))) (Or.inl (hw _ (List.mem_of_getElem? (i := 127) rfl))) (by decide) (t := (.array (.object "java/lang/Object"))) (t' := .int) (by decide) (by decide))))
  have f4_ := (F3.other W2_ (Or.inr (slot_ne (Or.inl (hw _ (List.mem_of_getElem? (i := 139) rfl))) (Or.inl (hw _ (List.mem_of_getElem? (i := 127) rfl))) (by decide) (t := .int) (t' := .int) (by decide) (by decide))))
  exact own_ret0 X2_ hx Bd.returns Bd.notSynchronized (hb hby own_d_jdk_39_1_9) e2_ ⟨rfl, N2_, ((Keep.refl h0 [a1]).wr W2_ (Or.inl (List.mem_of_getElem? (i := 0) rfl))), (E1.wr W2_), Fw2_, f3_, f4_⟩ (by decide) (by decide)
theorem own_d_jdk_38_2_0 : decode jdk_38_method_2_code 0 = .ok (.aload_n 0, 1) := by decide +kernel
theorem own_d_jdk_38_2_1 : decode jdk_38_method_2_code 1 = .ok (.invokespecial 1, 3) := by decide +kernel
theorem own_d_jdk_38_2_4 : decode jdk_38_method_2_code 4 = .ok (.aload_n 0, 1) := by decide +kernel
theorem own_d_jdk_38_2_5 : decode jdk_38_method_2_code 5 = .ok (.getstatic 39, 3) := by decide +kernel
theorem own_d_jdk_38_2_8 : decode jdk_38_method_2_code 8 = .ok (.putfield 9, 3) := by decide +kernel
theorem own_d_jdk_38_2_11 : decode jdk_38_method_2_code 11 = .ok (.return_, 1) := by decide +kernel
theorem own_pn5 : plainName "java/util/ArrayList" = true := by first | (simp [plainName, overriddenIn]; done) | decide +kernel
theorem own_ef_alInit (m : MethodId) (a1 : Addr) : entryFrame m #[(.ref a1)] 1 = mkF m 0 #[.val (.ref a1)] [] := by (first | (simp [entryFrame, mkF, argsToLocals, Value.category]; done) | rfl)
def own_Q_alInit (Z : State) (a1 : Addr) (de : Addr) (u1 : Value) (u2 : Value) (u3 : Value) (h0 : Heap) (n0 : Nat) (vq : Option Value) (h : Heap) (Lq : List Loc) : Prop := (vq = none) ∧ (Fr n0 Lq) ∧ (Keep h0 h [a1]) ∧ (Exa Z h a1 "java/util/ArrayList") ∧ (Fld Z h a1 "java/util/AbstractList" "modCount" "I" (.int (0 : Int32))) ∧ (Fld Z h a1 "java/util/ArrayList" "elementData" "[Ljava/lang/Object;" (.ref de)) ∧ (Fld Z h a1 "java/util/ArrayList" "size" "I" u3)
set_option maxRecDepth 65536 in
set_option maxHeartbeats 40000000 in
theorem own_rm_alInit (l : Launch) (Z : State) (a0 : Array Value) (hw : ∀ d ∈ tables_1, d.before a0 Z = true) (ws : List Jvm.Cond) (a1 : Addr) (de : Addr) (u1 : Value) (u2 : Value) (u3 : Value) (h0 : Heap) (n0 : Nat) (Z0 : n0 ≤ h0.size) (O0 : Old Z n0 h0) (Sd : Sta Z Z.heap "java/util/ArrayList" "DEFAULTCAPACITY_EMPTY_ELEMENTDATA" "[Ljava/lang/Object;" (.ref de)) (E1 : Exa Z h0 a1 "java/util/ArrayList") (F1 : Fld Z h0 a1 "java/util/AbstractList" "modCount" "I" u1) (F2 : Fld Z h0 a1 "java/util/ArrayList" "elementData" "[Ljava/lang/Object;" u2) (F3 : Fld Z h0 a1 "java/util/ArrayList" "size" "I" u3) (g1 : n0 ≤ a1) :
    MetFree l (⟨"java/util/ArrayList", "<init>", "()V"⟩ : MethodName) (head1 (Jvm.Cond.code (⟨"java/util/ArrayList", "<init>", "()V"⟩ : MethodName) jdk_38_method_2_code 1 none :: ws) ({ frames := 3, cells := 0, slots := 0, locals := 36 } : Room)) (fun aq Uq => aq = #[(.ref a1)] ∧ Z.Warmed39 Uq.vm ∧ Uq.heap = h0) (fun _ _ _ _ _ => True) (fun _ Uq oq Uq' => ∃ vq Lq, oq = .returned vq ∧ own_Q_alInit Z a1 de u1 u2 u3 h0 n0 vq Uq'.heap Lq ∧ FrameEnd Uq oq Uq' Lq ({ frames := 3, cells := 0, slots := 0, locals := 36 } : Room).cells ({ frames := 3, cells := 0, slots := 0, locals := 36 } : Room).slots) := by
  refine MetFree.of_bodySF (plainFor_of_name own_pn5) hisR ?_
  intro p e s m args below meth cde s₁ Bd hml0 hP hK
  obtain ⟨rfl, hZ, hh⟩ := hP
  have hx := Bd.exec
  have hby := Bd.bytes
  have hml : cde.maxLocals = 1 := hml0
  have hown : s.vm.findClass "java/util/ArrayList" = some m.cls := findClass_of_methodNamed Bd.named
  have hnm := (name_of_methodNamed Bd.named Bd.method).1
  have X0 : Stand p l e ({ frames := 3, cells := 0, slots := 0, locals := 36 } : Room) s m #[(.ref a1)] below meth cde s₁ [] 0 0 := Stand.of_body Bd
  have e0 : s₁.heap = h0 := by rw [← hh, Bd.state]; rfl
  have N0 := Fr.nil n0
  show own_Fin p e s below (own_Q_alInit Z a1 de u1 u2 u3 h0 n0) ({ frames := 3, cells := 0, slots := 0, locals := 36 } : Room).cells ({ frames := 3, cells := 0, slots := 0, locals := 36 } : Room).slots s₁ (entryFrame m #[(.ref a1)] 1)
  rw [own_ef_alInit m a1]
  refine own_via (fun _ k => XS.aloadN X0.here hx rfl (hb hby own_d_jdk_38_2_0) rfl rfl k) ?_
  show own_Fin _ _ _ _ _ _ _ s₁ (mkF m 1 #[.val (.ref a1)] [(.ref a1)])
  obtain ⟨_, _, ⟨T1_, L1_, k1_, n1_⟩, -, X1_, ⟨Lc1_, hQ1_, l1_, y1_, z1_⟩, st1_⟩ := X0.specialBack hx (y := (⟨"java/util/AbstractList", "<init>", "()V"⟩ : MethodName)) rfl hown (mvT hZ (hw _ (List.mem_of_getElem? (i := 113) rfl))) (mvT hZ (hw _ (List.mem_of_getElem? (i := 114) rfl))) (mvT hZ (hw _ (List.mem_of_getElem? (i := 118) rfl))) (by decide) (backOf (W := 0) (own_rm_ablInit l Z a0 hw [] a1 u1 u2 u3 h0 n0 Z0 E1 F1 F2 F3 g1) hZ (hw _ (List.mem_of_getElem? (i := 118) rfl)) (hw _ (List.mem_of_getElem? (i := 117) rfl)) (by decide) (by decide)) (g := (mkF m 1 #[.val (.ref a1)] [(.ref a1)])) rfl (by rw [hml]; rfl) (Steps.refl _) (a := a1) (argsL := []) (rest := []) (lenOf own_pd0 rfl) rfl (by show 2 * 0 + _ ≤ _; exact Nat.le_of_eq rfl) (hb hby own_d_jdk_38_2_1) (fun _ _ => ⟨rfl, e0, (by decide : 0 + 0 ≤ _), (by decide : 0 + 0 ≤ _)⟩)
  dsimp only [Pt.U, Pt.locs, Pt.cells, Pt.slots] at X1_ l1_ y1_ z1_ st1_ hQ1_
  subst l1_ y1_ z1_
  obtain ⟨rfl, Nq1_, K1_, r2_, r3_, r4_, r5_⟩ := hQ1_
  have N1_ := Fr.app N0 Nq1_
  refine own_via (fun _ k => st1_.trans k) ?_
  show own_Fin _ _ _ _ _ _ _ T1_ (mkF m 4 #[.val (.ref a1)] [])
  refine own_via (fun _ k => XS.aloadN X1_.here hx rfl (hb hby own_d_jdk_38_2_4) rfl rfl k) ?_
  show own_Fin _ _ _ _ _ _ _ T1_ (mkF m 5 #[.val (.ref a1)] [(.ref a1)])
  obtain ⟨T6_, X6_, e6_, st6_⟩ := getS2 X1_ hx hZ hown (host := "") (Or.inl (hw _ (List.mem_of_getElem? (i := 128) rfl))) Via.refl rfl (Sd.ext (O0.keep K1_ (allS g1 all0)).2) (g := (mkF m 5 #[.val (.ref a1)] [(.ref a1)])) rfl (hb hby own_d_jdk_38_2_5)
  refine own_via (fun _ k => st6_ _ k) ?_
  show own_Fin _ _ _ _ _ _ _ T6_ (mkF m 8 #[.val (.ref a1)] [(.ref de), (.ref a1)])
  obtain ⟨T7_, h7_, X7_, e7_, W7_, st7_⟩ := putF X6_ hx hZ hown (host := "") (Or.inl (hw _ (List.mem_of_getElem? (i := 129) rfl))) Via.refl e6_ r4_ r2_ (Or.inl (hw _ (List.mem_of_getElem? (i := 130) rfl))) (hw _ (List.mem_of_getElem? (i := 108) rfl)) (ty := (.array (.object "java/lang/Object"))) (by decide) rfl rfl (g := (mkF m 8 #[.val (.ref a1)] [(.ref de), (.ref a1)])) rfl rfl (hb hby own_d_jdk_38_2_8)
  have Fw7_ := r4_.same W7_
  have N7_ := Fr.snoc X7_ N1_ g1
  refine own_via (fun _ k => st7_ _ k) ?_
  show own_Fin _ _ _ _ _ _ _ T7_ (mkF m 11 #[.val (.ref a1)] [])
  have f8_ := (r3_.other W7_ (Or.inr (slot_ne (Or.inl (hw _ (List.mem_of_getElem? (i := 127) rfl))) (Or.inl (hw _ (List.mem_of_getElem? (i := 130) rfl))) (by decide) (t := .int) (t' := (.array (.object "java/lang/Object"))) (by decide) (by decide))))
  have f9_ := (r5_.other W7_ (Or.inr (slot_ne (Or.inl (hw _ (List.mem_of_getElem? (i := 139) rfl))) (Or.inl (hw _ (List.mem_of_getElem? (i := 130) rfl))) (by decide) (t := .int) (t' := (.array (.object "java/lang/Object"))) (by decide) (by decide))))
  exact own_ret0 X7_ hx Bd.returns Bd.notSynchronized (hb hby own_d_jdk_38_2_11) e7_ ⟨rfl, N7_, (((Keep.refl h0 [a1]).trans K1_ (allS (Or.inl (List.mem_of_getElem? (i := 0) rfl)) all0)).wr W7_ (Or.inl (List.mem_of_getElem? (i := 0) rfl))), (r2_.wr W7_), f8_, Fw7_, f9_⟩ (by decide) (by decide)
theorem own_d_jdk_29_65_0 : decode jdk_29_method_65_code 0 = .ok (.iload_n 0, 1) := by decide +kernel
theorem own_d_jdk_29_65_1 : decode jdk_29_method_65_code 1 = .ok (.iload_n 1, 1) := by decide +kernel
theorem own_d_jdk_29_65_2 : decode jdk_29_method_65_code 2 = .ok (.if_icmp .lt 7, 3) := by decide +kernel
theorem own_d_jdk_29_65_5 : decode jdk_29_method_65_code 5 = .ok (.iload_n 0, 1) := by decide +kernel
theorem own_d_jdk_29_65_6 : decode jdk_29_method_65_code 6 = .ok (.goto 4, 3) := by decide +kernel
theorem own_d_jdk_29_65_10 : decode jdk_29_method_65_code 10 = .ok (.ireturn, 1) := by decide +kernel
theorem own_ef_maxI (m : MethodId) (a : Int32) (b : Int32) : entryFrame m #[(.int a), (.int b)] 2 = mkF m 0 #[.val (.int a), .val (.int b)] [] := by (first | (simp [entryFrame, mkF, argsToLocals, Value.category]; done) | rfl)
def own_Q_maxI (Z : State) (a : Int32) (b : Int32) (h0 : Heap) (n0 : Nat) (vq : Option Value) (h : Heap) (Lq : List Loc) : Prop := (vq = some (.int a)) ∧ (Fr n0 Lq) ∧ (h = h0)
set_option maxRecDepth 65536 in
set_option maxHeartbeats 40000000 in
theorem own_rm_maxI (l : Launch) (Z : State) (a0 : Array Value) (hw : ∀ d ∈ tables_1, d.before a0 Z = true) (ws : List Jvm.Cond) (a : Int32) (b : Int32) (h0 : Heap) (n0 : Nat) (Z0 : n0 ≤ h0.size) (hm : ¬ a < b) :
    MetFree l (⟨"java/lang/Math", "max", "(II)I"⟩ : MethodName) (head1 (Jvm.Cond.code (⟨"java/lang/Math", "max", "(II)I"⟩ : MethodName) jdk_29_method_65_code 2 (some .int) :: ws) ({ frames := 0, cells := 0, slots := 0, locals := 0 } : Room)) (fun aq Uq => aq = #[(.int a), (.int b)] ∧ Z.Warmed39 Uq.vm ∧ Uq.heap = h0) (fun _ _ _ _ _ => True) (fun _ Uq oq Uq' => ∃ vq Lq, oq = .returned vq ∧ own_Q_maxI Z a b h0 n0 vq Uq'.heap Lq ∧ FrameEnd Uq oq Uq' Lq ({ frames := 0, cells := 0, slots := 0, locals := 0 } : Room).cells ({ frames := 0, cells := 0, slots := 0, locals := 0 } : Room).slots) := by
  refine MetFree.of_bodySF (Jvm.Free.JP.mathPlain rfl (by decide +kernel)) hisR ?_
  intro p e s m args below meth cde s₁ Bd hml0 hP hK
  obtain ⟨rfl, hZ, hh⟩ := hP
  have hx := Bd.exec
  have hby := Bd.bytes
  have hml : cde.maxLocals = 2 := hml0
  have hown : s.vm.findClass "java/lang/Math" = some m.cls := findClass_of_methodNamed Bd.named
  have hnm := (name_of_methodNamed Bd.named Bd.method).1
  have X0 : Stand p l e ({ frames := 0, cells := 0, slots := 0, locals := 0 } : Room) s m #[(.int a), (.int b)] below meth cde s₁ [] 0 0 := Stand.of_body Bd
  have e0 : s₁.heap = h0 := by rw [← hh, Bd.state]; rfl
  have N0 := Fr.nil n0
  show own_Fin p e s below (own_Q_maxI Z a b h0 n0) ({ frames := 0, cells := 0, slots := 0, locals := 0 } : Room).cells ({ frames := 0, cells := 0, slots := 0, locals := 0 } : Room).slots s₁ (entryFrame m #[(.int a), (.int b)] 2)
  rw [own_ef_maxI m a b]
  refine own_via (fun _ k => XS.iloadN X0.here hx rfl (hb hby own_d_jdk_29_65_0) rfl k) ?_
  show own_Fin _ _ _ _ _ _ _ s₁ (mkF m 1 #[.val (.int a), .val (.int b)] [(.int a)])
  refine own_via (fun _ k => XS.iloadN X0.here hx rfl (hb hby own_d_jdk_29_65_1) rfl k) ?_
  show own_Fin _ _ _ _ _ _ _ s₁ (mkF m 2 #[.val (.int a), .val (.int b)] [(.int b), (.int a)])
  refine own_via (fun _ k => XS.icmpNo X0.here hx rfl (hb hby own_d_jdk_29_65_2) rfl (flt hm).1 k) ?_
  show own_Fin _ _ _ _ _ _ _ s₁ (mkF m 5 #[.val (.int a), .val (.int b)] [])
  refine own_via (fun _ k => XS.iloadN X0.here hx rfl (hb hby own_d_jdk_29_65_5) rfl k) ?_
  show own_Fin _ _ _ _ _ _ _ s₁ (mkF m 6 #[.val (.int a), .val (.int b)] [(.int a)])
  refine own_via (fun _ k => XS.goto X0.here hx rfl (pc0 := 6) (pc' := 10) rfl (hb hby own_d_jdk_29_65_6) (by decide) (by decide) k) ?_
  show own_Fin _ _ _ _ _ _ _ s₁ (mkF m 10 #[.val (.int a), .val (.int b)] [(.int a)])
  exact own_retI X0 hx Bd.returns Bd.notSynchronized (hb hby own_d_jdk_29_65_10) e0 rfl ⟨rfl, N0, rfl⟩ (by decide) (by decide)
theorem own_d_jdk_38_6_0 : decode jdk_38_method_6_code 0 = .ok (.aload_n 0, 1) := by decide +kernel
theorem own_d_jdk_38_6_1 : decode jdk_38_method_6_code 1 = .ok (.getfield 9, 3) := by decide +kernel
theorem own_d_jdk_38_6_4 : decode jdk_38_method_6_code 4 = .ok (.arraylength, 1) := by decide +kernel
theorem own_d_jdk_38_6_5 : decode jdk_38_method_6_code 5 = .ok (.istore_n 2, 1) := by decide +kernel
theorem own_d_jdk_38_6_6 : decode jdk_38_method_6_code 6 = .ok (.iload_n 2, 1) := by decide +kernel
theorem own_d_jdk_38_6_7 : decode jdk_38_method_6_code 7 = .ok (.ifCond .gt 13, 3) := by decide +kernel
theorem own_d_jdk_38_6_10 : decode jdk_38_method_6_code 10 = .ok (.aload_n 0, 1) := by decide +kernel
theorem own_d_jdk_38_6_11 : decode jdk_38_method_6_code 11 = .ok (.getfield 9, 3) := by decide +kernel
theorem own_d_jdk_38_6_14 : decode jdk_38_method_6_code 14 = .ok (.getstatic 39, 3) := by decide +kernel
theorem own_d_jdk_38_6_17 : decode jdk_38_method_6_code 17 = .ok (.if_acmp .eq 28, 3) := by decide +kernel
theorem own_d_jdk_38_6_45 : decode jdk_38_method_6_code 45 = .ok (.aload_n 0, 1) := by decide +kernel
theorem own_d_jdk_38_6_46 : decode jdk_38_method_6_code 46 = .ok (.bipush 10, 2) := by decide +kernel
theorem own_d_jdk_38_6_48 : decode jdk_38_method_6_code 48 = .ok (.iload_n 1, 1) := by decide +kernel
theorem own_d_jdk_38_6_49 : decode jdk_38_method_6_code 49 = .ok (.invokestatic 79, 3) := by decide +kernel
theorem own_pd3 : parseMethodDescriptor "(II)I" = some ⟨[.int, .int], some .int⟩ := by decide +kernel
theorem own_d_jdk_38_6_52 : decode jdk_38_method_6_code 52 = .ok (.anewarray 7, 3) := by decide +kernel
theorem own_d_jdk_38_6_55 : decode jdk_38_method_6_code 55 = .ok (.dup_x1, 1) := by decide +kernel
theorem own_d_jdk_38_6_56 : decode jdk_38_method_6_code 56 = .ok (.putfield 9, 3) := by decide +kernel
theorem own_d_jdk_38_6_59 : decode jdk_38_method_6_code 59 = .ok (.areturn, 1) := by decide +kernel
theorem own_ef_grow1 (m : MethodId) (a1 : Addr) (n : Int32) : entryFrame m #[(.ref a1), (.int n)] 4 = mkF m 0 #[.val (.ref a1), .val (.int n), .unset, .unset] [] := by (first | (simp [entryFrame, mkF, argsToLocals, Value.category]; done) | rfl)
def own_Q_grow1 (Z : State) (a1 : Addr) (n : Int32) (de : Addr) (kd : ClassId) (u1 : Value) (u3 : Value) (h0 : Heap) (n0 : Nat) (vq : Option Value) (h : Heap) (Lq : List Loc) : Prop := ∃ (t : Addr) (k : ClassId), (vq = some (.ref t)) ∧ (Fr n0 Lq) ∧ (Keep h0 h [a1]) ∧ (Exa Z h a1 "java/util/ArrayList") ∧ (Fld Z h a1 "java/util/ArrayList" "size" "I" u3) ∧ (h0.size ≤ t) ∧ (Arv Z h t k (.object "java/lang/Object") (10 : Int32) ([.null, .null, .null, .null, .null, .null, .null, .null, .null, .null]) .null) ∧ (Ovr Z k "java/lang/Object")
set_option maxRecDepth 65536 in
set_option maxHeartbeats 40000000 in
theorem own_rm_grow1 (l : Launch) (Z : State) (a0 : Array Value) (hw : ∀ d ∈ tables_1, d.before a0 Z = true) (ws : List Jvm.Cond) (a1 : Addr) (n : Int32) (de : Addr) (kd : ClassId) (u1 : Value) (u3 : Value) (h0 : Heap) (n0 : Nat) (Z0 : n0 ≤ h0.size) (O0 : Old Z n0 h0) (Sd : Sta Z Z.heap "java/util/ArrayList" "DEFAULTCAPACITY_EMPTY_ELEMENTDATA" "[Ljava/lang/Object;" (.ref de)) (E1 : Exa Z h0 a1 "java/util/ArrayList") (F1 : Fld Z h0 a1 "java/util/AbstractList" "modCount" "I" u1) (F2 : Fld Z h0 a1 "java/util/ArrayList" "elementData" "[Ljava/lang/Object;" (.ref de)) (F3 : Fld Z h0 a1 "java/util/ArrayList" "size" "I" u3) (Vd : Arv Z h0 de kd (.object "java/lang/Object") (0 : Int32) ([]) .null) (hn : ¬ (10 : Int32) < n) (g1 : n0 ≤ a1) :
    MetFree l (⟨"java/util/ArrayList", "grow", "(I)[Ljava/lang/Object;"⟩ : MethodName) (head1 (Jvm.Cond.code (⟨"java/util/ArrayList", "grow", "(I)[Ljava/lang/Object;"⟩ : MethodName) jdk_38_method_6_code 4 (some (.array (.object "java/lang/Object"))) :: ws) ({ frames := 1, cells := 1, slots := 10, locals := 14 } : Room)) (fun aq Uq => aq = #[(.ref a1), (.int n)] ∧ Z.Warmed39 Uq.vm ∧ Uq.heap = h0) (fun _ _ _ _ _ => True) (fun _ Uq oq Uq' => ∃ vq Lq, oq = .returned vq ∧ own_Q_grow1 Z a1 n de kd u1 u3 h0 n0 vq Uq'.heap Lq ∧ FrameEnd Uq oq Uq' Lq ({ frames := 1, cells := 1, slots := 10, locals := 14 } : Room).cells ({ frames := 1, cells := 1, slots := 10, locals := 14 } : Room).slots) := by
  refine MetFree.of_bodySF (plainFor_of_name own_pn5) hisR ?_
  intro p e s m args below meth cde s₁ Bd hml0 hP hK
  obtain ⟨rfl, hZ, hh⟩ := hP
  have hx := Bd.exec
  have hby := Bd.bytes
  have hml : cde.maxLocals = 4 := hml0
  have hown : s.vm.findClass "java/util/ArrayList" = some m.cls := findClass_of_methodNamed Bd.named
  have hnm := (name_of_methodNamed Bd.named Bd.method).1
  have X0 : Stand p l e ({ frames := 1, cells := 1, slots := 10, locals := 14 } : Room) s m #[(.ref a1), (.int n)] below meth cde s₁ [] 0 0 := Stand.of_body Bd
  have e0 : s₁.heap = h0 := by rw [← hh, Bd.state]; rfl
  have N0 := Fr.nil n0
  show own_Fin p e s below (own_Q_grow1 Z a1 n de kd u1 u3 h0 n0) ({ frames := 1, cells := 1, slots := 10, locals := 14 } : Room).cells ({ frames := 1, cells := 1, slots := 10, locals := 14 } : Room).slots s₁ (entryFrame m #[(.ref a1), (.int n)] 4)
  rw [own_ef_grow1 m a1 n]
  refine own_via (fun _ k => XS.aloadN X0.here hx rfl (hb hby own_d_jdk_38_6_0) rfl rfl k) ?_
  show own_Fin _ _ _ _ _ _ _ s₁ (mkF m 1 #[.val (.ref a1), .val (.int n), .unset, .unset] [(.ref a1)])
  obtain ⟨T1_, X1_, e1_, st1_⟩ := getF X0 hx hZ hown (host := "") (Or.inl (hw _ (List.mem_of_getElem? (i := 129) rfl))) Via.refl e0 F2 (g := (mkF m 1 #[.val (.ref a1), .val (.int n), .unset, .unset] [(.ref a1)])) rfl rfl (hb hby own_d_jdk_38_6_1)
  refine own_via (fun _ k => st1_ _ k) ?_
  show own_Fin _ _ _ _ _ _ _ T1_ (mkF m 4 #[.val (.ref a1), .val (.int n), .unset, .unset] [(.ref de)])
  obtain ⟨c2_, Ar2_, -, S2_, M2_, -, -⟩ := (id Vd)
  refine own_via (fun _ k => X1_.arraylength hx (by rw [e1_]; exact Ar2_.1) (State.isArrayOf_alike hZ.alike Ar2_.2.1) (g := (mkF m 4 #[.val (.ref a1), .val (.int n), .unset, .unset] [(.ref de)])) rfl rfl (hb hby own_d_jdk_38_6_4) _ (by rw [len_of S2_ M2_]; exact k)) ?_
  show own_Fin _ _ _ _ _ _ _ T1_ (mkF m 5 #[.val (.ref a1), .val (.int n), .unset, .unset] [(.int (0 : Int32))])
  refine own_via (fun _ k => XS.istoreN X1_.here hx rfl (hb hby own_d_jdk_38_6_5) rfl (l' := #[.val (.ref a1), .val (.int n), .val (.int (0 : Int32)), .unset]) rfl k) ?_
  show own_Fin _ _ _ _ _ _ _ T1_ (mkF m 6 #[.val (.ref a1), .val (.int n), .val (.int (0 : Int32)), .unset] [])
  refine own_via (fun _ k => XS.iloadN X1_.here hx rfl (hb hby own_d_jdk_38_6_6) rfl k) ?_
  show own_Fin _ _ _ _ _ _ _ T1_ (mkF m 7 #[.val (.ref a1), .val (.int n), .val (.int (0 : Int32)), .unset] [(.int (0 : Int32))])
  refine own_via (fun _ k => XS.ifNo X1_.here hx rfl (hb hby own_d_jdk_38_6_7) rfl ((if0 _ _).trans (flt (by decide)).2.2.1) k) ?_
  show own_Fin _ _ _ _ _ _ _ T1_ (mkF m 10 #[.val (.ref a1), .val (.int n), .val (.int (0 : Int32)), .unset] [])
  refine own_via (fun _ k => XS.aloadN X1_.here hx rfl (hb hby own_d_jdk_38_6_10) rfl rfl k) ?_
  show own_Fin _ _ _ _ _ _ _ T1_ (mkF m 11 #[.val (.ref a1), .val (.int n), .val (.int (0 : Int32)), .unset] [(.ref a1)])
  obtain ⟨T3_, X3_, e3_, st3_⟩ := getF X1_ hx hZ hown (host := "") (Or.inl (hw _ (List.mem_of_getElem? (i := 129) rfl))) Via.refl e1_ F2 (g := (mkF m 11 #[.val (.ref a1), .val (.int n), .val (.int (0 : Int32)), .unset] [(.ref a1)])) rfl rfl (hb hby own_d_jdk_38_6_11)
  refine own_via (fun _ k => st3_ _ k) ?_
  show own_Fin _ _ _ _ _ _ _ T3_ (mkF m 14 #[.val (.ref a1), .val (.int n), .val (.int (0 : Int32)), .unset] [(.ref de)])
  obtain ⟨T4_, X4_, e4_, st4_⟩ := getS2 X3_ hx hZ hown (host := "") (Or.inl (hw _ (List.mem_of_getElem? (i := 128) rfl))) Via.refl e3_ (Sd.ext O0.2) (g := (mkF m 14 #[.val (.ref a1), .val (.int n), .val (.int (0 : Int32)), .unset] [(.ref de)])) rfl (hb hby own_d_jdk_38_6_14)
  refine own_via (fun _ k => st4_ _ k) ?_
  show own_Fin _ _ _ _ _ _ _ T4_ (mkF m 17 #[.val (.ref a1), .val (.int n), .val (.int (0 : Int32)), .unset] [(.ref de), (.ref de)])
  refine own_via (fun _ k => Jvm.RoadKit.acmp (g := (mkF m 17 #[.val (.ref a1), .val (.int n), .val (.int (0 : Int32)), .unset] [(.ref de), (.ref de)])) X4_ hx rfl rfl rfl (pc0 := 17) (pc' := 45) (same := true) rfl (hb hby own_d_jdk_38_6_17) rfl (decide_eq_true rfl) (by decide) (by decide) k) ?_
  show own_Fin _ _ _ _ _ _ _ T4_ (mkF m 45 #[.val (.ref a1), .val (.int n), .val (.int (0 : Int32)), .unset] [])
  refine own_via (fun _ k => XS.aloadN X4_.here hx rfl (hb hby own_d_jdk_38_6_45) rfl rfl k) ?_
  show own_Fin _ _ _ _ _ _ _ T4_ (mkF m 46 #[.val (.ref a1), .val (.int n), .val (.int (0 : Int32)), .unset] [(.ref a1)])
  refine own_via (fun _ k => XS.bipush X4_.here hx rfl (hb hby own_d_jdk_38_6_46) k) ?_
  show own_Fin _ _ _ _ _ _ _ T4_ (mkF m 48 #[.val (.ref a1), .val (.int n), .val (.int (0 : Int32)), .unset] [(.int (10 : Int32)), (.ref a1)])
  refine own_via (fun _ k => XS.iloadN X4_.here hx rfl (hb hby own_d_jdk_38_6_48) rfl k) ?_
  show own_Fin _ _ _ _ _ _ _ T4_ (mkF m 49 #[.val (.ref a1), .val (.int n), .val (.int (0 : Int32)), .unset] [(.int n), (.int (10 : Int32)), (.ref a1)])
  obtain ⟨_, _, ⟨T5_, L5_, k5_, n5_⟩, -, X5_, ⟨Lc5_, hQ5_, l5_, y5_, z5_⟩, st5_⟩ := Jvm.LawKit.callS X4_ hx (y := (⟨"java/lang/Math", "max", "(II)I"⟩ : MethodName)) hown (mvT hZ (hw _ (List.mem_of_getElem? (i := 155) rfl))) (mvT hZ (hw _ (List.mem_of_getElem? (i := 156) rfl))) (mvT hZ (hw _ (List.mem_of_getElem? (i := 157) rfl))) (mvT hZ (hw _ (List.mem_of_getElem? (i := 158) rfl))) (by decide) (backOf (W := 1) (own_rm_maxI l Z a0 hw [] (10 : Int32) n h0 n0 Z0 hn) hZ (hw _ (List.mem_of_getElem? (i := 158) rfl)) (hw _ (List.mem_of_getElem? (i := 157) rfl)) (by decide) (by decide)) (g := (mkF m 49 #[.val (.ref a1), .val (.int n), .val (.int (0 : Int32)), .unset] [(.int n), (.int (10 : Int32)), (.ref a1)])) rfl (by rw [hml]; rfl) (argsL := [(.int (10 : Int32)), (.int n)]) (rest := [(.ref a1)]) (lenOf own_pd3 rfl) rfl (by show 2 * 0 + _ ≤ _; exact Nat.le_of_eq rfl) (hb hby own_d_jdk_38_6_49) (fun _ _ => ⟨rfl, e4_, (by decide : 0 + 0 ≤ _), (by decide : 0 + 0 ≤ _)⟩)
  dsimp only [Pt.U, Pt.locs, Pt.cells, Pt.slots] at X5_ l5_ y5_ z5_ st5_ hQ5_
  subst l5_ y5_ z5_
  obtain ⟨rfl, Nq5_, hh5_⟩ := hQ5_
  have N5_ := Fr.app N0 Nq5_
  refine own_via (fun _ k => st5_ _ k) ?_
  show own_Fin _ _ _ _ _ _ _ T5_ (mkF m 52 #[.val (.ref a1), .val (.int n), .val (.int (0 : Int32)), .unset] [(.int (10 : Int32)), (.ref a1)])
  obtain ⟨T6_, h6_, k6_, X6_, e6_, E6_, A6_, O6_, st6_⟩ := newR X5_ hx hZ hown (hw _ (List.mem_of_getElem? (i := 159) rfl)) (hw _ (List.mem_of_getElem? (i := 160) rfl)) hh5_ (g := (mkF m 52 #[.val (.ref a1), .val (.int n), .val (.int (0 : Int32)), .unset] [(.int (10 : Int32)), (.ref a1)])) rfl (hb hby own_d_jdk_38_6_52) rfl (by decide) (cap := 10) (by decide) (by decide) (by decide) (by decide)
  obtain ⟨b6_, g6_⟩ : ∃ z, z = h0.size := ⟨_, rfl⟩
  rw [← g6_] at A6_ st6_
  have V6_ : Arv Z h6_ b6_ k6_ (.object "java/lang/Object") (10 : Int32) [.null, .null, .null, .null, .null, .null, .null, .null, .null, .null] .null := (Arv.new A6_ (by decide)).pad (pad_rep [] .null 10)
  refine own_via (fun _ k => st6_ _ k) ?_
  show own_Fin _ _ _ _ _ _ _ T6_ (mkF m 55 #[.val (.ref a1), .val (.int n), .val (.int (0 : Int32)), .unset] [(.ref b6_), (.ref a1)])
  refine own_via (fun _ k => XS.dupX1 X6_.here hx rfl (hb hby own_d_jdk_38_6_55) rfl rfl rfl k) ?_
  show own_Fin _ _ _ _ _ _ _ T6_ (mkF m 56 #[.val (.ref a1), .val (.int n), .val (.int (0 : Int32)), .unset] [(.ref b6_), (.ref a1), (.ref b6_)])
  obtain ⟨T7_, h7_, X7_, e7_, W7_, st7_⟩ := putF X6_ hx hZ hown (host := "") (Or.inl (hw _ (List.mem_of_getElem? (i := 129) rfl))) Via.refl e6_ (F2.ext E6_) (E1.ext E6_) (Or.inl (hw _ (List.mem_of_getElem? (i := 130) rfl))) (hw _ (List.mem_of_getElem? (i := 108) rfl)) (ty := (.array (.object "java/lang/Object"))) (by decide) rfl rfl (g := (mkF m 56 #[.val (.ref a1), .val (.int n), .val (.int (0 : Int32)), .unset] [(.ref b6_), (.ref a1), (.ref b6_)])) rfl rfl (hb hby own_d_jdk_38_6_56)
  have Fw7_ := (F2.ext E6_).same W7_
  have N7_ := Fr.snoc X7_ N5_ g1
  refine own_via (fun _ k => st7_ _ k) ?_
  show own_Fin _ _ _ _ _ _ _ T7_ (mkF m 59 #[.val (.ref a1), .val (.int n), .val (.int (0 : Int32)), .unset] [(.ref b6_)])
  have f8_ := ((F3.ext E6_).other W7_ (Or.inr (slot_ne (Or.inl (hw _ (List.mem_of_getElem? (i := 139) rfl))) (Or.inl (hw _ (List.mem_of_getElem? (i := 130) rfl))) (by decide) (t := .int) (t' := (.array (.object "java/lang/Object"))) (by decide) (by decide))))
  have q9_ : a1 ≠ b6_ := Nat.ne_of_lt (Nat.lt_of_lt_of_le E1.lt (Nat.le_of_eq g6_.symm))
  exact own_retA X7_ hx Bd.returns Bd.notSynchronized rfl rfl (hb hby own_d_jdk_38_6_59) e7_ ⟨b6_, k6_, rfl, N7_, (((Keep.refl h0 [a1]).ext E6_).wr W7_ (Or.inl (List.mem_of_getElem? (i := 0) rfl))), ((E1.ext E6_).wr W7_), f8_, (Nat.le_of_eq g6_.symm), (V6_.other W7_ (Ne.symm q9_)), O6_⟩ (by decide) (by decide)
theorem own_d_jdk_38_7_0 : decode jdk_38_method_7_code 0 = .ok (.aload_n 0, 1) := by decide +kernel
theorem own_d_jdk_38_7_1 : decode jdk_38_method_7_code 1 = .ok (.aload_n 0, 1) := by decide +kernel
theorem own_d_jdk_38_7_2 : decode jdk_38_method_7_code 2 = .ok (.getfield 48, 3) := by decide +kernel
theorem own_d_jdk_38_7_5 : decode jdk_38_method_7_code 5 = .ok (.iconst 1, 1) := by decide +kernel
theorem own_d_jdk_38_7_6 : decode jdk_38_method_7_code 6 = .ok (.iadd, 1) := by decide +kernel
theorem own_d_jdk_38_7_7 : decode jdk_38_method_7_code 7 = .ok (.invokevirtual 69, 3) := by decide +kernel
theorem own_pd4 : parseMethodDescriptor "(I)[Ljava/lang/Object;" = some ⟨[.int], some (.array (.object "java/lang/Object"))⟩ := by decide +kernel
theorem own_d_jdk_38_7_10 : decode jdk_38_method_7_code 10 = .ok (.areturn, 1) := by decide +kernel
theorem own_ef_grow0 (m : MethodId) (a1 : Addr) : entryFrame m #[(.ref a1)] 1 = mkF m 0 #[.val (.ref a1)] [] := by (first | (simp [entryFrame, mkF, argsToLocals, Value.category]; done) | rfl)
def own_Q_grow0 (Z : State) (a1 : Addr) (de : Addr) (kd : ClassId) (u1 : Value) (h0 : Heap) (n0 : Nat) (vq : Option Value) (h : Heap) (Lq : List Loc) : Prop := ∃ (t : Addr) (k : ClassId), (vq = some (.ref t)) ∧ (Fr n0 Lq) ∧ (Keep h0 h [a1]) ∧ (Exa Z h a1 "java/util/ArrayList") ∧ (Fld Z h a1 "java/util/ArrayList" "size" "I" (.int (0 : Int32))) ∧ (h0.size ≤ t) ∧ (Arv Z h t k (.object "java/lang/Object") (10 : Int32) ([.null, .null, .null, .null, .null, .null, .null, .null, .null, .null]) .null) ∧ (Ovr Z k "java/lang/Object")
set_option maxRecDepth 65536 in
set_option maxHeartbeats 40000000 in
theorem own_rm_grow0 (l : Launch) (Z : State) (a0 : Array Value) (hw : ∀ d ∈ tables_1, d.before a0 Z = true) (ws : List Jvm.Cond) (a1 : Addr) (de : Addr) (kd : ClassId) (u1 : Value) (h0 : Heap) (n0 : Nat) (Z0 : n0 ≤ h0.size) (O0 : Old Z n0 h0) (Sd : Sta Z Z.heap "java/util/ArrayList" "DEFAULTCAPACITY_EMPTY_ELEMENTDATA" "[Ljava/lang/Object;" (.ref de)) (E1 : Exa Z h0 a1 "java/util/ArrayList") (F1 : Fld Z h0 a1 "java/util/AbstractList" "modCount" "I" u1) (F2 : Fld Z h0 a1 "java/util/ArrayList" "elementData" "[Ljava/lang/Object;" (.ref de)) (F3 : Fld Z h0 a1 "java/util/ArrayList" "size" "I" (.int (0 : Int32))) (Vd : Arv Z h0 de kd (.object "java/lang/Object") (0 : Int32) ([]) .null) (g1 : n0 ≤ a1) :
    MetFree l (⟨"java/util/ArrayList", "grow", "()[Ljava/lang/Object;"⟩ : MethodName) (head1 (Jvm.Cond.code (⟨"java/util/ArrayList", "grow", "()[Ljava/lang/Object;"⟩ : MethodName) jdk_38_method_7_code 1 (some (.array (.object "java/lang/Object"))) :: ws) ({ frames := 2, cells := 1, slots := 10, locals := 29 } : Room)) (fun aq Uq => aq = #[(.ref a1)] ∧ Z.Warmed39 Uq.vm ∧ Uq.heap = h0) (fun _ _ _ _ _ => True) (fun _ Uq oq Uq' => ∃ vq Lq, oq = .returned vq ∧ own_Q_grow0 Z a1 de kd u1 h0 n0 vq Uq'.heap Lq ∧ FrameEnd Uq oq Uq' Lq ({ frames := 2, cells := 1, slots := 10, locals := 29 } : Room).cells ({ frames := 2, cells := 1, slots := 10, locals := 29 } : Room).slots) := by
  refine MetFree.of_bodySF (plainFor_of_name own_pn5) hisR ?_
  intro p e s m args below meth cde s₁ Bd hml0 hP hK
  obtain ⟨rfl, hZ, hh⟩ := hP
  have hx := Bd.exec
  have hby := Bd.bytes
  have hml : cde.maxLocals = 1 := hml0
  have hown : s.vm.findClass "java/util/ArrayList" = some m.cls := findClass_of_methodNamed Bd.named
  have hnm := (name_of_methodNamed Bd.named Bd.method).1
  have X0 : Stand p l e ({ frames := 2, cells := 1, slots := 10, locals := 29 } : Room) s m #[(.ref a1)] below meth cde s₁ [] 0 0 := Stand.of_body Bd
  have e0 : s₁.heap = h0 := by rw [← hh, Bd.state]; rfl
  have N0 := Fr.nil n0
  show own_Fin p e s below (own_Q_grow0 Z a1 de kd u1 h0 n0) ({ frames := 2, cells := 1, slots := 10, locals := 29 } : Room).cells ({ frames := 2, cells := 1, slots := 10, locals := 29 } : Room).slots s₁ (entryFrame m #[(.ref a1)] 1)
  rw [own_ef_grow0 m a1]
  refine own_via (fun _ k => XS.aloadN X0.here hx rfl (hb hby own_d_jdk_38_7_0) rfl rfl k) ?_
  show own_Fin _ _ _ _ _ _ _ s₁ (mkF m 1 #[.val (.ref a1)] [(.ref a1)])
  refine own_via (fun _ k => XS.aloadN X0.here hx rfl (hb hby own_d_jdk_38_7_1) rfl rfl k) ?_
  show own_Fin _ _ _ _ _ _ _ s₁ (mkF m 2 #[.val (.ref a1)] [(.ref a1), (.ref a1)])
  obtain ⟨T1_, X1_, e1_, st1_⟩ := getF X0 hx hZ hown (host := "") (Or.inl (hw _ (List.mem_of_getElem? (i := 138) rfl))) Via.refl e0 F3 (g := (mkF m 2 #[.val (.ref a1)] [(.ref a1), (.ref a1)])) rfl rfl (hb hby own_d_jdk_38_7_2)
  refine own_via (fun _ k => st1_ _ k) ?_
  show own_Fin _ _ _ _ _ _ _ T1_ (mkF m 5 #[.val (.ref a1)] [(.int (0 : Int32)), (.ref a1)])
  refine own_via (fun _ k => XS.iconst X1_.here hx rfl (hb hby own_d_jdk_38_7_5) k) ?_
  show own_Fin _ _ _ _ _ _ _ T1_ (mkF m 6 #[.val (.ref a1)] [(.int (1 : Int32)), (.int (0 : Int32)), (.ref a1)])
  refine own_via (fun _ k => XS.iadd X1_.here hx rfl (hb hby own_d_jdk_38_7_6) rfl k) ?_
  show own_Fin _ _ _ _ _ _ _ T1_ (mkF m 7 #[.val (.ref a1)] [(.int ((0 : Int32) + (1 : Int32))), (.ref a1)])
  obtain ⟨cq2_, q2_, q2_'⟩ := E1.cell
  obtain ⟨_, _, ⟨T2_, L2_, k2_, n2_⟩, -, X2_, ⟨Lc2_, hQ2_, l2_, y2_, z2_⟩, st2_⟩ := X1_.privateBack hx (y := (⟨"java/util/ArrayList", "grow", "(I)[Ljava/lang/Object;"⟩ : MethodName)) hown (mvT hZ (hw _ (List.mem_of_getElem? (i := 150) rfl))) (mvT hZ (hw _ (List.mem_of_getElem? (i := 151) rfl))) (mvT hZ (hw _ (List.mem_of_getElem? (i := 153) rfl))) (Cond.privateMethod_at (mvP hZ (hw _ (List.mem_of_getElem? (i := 152) rfl)) (args := #[]))) (mvT hZ (hw _ (List.mem_of_getElem? (i := 154) rfl))) (by decide) (backOf (W := 0) (own_rm_grow1 l Z a0 hw [] a1 ((0 : Int32) + (1 : Int32)) de kd u1 (.int (0 : Int32)) h0 n0 Z0 O0 Sd E1 F1 F2 F3 Vd (by decide) g1) hZ (hw _ (List.mem_of_getElem? (i := 154) rfl)) (hw _ (List.mem_of_getElem? (i := 109) rfl)) (by decide) (by decide)) (g := (mkF m 7 #[.val (.ref a1)] [(.int ((0 : Int32) + (1 : Int32))), (.ref a1)])) rfl (by rw [hml]; rfl) (Steps.refl _) (a := a1) (by rw [e1_]; exact q2_) q2_' (argsL := [(.int ((0 : Int32) + (1 : Int32)))]) (rest := []) (lenOf own_pd4 rfl) rfl (by show 2 * 0 + _ ≤ _; exact Nat.le_of_eq rfl) (hb hby own_d_jdk_38_7_7) (fun _ _ => ⟨rfl, e1_, (by decide : 0 + 1 ≤ _), (by decide : 0 + 10 ≤ _)⟩)
  dsimp only [Pt.U, Pt.locs, Pt.cells, Pt.slots] at X2_ l2_ y2_ z2_ st2_ hQ2_
  subst l2_ y2_ z2_
  obtain ⟨t, k, rfl, Nq2_, K2_, r3_, r4_, r5_, r6_, ov⟩ := hQ2_
  have N2_ := Fr.app N0 Nq2_
  refine own_via (fun _ k => st2_.trans k) ?_
  show own_Fin _ _ _ _ _ _ _ T2_ (mkF m 10 #[.val (.ref a1)] [(.ref t)])
  exact own_retA X2_ hx Bd.returns Bd.notSynchronized rfl rfl (hb hby own_d_jdk_38_7_10) rfl ⟨t, k, rfl, N2_, ((Keep.refl h0 [a1]).trans K2_ (allS (Or.inl (List.mem_of_getElem? (i := 0) rfl)) all0)), r3_, r4_, r5_, r6_, ov⟩ (by decide) (by decide)
theorem own_d_jdk_38_24_0 : decode jdk_38_method_24_code 0 = .ok (.iload_n 3, 1) := by decide +kernel
theorem own_d_jdk_38_24_1 : decode jdk_38_method_24_code 1 = .ok (.aload_n 2, 1) := by decide +kernel
theorem own_d_jdk_38_24_2 : decode jdk_38_method_24_code 2 = .ok (.arraylength, 1) := by decide +kernel
theorem own_d_jdk_38_24_3 : decode jdk_38_method_24_code 3 = .ok (.if_icmp .ne 8, 3) := by decide +kernel
theorem own_d_jdk_38_24_6 : decode jdk_38_method_24_code 6 = .ok (.aload_n 0, 1) := by decide +kernel
theorem own_d_jdk_38_24_7 : decode jdk_38_method_24_code 7 = .ok (.invokevirtual 129, 3) := by decide +kernel
theorem own_pd5 : parseMethodDescriptor "()[Ljava/lang/Object;" = some ⟨[], some (.array (.object "java/lang/Object"))⟩ := by decide +kernel
theorem own_d_jdk_38_24_10 : decode jdk_38_method_24_code 10 = .ok (.astore_n 2, 1) := by decide +kernel
theorem own_d_jdk_38_24_11 : decode jdk_38_method_24_code 11 = .ok (.aload_n 2, 1) := by decide +kernel
theorem own_d_jdk_38_24_12 : decode jdk_38_method_24_code 12 = .ok (.iload_n 3, 1) := by decide +kernel
theorem own_d_jdk_38_24_13 : decode jdk_38_method_24_code 13 = .ok (.aload_n 1, 1) := by decide +kernel
theorem own_d_jdk_38_24_14 : decode jdk_38_method_24_code 14 = .ok (.aastore, 1) := by decide +kernel
theorem own_d_jdk_38_24_15 : decode jdk_38_method_24_code 15 = .ok (.aload_n 0, 1) := by decide +kernel
theorem own_d_jdk_38_24_16 : decode jdk_38_method_24_code 16 = .ok (.iload_n 3, 1) := by decide +kernel
theorem own_d_jdk_38_24_17 : decode jdk_38_method_24_code 17 = .ok (.iconst 1, 1) := by decide +kernel
theorem own_d_jdk_38_24_18 : decode jdk_38_method_24_code 18 = .ok (.iadd, 1) := by decide +kernel
theorem own_d_jdk_38_24_19 : decode jdk_38_method_24_code 19 = .ok (.putfield 48, 3) := by decide +kernel
theorem own_d_jdk_38_24_22 : decode jdk_38_method_24_code 22 = .ok (.return_, 1) := by decide +kernel
theorem own_ef_add3 (m : MethodId) (a1 : Addr) (x : Addr) (de : Addr) : entryFrame m #[(.ref a1), (.ref x), (.ref de), (.int (0 : Int32))] 4 = mkF m 0 #[.val (.ref a1), .val (.ref x), .val (.ref de), .val (.int (0 : Int32))] [] := by (first | (simp [entryFrame, mkF, argsToLocals, Value.category]; done) | rfl)
def own_Q_add3 (Z : State) (a1 : Addr) (x : Addr) (de : Addr) (kd : ClassId) (u1 : Value) (h0 : Heap) (n0 : Nat) (vq : Option Value) (h : Heap) (Lq : List Loc) : Prop := (vq = none) ∧ (Fr n0 Lq) ∧ (Keep h0 h [a1]) ∧ (Exa Z h a1 "java/util/ArrayList")
set_option maxRecDepth 65536 in
set_option maxHeartbeats 40000000 in
theorem own_rm_add3 (l : Launch) (Z : State) (a0 : Array Value) (hw : ∀ d ∈ tables_1, d.before a0 Z = true) (ws : List Jvm.Cond) (a1 : Addr) (x : Addr) (de : Addr) (kd : ClassId) (u1 : Value) (h0 : Heap) (n0 : Nat) (Z0 : n0 ≤ h0.size) (O0 : Old Z n0 h0) (Sd : Sta Z Z.heap "java/util/ArrayList" "DEFAULTCAPACITY_EMPTY_ELEMENTDATA" "[Ljava/lang/Object;" (.ref de)) (E1 : Exa Z h0 a1 "java/util/ArrayList") (F1 : Fld Z h0 a1 "java/util/AbstractList" "modCount" "I" u1) (F2 : Fld Z h0 a1 "java/util/ArrayList" "elementData" "[Ljava/lang/Object;" (.ref de)) (F3 : Fld Z h0 a1 "java/util/ArrayList" "size" "I" (.int (0 : Int32))) (Vd : Arv Z h0 de kd (.object "java/lang/Object") (0 : Int32) ([]) .null) (Ex : Exa Z h0 x "java/lang/Integer") (g1 : n0 ≤ a1) :
    MetFree l (⟨"java/util/ArrayList", "add", "(Ljava/lang/Object;[Ljava/lang/Object;I)V"⟩ : MethodName) (head1 (Jvm.Cond.code (⟨"java/util/ArrayList", "add", "(Ljava/lang/Object;[Ljava/lang/Object;I)V"⟩ : MethodName) jdk_38_method_24_code 4 none :: ws) ({ frames := 3, cells := 1, slots := 10, locals := 41 } : Room)) (fun aq Uq => aq = #[(.ref a1), (.ref x), (.ref de), (.int (0 : Int32))] ∧ Z.Warmed39 Uq.vm ∧ Uq.heap = h0) (fun _ _ _ _ _ => True) (fun _ Uq oq Uq' => ∃ vq Lq, oq = .returned vq ∧ own_Q_add3 Z a1 x de kd u1 h0 n0 vq Uq'.heap Lq ∧ FrameEnd Uq oq Uq' Lq ({ frames := 3, cells := 1, slots := 10, locals := 41 } : Room).cells ({ frames := 3, cells := 1, slots := 10, locals := 41 } : Room).slots) := by
  refine MetFree.of_bodySF (plainFor_of_name own_pn5) hisR ?_
  intro p e s m args below meth cde s₁ Bd hml0 hP hK
  obtain ⟨rfl, hZ, hh⟩ := hP
  have hx := Bd.exec
  have hby := Bd.bytes
  have hml : cde.maxLocals = 4 := hml0
  have hown : s.vm.findClass "java/util/ArrayList" = some m.cls := findClass_of_methodNamed Bd.named
  have hnm := (name_of_methodNamed Bd.named Bd.method).1
  have X0 : Stand p l e ({ frames := 3, cells := 1, slots := 10, locals := 41 } : Room) s m #[(.ref a1), (.ref x), (.ref de), (.int (0 : Int32))] below meth cde s₁ [] 0 0 := Stand.of_body Bd
  have e0 : s₁.heap = h0 := by rw [← hh, Bd.state]; rfl
  have N0 := Fr.nil n0
  show own_Fin p e s below (own_Q_add3 Z a1 x de kd u1 h0 n0) ({ frames := 3, cells := 1, slots := 10, locals := 41 } : Room).cells ({ frames := 3, cells := 1, slots := 10, locals := 41 } : Room).slots s₁ (entryFrame m #[(.ref a1), (.ref x), (.ref de), (.int (0 : Int32))] 4)
  rw [own_ef_add3 m a1 x de]
  refine own_via (fun _ k => XS.iloadN X0.here hx rfl (hb hby own_d_jdk_38_24_0) rfl k) ?_
  show own_Fin _ _ _ _ _ _ _ s₁ (mkF m 1 #[.val (.ref a1), .val (.ref x), .val (.ref de), .val (.int (0 : Int32))] [(.int (0 : Int32))])
  refine own_via (fun _ k => XS.aloadN X0.here hx rfl (hb hby own_d_jdk_38_24_1) rfl rfl k) ?_
  show own_Fin _ _ _ _ _ _ _ s₁ (mkF m 2 #[.val (.ref a1), .val (.ref x), .val (.ref de), .val (.int (0 : Int32))] [(.ref de), (.int (0 : Int32))])
  obtain ⟨c1_, Ar1_, -, S1_, M1_, -, -⟩ := (id Vd)
  refine own_via (fun _ k => X0.arraylength hx (by rw [e0]; exact Ar1_.1) (State.isArrayOf_alike hZ.alike Ar1_.2.1) (g := (mkF m 2 #[.val (.ref a1), .val (.ref x), .val (.ref de), .val (.int (0 : Int32))] [(.ref de), (.int (0 : Int32))])) rfl rfl (hb hby own_d_jdk_38_24_2) _ (by rw [len_of S1_ M1_]; exact k)) ?_
  show own_Fin _ _ _ _ _ _ _ s₁ (mkF m 3 #[.val (.ref a1), .val (.ref x), .val (.ref de), .val (.int (0 : Int32))] [(.int (0 : Int32)), (.int (0 : Int32))])
  refine own_via (fun _ k => XS.icmpNo X0.here hx rfl (hb hby own_d_jdk_38_24_3) rfl (teq rfl).2 k) ?_
  show own_Fin _ _ _ _ _ _ _ s₁ (mkF m 6 #[.val (.ref a1), .val (.ref x), .val (.ref de), .val (.int (0 : Int32))] [])
  refine own_via (fun _ k => XS.aloadN X0.here hx rfl (hb hby own_d_jdk_38_24_6) rfl rfl k) ?_
  show own_Fin _ _ _ _ _ _ _ s₁ (mkF m 7 #[.val (.ref a1), .val (.ref x), .val (.ref de), .val (.int (0 : Int32))] [(.ref a1)])
  obtain ⟨cq2_, q2_, q2_'⟩ := E1.cell
  obtain ⟨_, _, ⟨T2_, L2_, k2_, n2_⟩, -, X2_, ⟨Lc2_, hQ2_, l2_, y2_, z2_⟩, st2_⟩ := X0.privateBack hx (y := (⟨"java/util/ArrayList", "grow", "()[Ljava/lang/Object;"⟩ : MethodName)) hown (mvT hZ (hw _ (List.mem_of_getElem? (i := 145) rfl))) (mvT hZ (hw _ (List.mem_of_getElem? (i := 146) rfl))) (mvT hZ (hw _ (List.mem_of_getElem? (i := 148) rfl))) (Cond.privateMethod_at (mvP hZ (hw _ (List.mem_of_getElem? (i := 147) rfl)) (args := #[]))) (mvT hZ (hw _ (List.mem_of_getElem? (i := 149) rfl))) (by decide) (backOf (W := 0) (own_rm_grow0 l Z a0 hw [] a1 de kd u1 h0 n0 Z0 O0 Sd E1 F1 F2 F3 Vd g1) hZ (hw _ (List.mem_of_getElem? (i := 149) rfl)) (hw _ (List.mem_of_getElem? (i := 109) rfl)) (by decide) (by decide)) (g := (mkF m 7 #[.val (.ref a1), .val (.ref x), .val (.ref de), .val (.int (0 : Int32))] [(.ref a1)])) rfl (by rw [hml]; rfl) (Steps.refl _) (a := a1) (by rw [e0]; exact q2_) q2_' (argsL := []) (rest := []) (lenOf own_pd5 rfl) rfl (by show 2 * 0 + _ ≤ _; exact Nat.le_of_eq rfl) (hb hby own_d_jdk_38_24_7) (fun _ _ => ⟨rfl, e0, (by decide : 0 + 1 ≤ _), (by decide : 0 + 10 ≤ _)⟩)
  dsimp only [Pt.U, Pt.locs, Pt.cells, Pt.slots] at X2_ l2_ y2_ z2_ st2_ hQ2_
  subst l2_ y2_ z2_
  obtain ⟨t, k, rfl, Nq2_, K2_, r3_, r4_, r5_, r6_, ov⟩ := hQ2_
  have N2_ := Fr.app N0 Nq2_
  refine own_via (fun _ k => st2_.trans k) ?_
  show own_Fin _ _ _ _ _ _ _ T2_ (mkF m 10 #[.val (.ref a1), .val (.ref x), .val (.ref de), .val (.int (0 : Int32))] [(.ref t)])
  refine own_via (fun _ k => XS.astoreN X2_.here hx rfl (hb hby own_d_jdk_38_24_10) rfl rfl (l' := #[.val (.ref a1), .val (.ref x), .val (.ref t), .val (.int (0 : Int32))]) rfl k) ?_
  show own_Fin _ _ _ _ _ _ _ T2_ (mkF m 11 #[.val (.ref a1), .val (.ref x), .val (.ref t), .val (.int (0 : Int32))] [])
  refine own_via (fun _ k => XS.aloadN X2_.here hx rfl (hb hby own_d_jdk_38_24_11) rfl rfl k) ?_
  show own_Fin _ _ _ _ _ _ _ T2_ (mkF m 12 #[.val (.ref a1), .val (.ref x), .val (.ref t), .val (.int (0 : Int32))] [(.ref t)])
  refine own_via (fun _ k => XS.iloadN X2_.here hx rfl (hb hby own_d_jdk_38_24_12) rfl k) ?_
  show own_Fin _ _ _ _ _ _ _ T2_ (mkF m 13 #[.val (.ref a1), .val (.ref x), .val (.ref t), .val (.int (0 : Int32))] [(.int (0 : Int32)), (.ref t)])
  refine own_via (fun _ k => XS.aloadN X2_.here hx rfl (hb hby own_d_jdk_38_24_13) rfl rfl k) ?_
  show own_Fin _ _ _ _ _ _ _ T2_ (mkF m 14 #[.val (.ref a1), .val (.ref x), .val (.ref t), .val (.int (0 : Int32))] [(.ref x), (.int (0 : Int32)), (.ref t)])
  obtain ⟨c7_, Ar7_, q7_, S7_, M7_, H7_, G7_⟩ := (id r6_)
  have hin7_ : ¬ ((0 : Int32) < 0 ∨ c7_.slots.size ≤ ((0 : Int32)).toNatClampNeg) := inb_of S7_ ⟨by decide, by decide⟩
  obtain ⟨T7_, h7_, X7_, e7_, W7_, st7_⟩ := stR X2_ hx hZ rfl Ar7_ (j := (0 : Int32)) hin7_ rfl (Sto.ofV Ar7_ q7_ ov (Ins.of_exa (Ex.keep K2_) (hw _ (List.mem_of_getElem? (i := 161) rfl)))) (g := (mkF m 14 #[.val (.ref a1), .val (.ref x), .val (.ref t), .val (.int (0 : Int32))] [(.ref x), (.int (0 : Int32)), (.ref t)])) rfl rfl (hb hby own_d_jdk_38_24_14)
  have V7_ := Arv.set Ar7_ q7_ S7_ M7_ H7_ G7_ rfl W7_ 0 rfl (Nat.le_of_ble_eq_true rfl)
  have g8_ : n0 ≤ t := Nat.le_trans Z0 r5_
  have N7_ := Fr.snoc X7_ N2_ g8_
  refine own_via (fun _ k => st7_ _ k) ?_
  show own_Fin _ _ _ _ _ _ _ T7_ (mkF m 15 #[.val (.ref a1), .val (.ref x), .val (.ref t), .val (.int (0 : Int32))] [])
  refine own_via (fun _ k => XS.aloadN X7_.here hx rfl (hb hby own_d_jdk_38_24_15) rfl rfl k) ?_
  show own_Fin _ _ _ _ _ _ _ T7_ (mkF m 16 #[.val (.ref a1), .val (.ref x), .val (.ref t), .val (.int (0 : Int32))] [(.ref a1)])
  refine own_via (fun _ k => XS.iloadN X7_.here hx rfl (hb hby own_d_jdk_38_24_16) rfl k) ?_
  show own_Fin _ _ _ _ _ _ _ T7_ (mkF m 17 #[.val (.ref a1), .val (.ref x), .val (.ref t), .val (.int (0 : Int32))] [(.int (0 : Int32)), (.ref a1)])
  refine own_via (fun _ k => XS.iconst X7_.here hx rfl (hb hby own_d_jdk_38_24_17) k) ?_
  show own_Fin _ _ _ _ _ _ _ T7_ (mkF m 18 #[.val (.ref a1), .val (.ref x), .val (.ref t), .val (.int (0 : Int32))] [(.int (1 : Int32)), (.int (0 : Int32)), (.ref a1)])
  refine own_via (fun _ k => XS.iadd X7_.here hx rfl (hb hby own_d_jdk_38_24_18) rfl k) ?_
  show own_Fin _ _ _ _ _ _ _ T7_ (mkF m 19 #[.val (.ref a1), .val (.ref x), .val (.ref t), .val (.int (0 : Int32))] [(.int ((0 : Int32) + (1 : Int32))), (.ref a1)])
  have q10_ : a1 ≠ t := Nat.ne_of_lt (Nat.lt_of_lt_of_le E1.lt r5_)
  obtain ⟨T9_, h9_, X9_, e9_, W9_, st9_⟩ := putF X7_ hx hZ hown (host := "") (Or.inl (hw _ (List.mem_of_getElem? (i := 138) rfl))) Via.refl e7_ (r4_.other W7_ (Or.inl q10_)) (r3_.wr W7_) (Or.inl (hw _ (List.mem_of_getElem? (i := 139) rfl))) (hw _ (List.mem_of_getElem? (i := 108) rfl)) (ty := .int) (by decide) rfl rfl (g := (mkF m 19 #[.val (.ref a1), .val (.ref x), .val (.ref t), .val (.int (0 : Int32))] [(.int ((0 : Int32) + (1 : Int32))), (.ref a1)])) rfl rfl (hb hby own_d_jdk_38_24_19)
  have Fw9_ := (r4_.other W7_ (Or.inl q10_)).same W9_
  have N9_ := Fr.snoc X9_ N7_ g1
  refine own_via (fun _ k => st9_ _ k) ?_
  show own_Fin _ _ _ _ _ _ _ T9_ (mkF m 22 #[.val (.ref a1), .val (.ref x), .val (.ref t), .val (.int (0 : Int32))] [])
  exact own_ret0 X9_ hx Bd.returns Bd.notSynchronized (hb hby own_d_jdk_38_24_22) e9_ ⟨rfl, N9_, ((((Keep.refl h0 [a1]).trans K2_ (allS (Or.inl (List.mem_of_getElem? (i := 0) rfl)) all0)).wr W7_ (Or.inr r5_)).wr W9_ (Or.inl (List.mem_of_getElem? (i := 0) rfl))), ((r3_.wr W7_).wr W9_)⟩ (by decide) (by decide)
theorem own_d_jdk_38_25_0 : decode jdk_38_method_25_code 0 = .ok (.aload_n 0, 1) := by decide +kernel
theorem own_d_jdk_38_25_1 : decode jdk_38_method_25_code 1 = .ok (.dup, 1) := by decide +kernel
theorem own_d_jdk_38_25_2 : decode jdk_38_method_25_code 2 = .ok (.getfield 63, 3) := by decide +kernel
theorem own_d_jdk_38_25_5 : decode jdk_38_method_25_code 5 = .ok (.iconst 1, 1) := by decide +kernel
theorem own_d_jdk_38_25_6 : decode jdk_38_method_25_code 6 = .ok (.iadd, 1) := by decide +kernel
theorem own_d_jdk_38_25_7 : decode jdk_38_method_25_code 7 = .ok (.putfield 63, 3) := by decide +kernel
theorem own_d_jdk_38_25_10 : decode jdk_38_method_25_code 10 = .ok (.aload_n 0, 1) := by decide +kernel
theorem own_d_jdk_38_25_11 : decode jdk_38_method_25_code 11 = .ok (.aload_n 1, 1) := by decide +kernel
theorem own_d_jdk_38_25_12 : decode jdk_38_method_25_code 12 = .ok (.aload_n 0, 1) := by decide +kernel
theorem own_d_jdk_38_25_13 : decode jdk_38_method_25_code 13 = .ok (.getfield 9, 3) := by decide +kernel
theorem own_d_jdk_38_25_16 : decode jdk_38_method_25_code 16 = .ok (.aload_n 0, 1) := by decide +kernel
theorem own_d_jdk_38_25_17 : decode jdk_38_method_25_code 17 = .ok (.getfield 48, 3) := by decide +kernel
theorem own_d_jdk_38_25_20 : decode jdk_38_method_25_code 20 = .ok (.invokevirtual 131, 3) := by decide +kernel
theorem own_pd6 : parseMethodDescriptor "(Ljava/lang/Object;[Ljava/lang/Object;I)V" = some ⟨[(.object "java/lang/Object"), (.array (.object "java/lang/Object")), .int], none⟩ := by decide +kernel
theorem own_d_jdk_38_25_23 : decode jdk_38_method_25_code 23 = .ok (.iconst 1, 1) := by decide +kernel
theorem own_d_jdk_38_25_24 : decode jdk_38_method_25_code 24 = .ok (.ireturn, 1) := by decide +kernel
theorem own_ef_add1 (m : MethodId) (a1 : Addr) (x : Addr) : entryFrame m #[(.ref a1), (.ref x)] 2 = mkF m 0 #[.val (.ref a1), .val (.ref x)] [] := by (first | (simp [entryFrame, mkF, argsToLocals, Value.category]; done) | rfl)
def own_Q_add1 (Z : State) (a1 : Addr) (x : Addr) (de : Addr) (kd : ClassId) (h0 : Heap) (n0 : Nat) (vq : Option Value) (h : Heap) (Lq : List Loc) : Prop := (vq = some (.int (1 : Int32))) ∧ (Fr n0 Lq) ∧ (Keep h0 h [a1]) ∧ (Exa Z h a1 "java/util/ArrayList")
set_option maxRecDepth 65536 in
set_option maxHeartbeats 40000000 in
theorem own_rm_add1 (l : Launch) (Z : State) (a0 : Array Value) (hw : ∀ d ∈ tables_1, d.before a0 Z = true) (ws : List Jvm.Cond) (a1 : Addr) (x : Addr) (de : Addr) (kd : ClassId) (h0 : Heap) (n0 : Nat) (Z0 : n0 ≤ h0.size) (O0 : Old Z n0 h0) (Sd : Sta Z Z.heap "java/util/ArrayList" "DEFAULTCAPACITY_EMPTY_ELEMENTDATA" "[Ljava/lang/Object;" (.ref de)) (E1 : Exa Z h0 a1 "java/util/ArrayList") (F1 : Fld Z h0 a1 "java/util/AbstractList" "modCount" "I" (.int (0 : Int32))) (F2 : Fld Z h0 a1 "java/util/ArrayList" "elementData" "[Ljava/lang/Object;" (.ref de)) (F3 : Fld Z h0 a1 "java/util/ArrayList" "size" "I" (.int (0 : Int32))) (Vd : Arv Z h0 de kd (.object "java/lang/Object") (0 : Int32) ([]) .null) (Ex : Exa Z h0 x "java/lang/Integer") (g1 : n0 ≤ a1) :
    MetFree l (⟨"java/util/ArrayList", "add", "(Ljava/lang/Object;)Z"⟩ : MethodName) (head1 (Jvm.Cond.code (⟨"java/util/ArrayList", "add", "(Ljava/lang/Object;)Z"⟩ : MethodName) jdk_38_method_25_code 2 (some .boolean) :: ws) ({ frames := 4, cells := 1, slots := 10, locals := 56 } : Room)) (fun aq Uq => aq = #[(.ref a1), (.ref x)] ∧ Z.Warmed39 Uq.vm ∧ Uq.heap = h0) (fun _ _ _ _ _ => True) (fun _ Uq oq Uq' => ∃ vq Lq, oq = .returned vq ∧ own_Q_add1 Z a1 x de kd h0 n0 vq Uq'.heap Lq ∧ FrameEnd Uq oq Uq' Lq ({ frames := 4, cells := 1, slots := 10, locals := 56 } : Room).cells ({ frames := 4, cells := 1, slots := 10, locals := 56 } : Room).slots) := by
  refine MetFree.of_bodySF (plainFor_of_name own_pn5) hisR ?_
  intro p e s m args below meth cde s₁ Bd hml0 hP hK
  obtain ⟨rfl, hZ, hh⟩ := hP
  have hx := Bd.exec
  have hby := Bd.bytes
  have hml : cde.maxLocals = 2 := hml0
  have hown : s.vm.findClass "java/util/ArrayList" = some m.cls := findClass_of_methodNamed Bd.named
  have hnm := (name_of_methodNamed Bd.named Bd.method).1
  have X0 : Stand p l e ({ frames := 4, cells := 1, slots := 10, locals := 56 } : Room) s m #[(.ref a1), (.ref x)] below meth cde s₁ [] 0 0 := Stand.of_body Bd
  have e0 : s₁.heap = h0 := by rw [← hh, Bd.state]; rfl
  have N0 := Fr.nil n0
  show own_Fin p e s below (own_Q_add1 Z a1 x de kd h0 n0) ({ frames := 4, cells := 1, slots := 10, locals := 56 } : Room).cells ({ frames := 4, cells := 1, slots := 10, locals := 56 } : Room).slots s₁ (entryFrame m #[(.ref a1), (.ref x)] 2)
  rw [own_ef_add1 m a1 x]
  refine own_via (fun _ k => XS.aloadN X0.here hx rfl (hb hby own_d_jdk_38_25_0) rfl rfl k) ?_
  show own_Fin _ _ _ _ _ _ _ s₁ (mkF m 1 #[.val (.ref a1), .val (.ref x)] [(.ref a1)])
  refine own_via (fun _ k => XS.dup X0.here hx rfl (hb hby own_d_jdk_38_25_1) rfl rfl k) ?_
  show own_Fin _ _ _ _ _ _ _ s₁ (mkF m 2 #[.val (.ref a1), .val (.ref x)] [(.ref a1), (.ref a1)])
  obtain ⟨T1_, X1_, e1_, st1_⟩ := getF X0 hx hZ hown (host := "") (Or.inl (hw _ (List.mem_of_getElem? (i := 136) rfl))) (Via.of (hw _ (List.mem_of_getElem? (i := 137) rfl))) e0 F1 (g := (mkF m 2 #[.val (.ref a1), .val (.ref x)] [(.ref a1), (.ref a1)])) rfl rfl (hb hby own_d_jdk_38_25_2)
  refine own_via (fun _ k => st1_ _ k) ?_
  show own_Fin _ _ _ _ _ _ _ T1_ (mkF m 5 #[.val (.ref a1), .val (.ref x)] [(.int (0 : Int32)), (.ref a1)])
  refine own_via (fun _ k => XS.iconst X1_.here hx rfl (hb hby own_d_jdk_38_25_5) k) ?_
  show own_Fin _ _ _ _ _ _ _ T1_ (mkF m 6 #[.val (.ref a1), .val (.ref x)] [(.int (1 : Int32)), (.int (0 : Int32)), (.ref a1)])
  refine own_via (fun _ k => XS.iadd X1_.here hx rfl (hb hby own_d_jdk_38_25_6) rfl k) ?_
  show own_Fin _ _ _ _ _ _ _ T1_ (mkF m 7 #[.val (.ref a1), .val (.ref x)] [(.int ((0 : Int32) + (1 : Int32))), (.ref a1)])
  obtain ⟨T2_, h2_, X2_, e2_, W2_, st2_⟩ := putF X1_ hx hZ hown (host := "") (Or.inl (hw _ (List.mem_of_getElem? (i := 136) rfl))) (Via.of (hw _ (List.mem_of_getElem? (i := 137) rfl))) e1_ F1 E1 (Or.inl (hw _ (List.mem_of_getElem? (i := 127) rfl))) (hw _ (List.mem_of_getElem? (i := 108) rfl)) (ty := .int) (by decide) rfl rfl (g := (mkF m 7 #[.val (.ref a1), .val (.ref x)] [(.int ((0 : Int32) + (1 : Int32))), (.ref a1)])) rfl rfl (hb hby own_d_jdk_38_25_7)
  have Fw2_ := F1.same W2_
  have N2_ := Fr.snoc X2_ N0 g1
  refine own_via (fun _ k => st2_ _ k) ?_
  show own_Fin _ _ _ _ _ _ _ T2_ (mkF m 10 #[.val (.ref a1), .val (.ref x)] [])
  refine own_via (fun _ k => XS.aloadN X2_.here hx rfl (hb hby own_d_jdk_38_25_10) rfl rfl k) ?_
  show own_Fin _ _ _ _ _ _ _ T2_ (mkF m 11 #[.val (.ref a1), .val (.ref x)] [(.ref a1)])
  refine own_via (fun _ k => XS.aloadN X2_.here hx rfl (hb hby own_d_jdk_38_25_11) rfl rfl k) ?_
  show own_Fin _ _ _ _ _ _ _ T2_ (mkF m 12 #[.val (.ref a1), .val (.ref x)] [(.ref x), (.ref a1)])
  refine own_via (fun _ k => XS.aloadN X2_.here hx rfl (hb hby own_d_jdk_38_25_12) rfl rfl k) ?_
  show own_Fin _ _ _ _ _ _ _ T2_ (mkF m 13 #[.val (.ref a1), .val (.ref x)] [(.ref a1), (.ref x), (.ref a1)])
  have f3_ := (F2.other W2_ (Or.inr (slot_ne (Or.inl (hw _ (List.mem_of_getElem? (i := 130) rfl))) (Or.inl (hw _ (List.mem_of_getElem? (i := 127) rfl))) (by decide) (t := (.array (.object "java/lang/Object"))) (t' := .int) (by decide) (by decide))))
  obtain ⟨T4_, X4_, e4_, st4_⟩ := getF X2_ hx hZ hown (host := "") (Or.inl (hw _ (List.mem_of_getElem? (i := 129) rfl))) Via.refl e2_ f3_ (g := (mkF m 13 #[.val (.ref a1), .val (.ref x)] [(.ref a1), (.ref x), (.ref a1)])) rfl rfl (hb hby own_d_jdk_38_25_13)
  refine own_via (fun _ k => st4_ _ k) ?_
  show own_Fin _ _ _ _ _ _ _ T4_ (mkF m 16 #[.val (.ref a1), .val (.ref x)] [(.ref de), (.ref x), (.ref a1)])
  refine own_via (fun _ k => XS.aloadN X4_.here hx rfl (hb hby own_d_jdk_38_25_16) rfl rfl k) ?_
  show own_Fin _ _ _ _ _ _ _ T4_ (mkF m 17 #[.val (.ref a1), .val (.ref x)] [(.ref a1), (.ref de), (.ref x), (.ref a1)])
  have f5_ := (F3.other W2_ (Or.inr (slot_ne (Or.inl (hw _ (List.mem_of_getElem? (i := 139) rfl))) (Or.inl (hw _ (List.mem_of_getElem? (i := 127) rfl))) (by decide) (t := .int) (t' := .int) (by decide) (by decide))))
  obtain ⟨T6_, X6_, e6_, st6_⟩ := getF X4_ hx hZ hown (host := "") (Or.inl (hw _ (List.mem_of_getElem? (i := 138) rfl))) Via.refl e4_ f5_ (g := (mkF m 17 #[.val (.ref a1), .val (.ref x)] [(.ref a1), (.ref de), (.ref x), (.ref a1)])) rfl rfl (hb hby own_d_jdk_38_25_17)
  refine own_via (fun _ k => st6_ _ k) ?_
  show own_Fin _ _ _ _ _ _ _ T6_ (mkF m 20 #[.val (.ref a1), .val (.ref x)] [(.int (0 : Int32)), (.ref de), (.ref x), (.ref a1)])
  have f8_ := (Vd.other W2_ (Ne.symm (Exa.neArv E1 Vd (hw _ (List.mem_of_getElem? (i := 108) rfl)))))
  obtain ⟨cq7_, q7_, q7_'⟩ := (E1.wr W2_).cell
  obtain ⟨_, _, ⟨T7_, L7_, k7_, n7_⟩, -, X7_, ⟨Lc7_, hQ7_, l7_, y7_, z7_⟩, st7_⟩ := X6_.privateBack hx (y := (⟨"java/util/ArrayList", "add", "(Ljava/lang/Object;[Ljava/lang/Object;I)V"⟩ : MethodName)) hown (mvT hZ (hw _ (List.mem_of_getElem? (i := 140) rfl))) (mvT hZ (hw _ (List.mem_of_getElem? (i := 141) rfl))) (mvT hZ (hw _ (List.mem_of_getElem? (i := 143) rfl))) (Cond.privateMethod_at (mvP hZ (hw _ (List.mem_of_getElem? (i := 142) rfl)) (args := #[]))) (mvT hZ (hw _ (List.mem_of_getElem? (i := 144) rfl))) (by decide) (backOf (W := 0) (own_rm_add3 l Z a0 hw [] a1 x de kd (.int ((0 : Int32) + (1 : Int32))) h2_ n0 (Nat.le_trans Z0 (Keep.of_wr W2_).1) (O0.wr W2_ g1) Sd (E1.wr W2_) Fw2_ f3_ f5_ f8_ (Ex.wr W2_) g1) hZ (hw _ (List.mem_of_getElem? (i := 144) rfl)) (hw _ (List.mem_of_getElem? (i := 109) rfl)) (by decide) (by decide)) (g := (mkF m 20 #[.val (.ref a1), .val (.ref x)] [(.int (0 : Int32)), (.ref de), (.ref x), (.ref a1)])) rfl (by rw [hml]; rfl) (Steps.refl _) (a := a1) (by rw [e6_]; exact q7_) q7_' (argsL := [(.ref x), (.ref de), (.int (0 : Int32))]) (rest := []) (lenOf own_pd6 rfl) rfl (by show 2 * 0 + _ ≤ _; exact Nat.le_of_eq rfl) (hb hby own_d_jdk_38_25_20) (fun _ _ => ⟨rfl, e6_, (by decide : 0 + 1 ≤ _), (by decide : 0 + 10 ≤ _)⟩)
  dsimp only [Pt.U, Pt.locs, Pt.cells, Pt.slots] at X7_ l7_ y7_ z7_ st7_ hQ7_
  subst l7_ y7_ z7_
  obtain ⟨rfl, Nq7_, K7_, r9_⟩ := hQ7_
  have N7_ := Fr.app N2_ Nq7_
  refine own_via (fun _ k => st7_.trans k) ?_
  show own_Fin _ _ _ _ _ _ _ T7_ (mkF m 23 #[.val (.ref a1), .val (.ref x)] [])
  refine own_via (fun _ k => XS.iconst X7_.here hx rfl (hb hby own_d_jdk_38_25_23) k) ?_
  show own_Fin _ _ _ _ _ _ _ T7_ (mkF m 24 #[.val (.ref a1), .val (.ref x)] [(.int (1 : Int32))])
  exact own_retN X7_ hx (t := .boolean) Bd.returns Bd.notSynchronized (by simp) (hb hby own_d_jdk_38_25_24) rfl rfl ⟨rfl, N7_, (((Keep.refl h0 [a1]).wr W2_ (Or.inl (List.mem_of_getElem? (i := 0) rfl))).trans K7_ (allS (Or.inl (List.mem_of_getElem? (i := 0) rfl)) all0)), r9_⟩ (by decide) (by decide)
theorem own_d_jdk_31_11_0 : decode jdk_31_method_11_code 0 = .ok (.aload_n 0, 1) := by decide +kernel
theorem own_d_jdk_31_11_1 : decode jdk_31_method_11_code 1 = .ok (.ifnonnull 12, 3) := by decide +kernel
theorem own_d_jdk_31_11_13 : decode jdk_31_method_11_code 13 = .ok (.aload_n 0, 1) := by decide +kernel
theorem own_d_jdk_31_11_14 : decode jdk_31_method_11_code 14 = .ok (.areturn, 1) := by decide +kernel
theorem own_pn6 : plainName "java/util/Objects" = true := by first | (simp [plainName, overriddenIn]; done) | decide +kernel
theorem own_ef_reqNN (m : MethodId) (a1 : Addr) (a2 : Addr) : entryFrame m #[(.ref a1), (.ref a2)] 2 = mkF m 0 #[.val (.ref a1), .val (.ref a2)] [] := by (first | (simp [entryFrame, mkF, argsToLocals, Value.category]; done) | rfl)
def own_Q_reqNN (Z : State) (a1 : Addr) (a2 : Addr) (h0 : Heap) (n0 : Nat) (vq : Option Value) (h : Heap) (Lq : List Loc) : Prop := (vq = some (.ref a1)) ∧ (Fr n0 Lq) ∧ (h = h0)
set_option maxRecDepth 65536 in
set_option maxHeartbeats 40000000 in
theorem own_rm_reqNN (l : Launch) (Z : State) (a0 : Array Value) (hw : ∀ d ∈ tables_1, d.before a0 Z = true) (ws : List Jvm.Cond) (a1 : Addr) (a2 : Addr) (h0 : Heap) (n0 : Nat) (Z0 : n0 ≤ h0.size) :
    MetFree l (⟨"java/util/Objects", "requireNonNull", "(Ljava/lang/Object;Ljava/lang/String;)Ljava/lang/Object;"⟩ : MethodName) (head1 (Jvm.Cond.code (⟨"java/util/Objects", "requireNonNull", "(Ljava/lang/Object;Ljava/lang/String;)Ljava/lang/Object;"⟩ : MethodName) jdk_31_method_11_code 2 (some (.object "java/lang/Object")) :: ws) ({ frames := 0, cells := 0, slots := 0, locals := 0 } : Room)) (fun aq Uq => aq = #[(.ref a1), (.ref a2)] ∧ Z.Warmed39 Uq.vm ∧ Uq.heap = h0) (fun _ _ _ _ _ => True) (fun _ Uq oq Uq' => ∃ vq Lq, oq = .returned vq ∧ own_Q_reqNN Z a1 a2 h0 n0 vq Uq'.heap Lq ∧ FrameEnd Uq oq Uq' Lq ({ frames := 0, cells := 0, slots := 0, locals := 0 } : Room).cells ({ frames := 0, cells := 0, slots := 0, locals := 0 } : Room).slots) := by
  refine MetFree.of_bodySF (plainFor_of_name own_pn6) hisR ?_
  intro p e s m args below meth cde s₁ Bd hml0 hP hK
  obtain ⟨rfl, hZ, hh⟩ := hP
  have hx := Bd.exec
  have hby := Bd.bytes
  have hml : cde.maxLocals = 2 := hml0
  have hown : s.vm.findClass "java/util/Objects" = some m.cls := findClass_of_methodNamed Bd.named
  have hnm := (name_of_methodNamed Bd.named Bd.method).1
  have X0 : Stand p l e ({ frames := 0, cells := 0, slots := 0, locals := 0 } : Room) s m #[(.ref a1), (.ref a2)] below meth cde s₁ [] 0 0 := Stand.of_body Bd
  have e0 : s₁.heap = h0 := by rw [← hh, Bd.state]; rfl
  have N0 := Fr.nil n0
  show own_Fin p e s below (own_Q_reqNN Z a1 a2 h0 n0) ({ frames := 0, cells := 0, slots := 0, locals := 0 } : Room).cells ({ frames := 0, cells := 0, slots := 0, locals := 0 } : Room).slots s₁ (entryFrame m #[(.ref a1), (.ref a2)] 2)
  rw [own_ef_reqNN m a1 a2]
  refine own_via (fun _ k => XS.aloadN X0.here hx rfl (hb hby own_d_jdk_31_11_0) rfl rfl k) ?_
  show own_Fin _ _ _ _ _ _ _ s₁ (mkF m 1 #[.val (.ref a1), .val (.ref a2)] [(.ref a1)])
  refine own_via (fun _ k => XS.ifnonnullYes X0.here hx rfl (pc0 := 1) (pc' := 13) rfl (hb hby own_d_jdk_31_11_1) rfl (by decide) (by decide) k) ?_
  show own_Fin _ _ _ _ _ _ _ s₁ (mkF m 13 #[.val (.ref a1), .val (.ref a2)] [])
  refine own_via (fun _ k => XS.aloadN X0.here hx rfl (hb hby own_d_jdk_31_11_13) rfl rfl k) ?_
  show own_Fin _ _ _ _ _ _ _ s₁ (mkF m 14 #[.val (.ref a1), .val (.ref a2)] [(.ref a1)])
  exact own_retA X0 hx Bd.returns Bd.notSynchronized rfl rfl (hb hby own_d_jdk_31_11_14) e0 ⟨rfl, N0, rfl⟩ (by decide) (by decide)
theorem own_d_prog_10_1_0 : decode prog_10_method_1_code 0 = .ok (.aload_n 0, 1) := by decide +kernel
theorem own_d_prog_10_1_1 : decode prog_10_method_1_code 1 = .ok (.invokespecial 1, 3) := by decide +kernel
theorem own_d_prog_10_1_4 : decode prog_10_method_1_code 4 = .ok (.aload_n 0, 1) := by decide +kernel
theorem own_d_prog_10_1_5 : decode prog_10_method_1_code 5 = .ok (.aload_n 1, 1) := by decide +kernel
theorem own_d_prog_10_1_6 : decode prog_10_method_1_code 6 = .ok (.putfield 7, 3) := by decide +kernel
theorem own_d_prog_10_1_9 : decode prog_10_method_1_code 9 = .ok (.aload_n 0, 1) := by decide +kernel
theorem own_d_prog_10_1_10 : decode prog_10_method_1_code 10 = .ok (.aload_n 2, 1) := by decide +kernel
theorem own_d_prog_10_1_11 : decode prog_10_method_1_code 11 = .ok (.putfield 13, 3) := by decide +kernel
theorem own_d_prog_10_1_14 : decode prog_10_method_1_code 14 = .ok (.return_, 1) := by decide +kernel
theorem own_pn7 : plainName "com/example/lease/lease/error/NoRouteException$PassedOver" = true := by first | (simp [plainName, overriddenIn]; done) | decide +kernel
theorem own_ef_poInit (m : MethodId) (a1 : Addr) (a2 : Addr) : entryFrame m #[(.ref a1), (.ref a2), .null] 3 = mkF m 0 #[.val (.ref a1), .val (.ref a2), .val .null] [] := by (first | (simp [entryFrame, mkF, argsToLocals, Value.category]; done) | rfl)
def own_Q_poInit (Z : State) (a1 : Addr) (a2 : Addr) (u1 : Value) (u2 : Value) (h0 : Heap) (n0 : Nat) (vq : Option Value) (h : Heap) (Lq : List Loc) : Prop := (vq = none) ∧ (Fr n0 Lq) ∧ (Keep h0 h [a1]) ∧ (Exa Z h a1 "com/example/lease/lease/error/NoRouteException$PassedOver") ∧ (Fld Z h a1 "com/example/lease/lease/error/NoRouteException$PassedOver" "route" "Ljava/lang/Object;" (.ref a2)) ∧ (Fld Z h a1 "com/example/lease/lease/error/NoRouteException$PassedOver" "connectFailure" "Lcom/example/lease/lease/error/ConnectFailedException;" .null)
set_option maxRecDepth 65536 in
set_option maxHeartbeats 40000000 in
theorem own_rm_poInit (l : Launch) (Z : State) (a0 : Array Value) (hw : ∀ d ∈ tables_1, d.before a0 Z = true) (ws : List Jvm.Cond) (a1 : Addr) (a2 : Addr) (u1 : Value) (u2 : Value) (h0 : Heap) (n0 : Nat) (Z0 : n0 ≤ h0.size) (E1 : Exa Z h0 a1 "com/example/lease/lease/error/NoRouteException$PassedOver") (F1 : Fld Z h0 a1 "com/example/lease/lease/error/NoRouteException$PassedOver" "route" "Ljava/lang/Object;" u1) (F2 : Fld Z h0 a1 "com/example/lease/lease/error/NoRouteException$PassedOver" "connectFailure" "Lcom/example/lease/lease/error/ConnectFailedException;" u2) (g1 : n0 ≤ a1) :
    MetFree l (⟨"com/example/lease/lease/error/NoRouteException$PassedOver", "<init>", "(Ljava/lang/Object;Lcom/example/lease/lease/error/ConnectFailedException;)V"⟩ : MethodName) (head1 (Jvm.Cond.code (⟨"com/example/lease/lease/error/NoRouteException$PassedOver", "<init>", "(Ljava/lang/Object;Lcom/example/lease/lease/error/ConnectFailedException;)V"⟩ : MethodName) prog_10_method_1_code 3 none :: ws) ({ frames := 1, cells := 0, slots := 0, locals := 12 } : Room)) (fun aq Uq => aq = #[(.ref a1), (.ref a2), .null] ∧ Z.Warmed39 Uq.vm ∧ Uq.heap = h0) (fun _ _ _ _ _ => True) (fun _ Uq oq Uq' => ∃ vq Lq, oq = .returned vq ∧ own_Q_poInit Z a1 a2 u1 u2 h0 n0 vq Uq'.heap Lq ∧ FrameEnd Uq oq Uq' Lq ({ frames := 1, cells := 0, slots := 0, locals := 12 } : Room).cells ({ frames := 1, cells := 0, slots := 0, locals := 12 } : Room).slots) := by
  refine MetFree.of_bodySF (plainFor_of_name own_pn7) hisR ?_
  intro p e s m args below meth cde s₁ Bd hml0 hP hK
  obtain ⟨rfl, hZ, hh⟩ := hP
  have hx := Bd.exec
  have hby := Bd.bytes
  have hml : cde.maxLocals = 3 := hml0
  have hown : s.vm.findClass "com/example/lease/lease/error/NoRouteException$PassedOver" = some m.cls := findClass_of_methodNamed Bd.named
  have hnm := (name_of_methodNamed Bd.named Bd.method).1
  have X0 : Stand p l e ({ frames := 1, cells := 0, slots := 0, locals := 12 } : Room) s m #[(.ref a1), (.ref a2), .null] below meth cde s₁ [] 0 0 := Stand.of_body Bd
  have e0 : s₁.heap = h0 := by rw [← hh, Bd.state]; rfl
  have N0 := Fr.nil n0
  show own_Fin p e s below (own_Q_poInit Z a1 a2 u1 u2 h0 n0) ({ frames := 1, cells := 0, slots := 0, locals := 12 } : Room).cells ({ frames := 1, cells := 0, slots := 0, locals := 12 } : Room).slots s₁ (entryFrame m #[(.ref a1), (.ref a2), .null] 3)
  rw [own_ef_poInit m a1 a2]
  refine own_via (fun _ k => XS.aloadN X0.here hx rfl (hb hby own_d_prog_10_1_0) rfl rfl k) ?_
  show own_Fin _ _ _ _ _ _ _ s₁ (mkF m 1 #[.val (.ref a1), .val (.ref a2), .val .null] [(.ref a1)])
  obtain ⟨T1_, X1_, e1_, st1_⟩ := initO X0 hx hZ hown (hw _ (List.mem_of_getElem? (i := 29) rfl)) (hw _ (List.mem_of_getElem? (i := 30) rfl)) (hw _ (List.mem_of_getElem? (i := 31) rfl)) e0 (g := (mkF m 1 #[.val (.ref a1), .val (.ref a2), .val .null] [(.ref a1)])) rfl (by rw [hml]; rfl) rfl (hb hby own_d_prog_10_1_1) (by decide) (W := 0) (by show 2 * 0 + _ ≤ _; exact Nat.le_of_eq rfl) (by decide)
  refine own_via (fun _ k => st1_ _ k) ?_
  show own_Fin _ _ _ _ _ _ _ T1_ (mkF m 4 #[.val (.ref a1), .val (.ref a2), .val .null] [])
  refine own_via (fun _ k => XS.aloadN X1_.here hx rfl (hb hby own_d_prog_10_1_4) rfl rfl k) ?_
  show own_Fin _ _ _ _ _ _ _ T1_ (mkF m 5 #[.val (.ref a1), .val (.ref a2), .val .null] [(.ref a1)])
  refine own_via (fun _ k => XS.aloadN X1_.here hx rfl (hb hby own_d_prog_10_1_5) rfl rfl k) ?_
  show own_Fin _ _ _ _ _ _ _ T1_ (mkF m 6 #[.val (.ref a1), .val (.ref a2), .val .null] [(.ref a2), (.ref a1)])
  obtain ⟨T2_, h2_, X2_, e2_, W2_, st2_⟩ := putF X1_ hx hZ hown (host := "") (Or.inl (hw _ (List.mem_of_getElem? (i := 32) rfl))) Via.refl e1_ F1 E1 (Or.inr ⟨(hw _ (List.mem_of_getElem? (i := 33) rfl)), rfl, hnm⟩) (hw _ (List.mem_of_getElem? (i := 13) rfl)) (ty := (.object "java/lang/Object")) (by decide) rfl rfl (g := (mkF m 6 #[.val (.ref a1), .val (.ref a2), .val .null] [(.ref a2), (.ref a1)])) rfl rfl (hb hby own_d_prog_10_1_6)
  have Fw2_ := F1.same W2_
  have N2_ := Fr.snoc X2_ N0 g1
  refine own_via (fun _ k => st2_ _ k) ?_
  show own_Fin _ _ _ _ _ _ _ T2_ (mkF m 9 #[.val (.ref a1), .val (.ref a2), .val .null] [])
  refine own_via (fun _ k => XS.aloadN X2_.here hx rfl (hb hby own_d_prog_10_1_9) rfl rfl k) ?_
  show own_Fin _ _ _ _ _ _ _ T2_ (mkF m 10 #[.val (.ref a1), .val (.ref a2), .val .null] [(.ref a1)])
  refine own_via (fun _ k => XS.aloadN X2_.here hx rfl (hb hby own_d_prog_10_1_10) rfl rfl k) ?_
  show own_Fin _ _ _ _ _ _ _ T2_ (mkF m 11 #[.val (.ref a1), .val (.ref a2), .val .null] [.null, (.ref a1)])
  have f4_ := (F2.other W2_ (Or.inr (slot_ne (Or.inr (hw _ (List.mem_of_getElem? (i := 35) rfl))) (Or.inr (hw _ (List.mem_of_getElem? (i := 33) rfl))) (by decide) (t := (.object "com/example/lease/lease/error/ConnectFailedException")) (t' := (.object "java/lang/Object")) (by decide) (by decide))))
  obtain ⟨T3_, h3_, X3_, e3_, W3_, st3_⟩ := putF X2_ hx hZ hown (host := "") (Or.inl (hw _ (List.mem_of_getElem? (i := 34) rfl))) Via.refl e2_ f4_ (E1.wr W2_) (Or.inr ⟨(hw _ (List.mem_of_getElem? (i := 35) rfl)), rfl, hnm⟩) (hw _ (List.mem_of_getElem? (i := 13) rfl)) (ty := (.object "com/example/lease/lease/error/ConnectFailedException")) (by decide) rfl rfl (g := (mkF m 11 #[.val (.ref a1), .val (.ref a2), .val .null] [.null, (.ref a1)])) rfl rfl (hb hby own_d_prog_10_1_11)
  have Fw3_ := f4_.same W3_
  have N3_ := Fr.snoc X3_ N2_ g1
  refine own_via (fun _ k => st3_ _ k) ?_
  show own_Fin _ _ _ _ _ _ _ T3_ (mkF m 14 #[.val (.ref a1), .val (.ref a2), .val .null] [])
  have f5_ := (Fw2_.other W3_ (Or.inr (slot_ne (Or.inr (hw _ (List.mem_of_getElem? (i := 33) rfl))) (Or.inr (hw _ (List.mem_of_getElem? (i := 35) rfl))) (by decide) (t := (.object "java/lang/Object")) (t' := (.object "com/example/lease/lease/error/ConnectFailedException")) (by decide) (by decide))))
  exact own_ret0 X3_ hx Bd.returns Bd.notSynchronized (hb hby own_d_prog_10_1_14) e3_ ⟨rfl, N3_, (((Keep.refl h0 [a1]).wr W2_ (Or.inl (List.mem_of_getElem? (i := 0) rfl))).wr W3_ (Or.inl (List.mem_of_getElem? (i := 0) rfl))), ((E1.wr W2_).wr W3_), f5_, Fw3_⟩ (by decide) (by decide)
theorem own_d_prog_10_2_0 : decode prog_10_method_2_code 0 = .ok (.new 8, 3) := by decide +kernel
theorem own_d_prog_10_2_3 : decode prog_10_method_2_code 3 = .ok (.dup, 1) := by decide +kernel
theorem own_d_prog_10_2_4 : decode prog_10_method_2_code 4 = .ok (.aload_n 0, 1) := by decide +kernel
theorem own_d_prog_10_2_5 : decode prog_10_method_2_code 5 = .ok (.ldc 17, 2) := by decide +kernel
theorem own_d_prog_10_2_7 : decode prog_10_method_2_code 7 = .ok (.invokestatic 18, 3) := by decide +kernel
theorem own_pd7 : parseMethodDescriptor "(Ljava/lang/Object;Ljava/lang/String;)Ljava/lang/Object;" = some ⟨[(.object "java/lang/Object"), (.object "java/lang/String")], some (.object "java/lang/Object")⟩ := by decide +kernel
theorem own_d_prog_10_2_10 : decode prog_10_method_2_code 10 = .ok (.aconst_null, 1) := by decide +kernel
theorem own_d_prog_10_2_11 : decode prog_10_method_2_code 11 = .ok (.invokespecial 24, 3) := by decide +kernel
theorem own_pd8 : parseMethodDescriptor "(Ljava/lang/Object;Lcom/example/lease/lease/error/ConnectFailedException;)V" = some ⟨[(.object "java/lang/Object"), (.object "com/example/lease/lease/error/ConnectFailedException")], none⟩ := by decide +kernel
theorem own_d_prog_10_2_14 : decode prog_10_method_2_code 14 = .ok (.areturn, 1) := by decide +kernel
theorem own_ef_full (m : MethodId) (a1 : Addr) : entryFrame m #[(.ref a1)] 1 = mkF m 0 #[.val (.ref a1)] [] := by (first | (simp [entryFrame, mkF, argsToLocals, Value.category]; done) | rfl)
def own_Q_full (Z : State) (a1 : Addr) (h0 : Heap) (n0 : Nat) (vq : Option Value) (h : Heap) (Lq : List Loc) : Prop := ∃ (t : Addr), (vq = some (.ref t)) ∧ (Fr n0 Lq) ∧ (Keep h0 h []) ∧ (h0.size ≤ t) ∧ (Exa Z h t "com/example/lease/lease/error/NoRouteException$PassedOver") ∧ (Fld Z h t "com/example/lease/lease/error/NoRouteException$PassedOver" "route" "Ljava/lang/Object;" (.ref a1)) ∧ (Fld Z h t "com/example/lease/lease/error/NoRouteException$PassedOver" "connectFailure" "Lcom/example/lease/lease/error/ConnectFailedException;" .null)
set_option maxRecDepth 65536 in
set_option maxHeartbeats 40000000 in
theorem own_rm_full (l : Launch) (Z : State) (a0 : Array Value) (hw : ∀ d ∈ tables_1, d.before a0 Z = true) (ws : List Jvm.Cond) (a1 : Addr) (h0 : Heap) (n0 : Nat) (Z0 : n0 ≤ h0.size) :
    MetFree l (⟨"com/example/lease/lease/error/NoRouteException$PassedOver", "full", "(Ljava/lang/Object;)Lcom/example/lease/lease/error/NoRouteException$PassedOver;"⟩ : MethodName) (head1 (Jvm.Cond.code (⟨"com/example/lease/lease/error/NoRouteException$PassedOver", "full", "(Ljava/lang/Object;)Lcom/example/lease/lease/error/NoRouteException$PassedOver;"⟩ : MethodName) prog_10_method_2_code 1 (some (.object "com/example/lease/lease/error/NoRouteException$PassedOver")) :: ws) ({ frames := 2, cells := 3, slots := 26, locals := 27 } : Room)) (fun aq Uq => aq = #[(.ref a1)] ∧ Z.Warmed39 Uq.vm ∧ Uq.heap = h0 ∧ CHv Z own_EL Uq.vm h0) (fun _ _ _ _ _ => True) (fun _ Uq oq Uq' => ∃ vq Lq, oq = .returned vq ∧ own_Q_full Z a1 h0 n0 vq Uq'.heap Lq ∧ CHr Z own_EL Uq.vm Uq.heap Uq'.vm Uq'.heap ∧ ReturnedEndW Uq oq Uq' Lq ({ frames := 2, cells := 3, slots := 26, locals := 27 } : Room).cells ({ frames := 2, cells := 3, slots := 26, locals := 27 } : Room).slots) := by
  refine MetFree.of_bodySF (plainFor_of_name own_pn7) hisR ?_
  intro p e s m args below meth cde s₁ Bd hml0 hP hK
  obtain ⟨rfl, hZ, hh, H0⟩ := hP
  have hx := Bd.exec
  have hby := Bd.bytes
  have hml : cde.maxLocals = 1 := hml0
  have hown : s.vm.findClass "com/example/lease/lease/error/NoRouteException$PassedOver" = some m.cls := findClass_of_methodNamed Bd.named
  have hnm := (name_of_methodNamed Bd.named Bd.method).1
  have X0 : Stand p l e ({ frames := 2, cells := 3, slots := 26, locals := 27 } : Room) (s.setVm s.vm) m #[(.ref a1)] below meth cde s₁ [] 0 0 := Stand.of_body Bd
  have e0 : s₁.heap = h0 := by rw [← hh, Bd.state]; rfl
  have N0 := Fr.nil n0
  have hS0 : s.Since s.vm h0.size := (State.WarmedH.refl s).since _
  have hk0 : h0.size ≤ h0.size := Nat.le_refl _
  have C0 : CHr Z own_EL s.vm h0 s.vm h0 := CHr.refl H0
  show own_FinH p e s below Z own_EL (own_Q_full Z a1 h0 n0) ({ frames := 2, cells := 3, slots := 26, locals := 27 } : Room).cells ({ frames := 2, cells := 3, slots := 26, locals := 27 } : Room).slots s₁ (entryFrame m #[(.ref a1)] 1)
  rw [own_ef_full m a1]
  obtain ⟨T1_, h1_, X1_, e1_, E1_, A1_, D1_, -, st1_⟩ := newO X0 hx hZ hown (hw _ (List.mem_of_getElem? (i := 12) rfl)) (hw _ (List.mem_of_getElem? (i := 13) rfl)) (hw _ (List.mem_of_getElem? (i := 10) rfl)) e0 (g := (mkF m 0 #[.val (.ref a1)] [])) rfl (hb hby own_d_prog_10_2_0) (by decide) (by decide)
  obtain ⟨b1_, g1_⟩ : ∃ z, z = h0.size := ⟨_, rfl⟩
  rw [← g1_] at A1_ D1_ st1_
  have F2_ : Fld Z h1_ b1_ "com/example/lease/lease/error/NoRouteException$PassedOver" "route" "Ljava/lang/Object;" .null := D1_ (Or.inr (hw _ (List.mem_of_getElem? (i := 33) rfl))) (ty := (.object "java/lang/Object")) (by decide)
  have F3_ : Fld Z h1_ b1_ "com/example/lease/lease/error/NoRouteException$PassedOver" "connectFailure" "Lcom/example/lease/lease/error/ConnectFailedException;" .null := D1_ (Or.inr (hw _ (List.mem_of_getElem? (i := 35) rfl))) (ty := (.object "com/example/lease/lease/error/ConnectFailedException")) (by decide)
  refine own_viaH (fun _ k => st1_ _ k) ?_
  show own_FinH _ _ _ _ _ _ _ _ _ T1_ (mkF m 3 #[.val (.ref a1)] [(.ref b1_)])
  refine own_viaH (fun _ k => XS.dup X1_.here hx rfl (hb hby own_d_prog_10_2_3) rfl rfl k) ?_
  show own_FinH _ _ _ _ _ _ _ _ _ T1_ (mkF m 4 #[.val (.ref a1)] [(.ref b1_), (.ref b1_)])
  refine own_viaH (fun _ k => XS.aloadN X1_.here hx rfl (hb hby own_d_prog_10_2_4) rfl rfl k) ?_
  show own_FinH _ _ _ _ _ _ _ _ _ T1_ (mkF m 5 #[.val (.ref a1)] [(.ref a1), (.ref b1_), (.ref b1_)])
  have C5_ := C0.trans (CHr.ext E1_ H0)
  have H5_ := C5_.1
  obtain ⟨a4_, T4_, h4_, k4_, X4_, e4_, E4_, hS4_, hk4_, hZ4_, hown4_, Cq4_, -, st4_⟩ := ldcOH X1_ hx hZ hown (hw _ (List.mem_of_getElem? (i := 14) rfl)) (own_atoms hw) e1_ hS0 (Nat.le_trans hk0 E1_.1) (own_ew hw) H5_ (g := (mkF m 5 #[.val (.ref a1)] [(.ref a1), (.ref b1_), (.ref b1_)])) rfl (hb hby own_d_prog_10_2_5) (n := 20) (by decide) (by decide) (by decide) (by decide)
  refine own_viaH (fun _ k => st4_ _ k) ?_
  show own_FinH _ _ _ _ _ _ _ _ _ T4_ (mkF m 7 #[.val (.ref a1)] [(.ref a4_), (.ref a1), (.ref b1_), (.ref b1_)])
  obtain ⟨_, _, ⟨T6_, L6_, k6_, n6_⟩, -, X6_, ⟨Lc6_, hQ6_, l6_, y6_, z6_⟩, st6_⟩ := Jvm.LawKit.callS X4_ hx (y := (⟨"java/util/Objects", "requireNonNull", "(Ljava/lang/Object;Ljava/lang/String;)Ljava/lang/Object;"⟩ : MethodName)) hown4_ (mvT hZ4_ (hw _ (List.mem_of_getElem? (i := 22) rfl))) (mvT hZ4_ (hw _ (List.mem_of_getElem? (i := 23) rfl))) (mvT hZ4_ (hw _ (List.mem_of_getElem? (i := 24) rfl))) (mvT hZ4_ (hw _ (List.mem_of_getElem? (i := 25) rfl))) (by decide) (backOf (W := 2) (own_rm_reqNN l Z a0 hw [] a1 a4_ h4_ n0 (Nat.le_trans Z0 (Nat.le_trans E1_.1 E4_.1)) ) hZ4_ (hw _ (List.mem_of_getElem? (i := 25) rfl)) (hw _ (List.mem_of_getElem? (i := 24) rfl)) (by decide) (by decide)) (g := (mkF m 7 #[.val (.ref a1)] [(.ref a4_), (.ref a1), (.ref b1_), (.ref b1_)])) rfl (by rw [hml]; rfl) (argsL := [(.ref a1), (.ref a4_)]) (rest := [(.ref b1_), (.ref b1_)]) (lenOf own_pd7 rfl) rfl (by show 2 * 0 + _ ≤ _; exact Nat.le_of_eq rfl) (hb hby own_d_prog_10_2_7) (fun _ _ => ⟨rfl, e4_, (by decide : 0 + 1 + 2 + 0 ≤ _), (by decide : 0 + 2 + (20 + 4) + 0 ≤ _)⟩)
  dsimp only [Pt.U, Pt.locs, Pt.cells, Pt.slots] at X6_ l6_ y6_ z6_ st6_ hQ6_
  subst l6_ y6_ z6_
  obtain ⟨rfl, Nq6_, hh6_⟩ := hQ6_
  have N6_ := Fr.app N0 Nq6_
  refine own_viaH (fun _ k => st6_ _ k) ?_
  show own_FinH _ _ _ _ _ _ _ _ _ T6_ (mkF m 10 #[.val (.ref a1)] [(.ref a1), (.ref b1_), (.ref b1_)])
  refine own_viaH (fun _ k => XS.aconstNull X6_.here hx rfl (hb hby own_d_prog_10_2_10) k) ?_
  show own_FinH _ _ _ _ _ _ _ _ _ T6_ (mkF m 11 #[.val (.ref a1)] [.null, (.ref a1), (.ref b1_), (.ref b1_)])
  have g8_ : n0 ≤ b1_ := Nat.le_trans Z0 (Nat.le_of_eq g1_.symm)
  obtain ⟨_, _, ⟨T7_, L7_, k7_, n7_⟩, -, X7_, ⟨Lc7_, hQ7_, l7_, y7_, z7_⟩, st7_⟩ := X6_.specialBack hx (y := (⟨"com/example/lease/lease/error/NoRouteException$PassedOver", "<init>", "(Ljava/lang/Object;Lcom/example/lease/lease/error/ConnectFailedException;)V"⟩ : MethodName)) rfl hown4_ (mvT hZ4_ (hw _ (List.mem_of_getElem? (i := 26) rfl))) (mvT hZ4_ (hw _ (List.mem_of_getElem? (i := 27) rfl))) (mvT hZ4_ (hw _ (List.mem_of_getElem? (i := 28) rfl))) (by decide) (backOf (W := 1) (own_rm_poInit l Z a0 hw [] b1_ a1 .null .null h4_ n0 (Nat.le_trans Z0 (Nat.le_trans E1_.1 E4_.1)) (A1_.ext E4_) (F2_.ext E4_) (F3_.ext E4_) g8_) hZ4_ (hw _ (List.mem_of_getElem? (i := 28) rfl)) (hw _ (List.mem_of_getElem? (i := 10) rfl)) (by decide) (by decide)) (g := (mkF m 11 #[.val (.ref a1)] [.null, (.ref a1), (.ref b1_), (.ref b1_)])) rfl (by rw [hml]; rfl) (Steps.refl _) (a := b1_) (argsL := [(.ref a1), .null]) (rest := [(.ref b1_)]) (lenOf own_pd8 rfl) rfl (by show 2 * 0 + _ ≤ _; exact Nat.le_of_eq rfl) (hb hby own_d_prog_10_2_11) (fun _ _ => ⟨rfl, hh6_, (by decide : 0 + 1 + 2 + 0 + 0 ≤ _), (by decide : 0 + 2 + (20 + 4) + 0 + 0 ≤ _)⟩)
  dsimp only [Pt.U, Pt.locs, Pt.cells, Pt.slots] at X7_ l7_ y7_ z7_ st7_ hQ7_
  subst l7_ y7_ z7_
  obtain ⟨rfl, Nq7_, K7_, r9_, r10_, r11_⟩ := hQ7_
  have N7_ := Fr.app N6_ Nq7_
  refine own_viaH (fun _ k => st7_.trans k) ?_
  show own_FinH _ _ _ _ _ _ _ _ _ T7_ (mkF m 14 #[.val (.ref a1)] [(.ref b1_)])
  have C12_ := C5_.trans Cq4_
  have H12_ := C12_.1
  have sf14_ : Safe Z own_EL s.vm h0 b1_ := Safe.new (Nat.le_of_eq g1_.symm)
  have sf15_ : Safe Z own_EL s.vm h1_ b1_ := Safe.ext E1_ H0 sf14_
  have sf16_ : Safe Z own_EL T4_.vm h4_ b1_ := Cq4_.safe (A1_).lt sf15_
  have C13_ := C12_.trans (CHr.keep K7_ (sfS sf16_ sf0) H12_)
  have H13_ := C13_.1
  exact own_retAH X7_ hx Bd.returns Bd.notSynchronized (own_ew hw) hZ4_ hS4_ (Nat.le_trans hk4_ K7_.1) hh C13_ rfl rfl (hb hby own_d_prog_10_2_14) rfl ⟨b1_, rfl, N7_, ((((Keep.refl h0 []).ext E1_).ext E4_).trans K7_ (allS (Or.inr (Nat.le_of_eq g1_.symm)) all0)), (Nat.le_of_eq g1_.symm), r9_, r10_, r11_⟩ (by decide) (by decide)
theorem own_d_prog_10_4_0 : decode prog_10_method_4_code 0 = .ok (.aload_n 0, 1) := by decide +kernel
theorem own_d_prog_10_4_1 : decode prog_10_method_4_code 1 = .ok (.getfield 7, 3) := by decide +kernel
theorem own_d_prog_10_4_4 : decode prog_10_method_4_code 4 = .ok (.areturn, 1) := by decide +kernel
theorem own_ef_route (m : MethodId) (a1 : Addr) : entryFrame m #[(.ref a1)] 1 = mkF m 0 #[.val (.ref a1)] [] := by (first | (simp [entryFrame, mkF, argsToLocals, Value.category]; done) | rfl)
def own_Q_route (Z : State) (a1 : Addr) (a2 : Addr) (h0 : Heap) (n0 : Nat) (vq : Option Value) (h : Heap) (Lq : List Loc) : Prop := (vq = some (.ref a2)) ∧ (Fr n0 Lq) ∧ (h = h0)
set_option maxRecDepth 65536 in
set_option maxHeartbeats 40000000 in
theorem own_rm_route (l : Launch) (Z : State) (a0 : Array Value) (hw : ∀ d ∈ tables_1, d.before a0 Z = true) (ws : List Jvm.Cond) (a1 : Addr) (a2 : Addr) (h0 : Heap) (n0 : Nat) (Z0 : n0 ≤ h0.size) (F1 : Fld Z h0 a1 "com/example/lease/lease/error/NoRouteException$PassedOver" "route" "Ljava/lang/Object;" (.ref a2)) :
    MetFree l (⟨"com/example/lease/lease/error/NoRouteException$PassedOver", "route", "()Ljava/lang/Object;"⟩ : MethodName) (head1 (Jvm.Cond.code (⟨"com/example/lease/lease/error/NoRouteException$PassedOver", "route", "()Ljava/lang/Object;"⟩ : MethodName) prog_10_method_4_code 1 (some (.object "java/lang/Object")) :: ws) ({ frames := 0, cells := 0, slots := 0, locals := 0 } : Room)) (fun aq Uq => aq = #[(.ref a1)] ∧ Z.Warmed39 Uq.vm ∧ Uq.heap = h0) (fun _ _ _ _ _ => True) (fun _ Uq oq Uq' => ∃ vq Lq, oq = .returned vq ∧ own_Q_route Z a1 a2 h0 n0 vq Uq'.heap Lq ∧ FrameEnd Uq oq Uq' Lq ({ frames := 0, cells := 0, slots := 0, locals := 0 } : Room).cells ({ frames := 0, cells := 0, slots := 0, locals := 0 } : Room).slots) := by
  refine MetFree.of_bodySF (plainFor_of_name own_pn7) hisR ?_
  intro p e s m args below meth cde s₁ Bd hml0 hP hK
  obtain ⟨rfl, hZ, hh⟩ := hP
  have hx := Bd.exec
  have hby := Bd.bytes
  have hml : cde.maxLocals = 1 := hml0
  have hown : s.vm.findClass "com/example/lease/lease/error/NoRouteException$PassedOver" = some m.cls := findClass_of_methodNamed Bd.named
  have hnm := (name_of_methodNamed Bd.named Bd.method).1
  have X0 : Stand p l e ({ frames := 0, cells := 0, slots := 0, locals := 0 } : Room) s m #[(.ref a1)] below meth cde s₁ [] 0 0 := Stand.of_body Bd
  have e0 : s₁.heap = h0 := by rw [← hh, Bd.state]; rfl
  have N0 := Fr.nil n0
  show own_Fin p e s below (own_Q_route Z a1 a2 h0 n0) ({ frames := 0, cells := 0, slots := 0, locals := 0 } : Room).cells ({ frames := 0, cells := 0, slots := 0, locals := 0 } : Room).slots s₁ (entryFrame m #[(.ref a1)] 1)
  rw [own_ef_route m a1]
  refine own_via (fun _ k => XS.aloadN X0.here hx rfl (hb hby own_d_prog_10_4_0) rfl rfl k) ?_
  show own_Fin _ _ _ _ _ _ _ s₁ (mkF m 1 #[.val (.ref a1)] [(.ref a1)])
  obtain ⟨T1_, X1_, e1_, st1_⟩ := getF X0 hx hZ hown (host := "") (Or.inl (hw _ (List.mem_of_getElem? (i := 32) rfl))) Via.refl e0 F1 (g := (mkF m 1 #[.val (.ref a1)] [(.ref a1)])) rfl rfl (hb hby own_d_prog_10_4_1)
  refine own_via (fun _ k => st1_ _ k) ?_
  show own_Fin _ _ _ _ _ _ _ T1_ (mkF m 4 #[.val (.ref a1)] [(.ref a2)])
  exact own_retA X1_ hx Bd.returns Bd.notSynchronized rfl rfl (hb hby own_d_prog_10_4_4) e1_ ⟨rfl, N0, rfl⟩ (by decide) (by decide)
theorem own_d_prog_10_5_0 : decode prog_10_method_5_code 0 = .ok (.aload_n 0, 1) := by decide +kernel
theorem own_d_prog_10_5_1 : decode prog_10_method_5_code 1 = .ok (.getfield 13, 3) := by decide +kernel
theorem own_d_prog_10_5_4 : decode prog_10_method_5_code 4 = .ok (.ifnonnull 7, 3) := by decide +kernel
theorem own_d_prog_10_5_7 : decode prog_10_method_5_code 7 = .ok (.iconst 1, 1) := by decide +kernel
theorem own_d_prog_10_5_8 : decode prog_10_method_5_code 8 = .ok (.goto 4, 3) := by decide +kernel
theorem own_d_prog_10_5_12 : decode prog_10_method_5_code 12 = .ok (.ireturn, 1) := by decide +kernel
theorem own_ef_isFull (m : MethodId) (a1 : Addr) : entryFrame m #[(.ref a1)] 1 = mkF m 0 #[.val (.ref a1)] [] := by (first | (simp [entryFrame, mkF, argsToLocals, Value.category]; done) | rfl)
def own_Q_isFull (Z : State) (a1 : Addr) (h0 : Heap) (n0 : Nat) (vq : Option Value) (h : Heap) (Lq : List Loc) : Prop := (vq = some (.int (1 : Int32))) ∧ (Fr n0 Lq) ∧ (h = h0)
set_option maxRecDepth 65536 in
set_option maxHeartbeats 40000000 in
theorem own_rm_isFull (l : Launch) (Z : State) (a0 : Array Value) (hw : ∀ d ∈ tables_1, d.before a0 Z = true) (ws : List Jvm.Cond) (a1 : Addr) (h0 : Heap) (n0 : Nat) (Z0 : n0 ≤ h0.size) (F1 : Fld Z h0 a1 "com/example/lease/lease/error/NoRouteException$PassedOver" "connectFailure" "Lcom/example/lease/lease/error/ConnectFailedException;" .null) :
    MetFree l (⟨"com/example/lease/lease/error/NoRouteException$PassedOver", "isFull", "()Z"⟩ : MethodName) (head1 (Jvm.Cond.code (⟨"com/example/lease/lease/error/NoRouteException$PassedOver", "isFull", "()Z"⟩ : MethodName) prog_10_method_5_code 1 (some .boolean) :: ws) ({ frames := 0, cells := 0, slots := 0, locals := 0 } : Room)) (fun aq Uq => aq = #[(.ref a1)] ∧ Z.Warmed39 Uq.vm ∧ Uq.heap = h0) (fun _ _ _ _ _ => True) (fun _ Uq oq Uq' => ∃ vq Lq, oq = .returned vq ∧ own_Q_isFull Z a1 h0 n0 vq Uq'.heap Lq ∧ FrameEnd Uq oq Uq' Lq ({ frames := 0, cells := 0, slots := 0, locals := 0 } : Room).cells ({ frames := 0, cells := 0, slots := 0, locals := 0 } : Room).slots) := by
  refine MetFree.of_bodySF (plainFor_of_name own_pn7) hisR ?_
  intro p e s m args below meth cde s₁ Bd hml0 hP hK
  obtain ⟨rfl, hZ, hh⟩ := hP
  have hx := Bd.exec
  have hby := Bd.bytes
  have hml : cde.maxLocals = 1 := hml0
  have hown : s.vm.findClass "com/example/lease/lease/error/NoRouteException$PassedOver" = some m.cls := findClass_of_methodNamed Bd.named
  have hnm := (name_of_methodNamed Bd.named Bd.method).1
  have X0 : Stand p l e ({ frames := 0, cells := 0, slots := 0, locals := 0 } : Room) s m #[(.ref a1)] below meth cde s₁ [] 0 0 := Stand.of_body Bd
  have e0 : s₁.heap = h0 := by rw [← hh, Bd.state]; rfl
  have N0 := Fr.nil n0
  show own_Fin p e s below (own_Q_isFull Z a1 h0 n0) ({ frames := 0, cells := 0, slots := 0, locals := 0 } : Room).cells ({ frames := 0, cells := 0, slots := 0, locals := 0 } : Room).slots s₁ (entryFrame m #[(.ref a1)] 1)
  rw [own_ef_isFull m a1]
  refine own_via (fun _ k => XS.aloadN X0.here hx rfl (hb hby own_d_prog_10_5_0) rfl rfl k) ?_
  show own_Fin _ _ _ _ _ _ _ s₁ (mkF m 1 #[.val (.ref a1)] [(.ref a1)])
  obtain ⟨T1_, X1_, e1_, st1_⟩ := getF X0 hx hZ hown (host := "") (Or.inl (hw _ (List.mem_of_getElem? (i := 34) rfl))) Via.refl e0 F1 (g := (mkF m 1 #[.val (.ref a1)] [(.ref a1)])) rfl rfl (hb hby own_d_prog_10_5_1)
  refine own_via (fun _ k => st1_ _ k) ?_
  show own_Fin _ _ _ _ _ _ _ T1_ (mkF m 4 #[.val (.ref a1)] [.null])
  refine own_via (fun _ k => XS.ifnonnullNo X1_.here hx rfl (hb hby own_d_prog_10_5_4) rfl k) ?_
  show own_Fin _ _ _ _ _ _ _ T1_ (mkF m 7 #[.val (.ref a1)] [])
  refine own_via (fun _ k => XS.iconst X1_.here hx rfl (hb hby own_d_prog_10_5_7) k) ?_
  show own_Fin _ _ _ _ _ _ _ T1_ (mkF m 8 #[.val (.ref a1)] [(.int (1 : Int32))])
  refine own_via (fun _ k => XS.goto X1_.here hx rfl (pc0 := 8) (pc' := 12) rfl (hb hby own_d_prog_10_5_8) (by decide) (by decide) k) ?_
  show own_Fin _ _ _ _ _ _ _ T1_ (mkF m 12 #[.val (.ref a1)] [(.int (1 : Int32))])
  exact own_retN X1_ hx (t := .boolean) Bd.returns Bd.notSynchronized (by simp) (hb hby own_d_prog_10_5_12) e1_ rfl ⟨rfl, N0, rfl⟩ (by decide) (by decide)
theorem own_d_prog_10_6_0 : decode prog_10_method_6_code 0 = .ok (.aload_n 0, 1) := by decide +kernel
theorem own_d_prog_10_6_1 : decode prog_10_method_6_code 1 = .ok (.getfield 13, 3) := by decide +kernel
theorem own_d_prog_10_6_4 : decode prog_10_method_6_code 4 = .ok (.areturn, 1) := by decide +kernel
theorem own_ef_connF (m : MethodId) (a1 : Addr) : entryFrame m #[(.ref a1)] 1 = mkF m 0 #[.val (.ref a1)] [] := by (first | (simp [entryFrame, mkF, argsToLocals, Value.category]; done) | rfl)
def own_Q_connF (Z : State) (a1 : Addr) (h0 : Heap) (n0 : Nat) (vq : Option Value) (h : Heap) (Lq : List Loc) : Prop := (vq = some .null) ∧ (Fr n0 Lq) ∧ (h = h0)
set_option maxRecDepth 65536 in
set_option maxHeartbeats 40000000 in
theorem own_rm_connF (l : Launch) (Z : State) (a0 : Array Value) (hw : ∀ d ∈ tables_1, d.before a0 Z = true) (ws : List Jvm.Cond) (a1 : Addr) (h0 : Heap) (n0 : Nat) (Z0 : n0 ≤ h0.size) (F1 : Fld Z h0 a1 "com/example/lease/lease/error/NoRouteException$PassedOver" "connectFailure" "Lcom/example/lease/lease/error/ConnectFailedException;" .null) :
    MetFree l (⟨"com/example/lease/lease/error/NoRouteException$PassedOver", "connectFailure", "()Lcom/example/lease/lease/error/ConnectFailedException;"⟩ : MethodName) (head1 (Jvm.Cond.code (⟨"com/example/lease/lease/error/NoRouteException$PassedOver", "connectFailure", "()Lcom/example/lease/lease/error/ConnectFailedException;"⟩ : MethodName) prog_10_method_6_code 1 (some (.object "com/example/lease/lease/error/ConnectFailedException")) :: ws) ({ frames := 0, cells := 0, slots := 0, locals := 0 } : Room)) (fun aq Uq => aq = #[(.ref a1)] ∧ Z.Warmed39 Uq.vm ∧ Uq.heap = h0) (fun _ _ _ _ _ => True) (fun _ Uq oq Uq' => ∃ vq Lq, oq = .returned vq ∧ own_Q_connF Z a1 h0 n0 vq Uq'.heap Lq ∧ FrameEnd Uq oq Uq' Lq ({ frames := 0, cells := 0, slots := 0, locals := 0 } : Room).cells ({ frames := 0, cells := 0, slots := 0, locals := 0 } : Room).slots) := by
  refine MetFree.of_bodySF (plainFor_of_name own_pn7) hisR ?_
  intro p e s m args below meth cde s₁ Bd hml0 hP hK
  obtain ⟨rfl, hZ, hh⟩ := hP
  have hx := Bd.exec
  have hby := Bd.bytes
  have hml : cde.maxLocals = 1 := hml0
  have hown : s.vm.findClass "com/example/lease/lease/error/NoRouteException$PassedOver" = some m.cls := findClass_of_methodNamed Bd.named
  have hnm := (name_of_methodNamed Bd.named Bd.method).1
  have X0 : Stand p l e ({ frames := 0, cells := 0, slots := 0, locals := 0 } : Room) s m #[(.ref a1)] below meth cde s₁ [] 0 0 := Stand.of_body Bd
  have e0 : s₁.heap = h0 := by rw [← hh, Bd.state]; rfl
  have N0 := Fr.nil n0
  show own_Fin p e s below (own_Q_connF Z a1 h0 n0) ({ frames := 0, cells := 0, slots := 0, locals := 0 } : Room).cells ({ frames := 0, cells := 0, slots := 0, locals := 0 } : Room).slots s₁ (entryFrame m #[(.ref a1)] 1)
  rw [own_ef_connF m a1]
  refine own_via (fun _ k => XS.aloadN X0.here hx rfl (hb hby own_d_prog_10_6_0) rfl rfl k) ?_
  show own_Fin _ _ _ _ _ _ _ s₁ (mkF m 1 #[.val (.ref a1)] [(.ref a1)])
  obtain ⟨T1_, X1_, e1_, st1_⟩ := getF X0 hx hZ hown (host := "") (Or.inl (hw _ (List.mem_of_getElem? (i := 34) rfl))) Via.refl e0 F1 (g := (mkF m 1 #[.val (.ref a1)] [(.ref a1)])) rfl rfl (hb hby own_d_prog_10_6_1)
  refine own_via (fun _ k => st1_ _ k) ?_
  show own_Fin _ _ _ _ _ _ _ T1_ (mkF m 4 #[.val (.ref a1)] [.null])
  exact own_retA X1_ hx Bd.returns Bd.notSynchronized rfl rfl (hb hby own_d_prog_10_6_4) e1_ ⟨rfl, N0, rfl⟩ (by decide) (by decide)
theorem own_pd9 : parseMethodDescriptor "(I)Ljava/lang/Integer;" = some ⟨[.int], some (.object "java/lang/Integer")⟩ := by decide +kernel
theorem own_pd10 : parseMethodDescriptor "(Ljava/lang/Object;)Lcom/example/lease/lease/error/NoRouteException$PassedOver;" = some ⟨[(.object "java/lang/Object")], some (.object "com/example/lease/lease/error/NoRouteException$PassedOver")⟩ := by decide +kernel
theorem own_pd11 : parseMethodDescriptor "()Ljava/lang/Object;" = some ⟨[], some (.object "java/lang/Object")⟩ := by decide +kernel
theorem own_pd12 : parseMethodDescriptor "()Z" = some ⟨[], some .boolean⟩ := by decide +kernel
theorem own_pd13 : parseMethodDescriptor "()Lcom/example/lease/lease/error/ConnectFailedException;" = some ⟨[], some (.object "com/example/lease/lease/error/ConnectFailedException")⟩ := by decide +kernel
theorem own_pd14 : parseMethodDescriptor "(J)Ljava/lang/Long;" = some ⟨[.long], some (.object "java/lang/Long")⟩ := by decide +kernel
theorem own_pd15 : parseMethodDescriptor "([C)V" = some ⟨[(.array .char)], none⟩ := by decide +kernel
theorem own_pd16 : parseMethodDescriptor "(Ljava/lang/Object;)Z" = some ⟨[(.object "java/lang/Object")], some .boolean⟩ := by decide +kernel
theorem own_pn8 : plainName "com/example/lease/lease/error/PassedOverFullPinLaw" = true := by first | (simp [plainName, overriddenIn]; done) | decide +kernel
theorem own_ef_law (m : MethodId) (p1 : Int32) (q2 : Int64) (p3 : Int32) : entryFrame m #[(.int p1), (.long q2), (.int p3)] maxLocals = mkF m 0 #[.val (.int p1), .val (.long q2), .second, .val (.int p3), .unset, .unset, .unset] [] := by (first | (simp [entryFrame, mkF, argsToLocals, Value.category, maxLocals]; done) | rfl)
def own_Q_law (Z : State) (p1 : Int32) (q2 : Int64) (p3 : Int32) (cz : Int32) (cai : Addr) (cci : Cell) (vfi : Int32 → Value) (cal : Addr) (ccl : Cell) (vfl : Int32 → Value) (de : Addr) (kd : ClassId) (h0 : Heap) (n0 : Nat) (vq : Option Value) (h : Heap) (Lq : List Loc) : Prop := (vq = some (.int (1 : Int32))) ∧ (Fr n0 Lq)
set_option maxRecDepth 65536 in
set_option maxHeartbeats 40000000 in
theorem own_rm_law (l : Launch) (Z : State) (a0 : Array Value) (hw : ∀ d ∈ tables_1, d.before a0 Z = true) (ws : List Jvm.Cond) (p1 : Int32) (q2 : Int64) (p3 : Int32) (cz : Int32) (cai : Addr) (cci : Cell) (vfi : Int32 → Value) (cal : Addr) (ccl : Cell) (vfl : Int32 → Value) (de : Addr) (kd : ClassId) (h0 : Heap) (n0 : Nat) (Z0 : n0 ≤ h0.size) (O0 : Old Z n0 h0) (S1 : Sta Z Z.heap "java/lang/String" "COMPACT_STRINGS" "Z" (.int cz)) (P5 : ¬ cz = (0 : Int32)) (Sci : Sta Z Z.heap "java/lang/Integer$IntegerCache" "cache" "[Ljava/lang/Integer;" (.ref cai)) (Bxi : Bxs Z cai cci "java/lang/Integer" "I" (256 : Int32) vfi) (Sh : Sta Z Z.heap "java/lang/Integer$IntegerCache" "high" "I" (.int (127 : Int32))) (Scl : Sta Z Z.heap "java/lang/Long$LongCache" "cache" "[Ljava/lang/Long;" (.ref cal)) (Bxl : Bxs Z cal ccl "java/lang/Long" "J" (256 : Int32) vfl) (Sd : Sta Z Z.heap "java/util/ArrayList" "DEFAULTCAPACITY_EMPTY_ELEMENTDATA" "[Ljava/lang/Object;" (.ref de)) (Vd : Arv Z h0 de kd (.object "java/lang/Object") (0 : Int32) ([]) .null) :
    MetFree l x (head1 (Jvm.Cond.code x code maxLocals ret :: ws) room_1) (fun aq Uq => aq = #[(.int p1), (.long q2), (.int p3)] ∧ Z.Warmed39 Uq.vm ∧ Uq.heap = h0 ∧ CHv Z own_EL Uq.vm h0) (fun _ _ _ _ _ => True) (fun _ Uq oq Uq' => ∃ vq Lq, oq = .returned vq ∧ own_Q_law Z p1 q2 p3 cz cai cci vfi cal ccl vfl de kd h0 n0 vq Uq'.heap Lq ∧ CHr Z own_EL Uq.vm Uq.heap Uq'.vm Uq'.heap ∧ ReturnedEndW Uq oq Uq' Lq room_1.cells room_1.slots) := by
  refine MetFree.of_bodySF (plainFor_of_name own_pn8) hisR ?_
  intro p e s m args below meth cde s₁ Bd hml0 hP hK
  obtain ⟨rfl, hZ, hh, H0⟩ := hP
  have hx := Bd.exec
  have hby := Bd.bytes
  have hml : cde.maxLocals = 7 := hml0
  have hown : s.vm.findClass "com/example/lease/lease/error/PassedOverFullPinLaw" = some m.cls := findClass_of_methodNamed Bd.named
  have hnm := (name_of_methodNamed Bd.named Bd.method).1
  have X0 : Stand p l e room_1 (s.setVm s.vm) m #[(.int p1), (.long q2), (.int p3)] below meth cde s₁ [] 0 0 := Stand.of_body Bd
  have e0 : s₁.heap = h0 := by rw [← hh, Bd.state]; rfl
  have N0 := Fr.nil n0
  have hS0 : s.Since s.vm h0.size := (State.WarmedH.refl s).since _
  have hk0 : h0.size ≤ h0.size := Nat.le_refl _
  have C0 : CHr Z own_EL s.vm h0 s.vm h0 := CHr.refl H0
  show own_FinH p e s below Z own_EL (own_Q_law Z p1 q2 p3 cz cai cci vfi cal ccl vfl de kd h0 n0) room_1.cells room_1.slots s₁ (entryFrame m #[(.int p1), (.long q2), (.int p3)] maxLocals)
  rw [own_ef_law m p1 q2 p3]
  have own_hws : ∀ d ∈ StrChars.Road.words, d.before a0 Z = true := fun d hd => hw d ((by decide +kernel : ∀ d ∈ StrChars.Road.words, d ∈ tables_1) d hd)
  refine own_viaH (fun _ k => XS.iloadN X0.here hx rfl (hb hby at_0) rfl k) ?_
  show own_FinH _ _ _ _ _ _ _ _ _ s₁ (mkF m 1 #[.val (.int p1), .val (.long q2), .second, .val (.int p3), .unset, .unset, .unset] [(.int p3)])
  refine own_viaH (fun _ k => XS.iconst X0.here hx rfl (hb hby at_1) k) ?_
  show own_FinH _ _ _ _ _ _ _ _ _ s₁ (mkF m 2 #[.val (.int p1), .val (.long q2), .second, .val (.int p3), .unset, .unset, .unset] [(.int (3 : Int32)), (.int p3)])
  refine own_viaH (fun _ k => XS.iand X0.here hx rfl (hb hby at_2) rfl k) ?_
  show own_FinH _ _ _ _ _ _ _ _ _ s₁ (mkF m 3 #[.val (.int p1), .val (.long q2), .second, .val (.int p3), .unset, .unset, .unset] [(.int (p3 &&& (3 : Int32)))])
  refine own_viaH (fun _ k => XS.istore X0.here hx rfl (hb hby at_3) rfl (l' := #[.val (.int p1), .val (.long q2), .second, .val (.int p3), .unset, .val (.int (p3 &&& (3 : Int32))), .unset]) rfl k) ?_
  show own_FinH _ _ _ _ _ _ _ _ _ s₁ (mkF m 5 #[.val (.int p1), .val (.long q2), .second, .val (.int p3), .unset, .val (.int (p3 &&& (3 : Int32))), .unset] [])
  refine own_viaH (fun _ k => XS.iload X0.here hx rfl (hb hby at_5) rfl k) ?_
  show own_FinH _ _ _ _ _ _ _ _ _ s₁ (mkF m 7 #[.val (.int p1), .val (.long q2), .second, .val (.int p3), .unset, .val (.int (p3 &&& (3 : Int32))), .unset] [(.int (p3 &&& (3 : Int32)))])
  rcases Classical.em ((p3 &&& (3 : Int32)) = (0 : Int32)) with hz0 | hz0
  · refine own_viaH (fun _ k => XS.ifNo X0.here hx rfl (hb hby at_7) rfl ((if0 _ _).trans (teq hz0).2) k) ?_
    show own_FinH _ _ _ _ _ _ _ _ _ s₁ (mkF m 10 #[.val (.int p1), .val (.long q2), .second, .val (.int p3), .unset, .val (.int (p3 &&& (3 : Int32))), .unset] [])
    refine own_viaH (fun _ k => XS.iloadN X0.here hx rfl (hb hby at_10) rfl k) ?_
    show own_FinH _ _ _ _ _ _ _ _ _ s₁ (mkF m 11 #[.val (.int p1), .val (.long q2), .second, .val (.int p3), .unset, .val (.int (p3 &&& (3 : Int32))), .unset] [(.int p1)])
    obtain ⟨_, _, ⟨T1_, L1_, k1_, n1_⟩, -, X1_, ⟨Lc1_, hQ1_, l1_, y1_, z1_⟩, st1_⟩ := Jvm.LawKit.callS X0 hx (y := (⟨"java/lang/Integer", "valueOf", "(I)Ljava/lang/Integer;"⟩ : MethodName)) hown (mvT hZ (hw _ (List.mem_of_getElem? (i := 75) rfl))) (mvT hZ (hw _ (List.mem_of_getElem? (i := 76) rfl))) (mvT hZ (hw _ (List.mem_of_getElem? (i := 77) rfl))) (mvT hZ (hw _ (List.mem_of_getElem? (i := 78) rfl))) (by decide) (backOf (W := 0) (own_rm_intOf l Z a0 hw [] p1 cai cci vfi h0 n0 Z0 O0 Sci Bxi Sh) hZ (hw _ (List.mem_of_getElem? (i := 78) rfl)) (hw _ (List.mem_of_getElem? (i := 77) rfl)) (by decide) (by decide)) (g := (mkF m 11 #[.val (.int p1), .val (.long q2), .second, .val (.int p3), .unset, .val (.int (p3 &&& (3 : Int32))), .unset] [(.int p1)])) rfl (by rw [hml]; rfl) (argsL := [(.int p1)]) (rest := []) (lenOf own_pd9 rfl) rfl (by show 2 * 0 + _ ≤ _; exact Nat.le_of_eq rfl) (hb hby at_11) (fun _ _ => ⟨rfl, e0, (by decide : 0 + 1 ≤ _), (by decide : 0 + 1 ≤ _)⟩)
    dsimp only [Pt.U, Pt.locs, Pt.cells, Pt.slots] at X1_ l1_ y1_ z1_ st1_ hQ1_
    subst l1_ y1_ z1_
    obtain ⟨t2_, rfl, Nq1_, K1_, r3_⟩ := hQ1_
    have N1_ := Fr.app N0 Nq1_
    refine own_viaH (fun _ k => st1_ _ k) ?_
    show own_FinH _ _ _ _ _ _ _ _ _ T1_ (mkF m 14 #[.val (.int p1), .val (.long q2), .second, .val (.int p3), .unset, .val (.int (p3 &&& (3 : Int32))), .unset] [(.ref t2_)])
    refine own_viaH (fun _ k => XS.astore X1_.here hx rfl (hb hby at_14) rfl rfl (l' := #[.val (.int p1), .val (.long q2), .second, .val (.int p3), .val (.ref t2_), .val (.int (p3 &&& (3 : Int32))), .unset]) rfl k) ?_
    show own_FinH _ _ _ _ _ _ _ _ _ T1_ (mkF m 16 #[.val (.int p1), .val (.long q2), .second, .val (.int p3), .val (.ref t2_), .val (.int (p3 &&& (3 : Int32))), .unset] [])
    refine own_viaH (fun _ k => XS.goto X1_.here hx rfl (pc0 := 16) (pc' := 101) rfl (hb hby at_16) (by decide) (by decide) k) ?_
    show own_FinH _ _ _ _ _ _ _ _ _ T1_ (mkF m 101 #[.val (.int p1), .val (.long q2), .second, .val (.int p3), .val (.ref t2_), .val (.int (p3 &&& (3 : Int32))), .unset] [])
    refine own_viaH (fun _ k => XS.aload X1_.here hx rfl (hb hby at_101) rfl rfl k) ?_
    show own_FinH _ _ _ _ _ _ _ _ _ T1_ (mkF m 103 #[.val (.int p1), .val (.long q2), .second, .val (.int p3), .val (.ref t2_), .val (.int (p3 &&& (3 : Int32))), .unset] [(.ref t2_)])
    have C5_ := C0.trans (CHr.keep K1_ sf0 H0)
    have H5_ := C5_.1
    obtain ⟨_, _, ⟨T4_, L4_, k4_, n4_⟩, -, Y4_, hSq4_, hgq4_, ⟨Lc4_, hQ4_, l4_, y4_, z4_, Cq4_⟩, st4_⟩ := callSS X1_ hx (y := (⟨"com/example/lease/lease/error/NoRouteException$PassedOver", "full", "(Ljava/lang/Object;)Lcom/example/lease/lease/error/NoRouteException$PassedOver;"⟩ : MethodName)) hown (mvT hZ (hw _ (List.mem_of_getElem? (i := 8) rfl))) (mvT hZ (hw _ (List.mem_of_getElem? (i := 9) rfl))) (mvT hZ (hw _ (List.mem_of_getElem? (i := 10) rfl))) (mvT hZ (hw _ (List.mem_of_getElem? (i := 11) rfl))) (by decide) (backOfSH (s := s) (vm0 := s.vm) (W := 0) (own_rm_full l Z a0 hw [] t2_ T1_.heap n0 (Nat.le_trans Z0 K1_.1) ) hZ (hw _ (List.mem_of_getElem? (i := 11) rfl)) (hw _ (List.mem_of_getElem? (i := 10) rfl)) (by decide) (by decide) (own_ew hw) H5_) (g := (mkF m 103 #[.val (.int p1), .val (.long q2), .second, .val (.int p3), .val (.ref t2_), .val (.int (p3 &&& (3 : Int32))), .unset] [(.ref t2_)])) rfl (by rw [hml]; rfl) (argsL := [(.ref t2_)]) (rest := []) (lenOf own_pd10 rfl) rfl (by show 2 * 0 + _ ≤ _; exact Nat.le_of_eq rfl) (hb hby at_103) (fun _ _ => ⟨rfl, rfl, (by decide : 0 + 1 + 3 ≤ _), (by decide : 0 + 1 + 26 ≤ _)⟩)
    dsimp only [Pt.U, Pt.locs, Pt.cells, Pt.slots] at Y4_ l4_ y4_ z4_ st4_ hQ4_ hSq4_ hgq4_ Cq4_
    subst l4_ y4_ z4_
    obtain ⟨X4_, hS4_, hZ4_, hown4_⟩ := rebS hS0 ((Nat.le_trans hk0 K1_.1)) Y4_ hSq4_ hgq4_ hZ hown
    obtain ⟨t6_, rfl, Nq4_, K4_, r7_, r8_, r9_, r10_⟩ := hQ4_
    have N4_ := Fr.app N1_ Nq4_
    refine own_viaH (fun _ k => st4_.trans k) ?_
    show own_FinH _ _ _ _ _ _ _ _ _ T4_ (mkF m 106 #[.val (.int p1), .val (.long q2), .second, .val (.int p3), .val (.ref t2_), .val (.int (p3 &&& (3 : Int32))), .unset] [(.ref t6_)])
    refine own_viaH (fun _ k => XS.astore X4_.here hx rfl (hb hby at_106) rfl rfl (l' := #[.val (.int p1), .val (.long q2), .second, .val (.int p3), .val (.ref t2_), .val (.int (p3 &&& (3 : Int32))), .val (.ref t6_)]) rfl k) ?_
    show own_FinH _ _ _ _ _ _ _ _ _ T4_ (mkF m 108 #[.val (.int p1), .val (.long q2), .second, .val (.int p3), .val (.ref t2_), .val (.int (p3 &&& (3 : Int32))), .val (.ref t6_)] [])
    refine own_viaH (fun _ k => XS.aload X4_.here hx rfl (hb hby at_108) rfl rfl k) ?_
    show own_FinH _ _ _ _ _ _ _ _ _ T4_ (mkF m 110 #[.val (.int p1), .val (.long q2), .second, .val (.int p3), .val (.ref t2_), .val (.int (p3 &&& (3 : Int32))), .val (.ref t6_)] [(.ref t6_)])
    obtain ⟨cq11_, kq11_, q11_a, q11_b, q11_c⟩ := isOf hZ4_ rfl r8_
    obtain ⟨_, _, ⟨T11_, L11_, k11_, n11_⟩, -, X11_, ⟨Lc11_, hQ11_, l11_, y11_, z11_⟩, st11_⟩ := X4_.virtualBack hx (y := (⟨"com/example/lease/lease/error/NoRouteException$PassedOver", "route", "()Ljava/lang/Object;"⟩ : MethodName)) (z := (⟨"com/example/lease/lease/error/NoRouteException$PassedOver", "route", "()Ljava/lang/Object;"⟩ : MethodName)) hown4_ (mvT hZ4_ (hw _ (List.mem_of_getElem? (i := 36) rfl))) (mvT hZ4_ (hw _ (List.mem_of_getElem? (i := 37) rfl))) (notFace_of_selects (args := #[]) (mvT hZ4_ (hw _ (List.mem_of_getElem? (i := 39) rfl)))) (mvT hZ4_ (hw _ (List.mem_of_getElem? (i := 39) rfl))) (mvT hZ4_ (hw _ (List.mem_of_getElem? (i := 38) rfl))) (by decide) (backOf (W := 0) (own_rm_route l Z a0 hw [] t6_ t2_ T4_.heap n0 (Nat.le_trans Z0 (Nat.le_trans K1_.1 K4_.1)) r9_) hZ4_ (hw _ (List.mem_of_getElem? (i := 40) rfl)) (hw _ (List.mem_of_getElem? (i := 10) rfl)) (by decide) (by decide)) q11_a q11_c (g := (mkF m 110 #[.val (.int p1), .val (.long q2), .second, .val (.int p3), .val (.ref t2_), .val (.int (p3 &&& (3 : Int32))), .val (.ref t6_)] [(.ref t6_)])) rfl (by rw [hml]; rfl) (Steps.refl _) (argsL := []) (rest := []) (lenOf own_pd11 rfl) rfl (by show 2 * 0 + _ ≤ _; exact Nat.le_of_eq rfl) (hb hby at_110) (fun _ _ => ⟨rfl, rfl, (by decide : 0 + 1 + 3 + 0 ≤ _), (by decide : 0 + 1 + 26 + 0 ≤ _)⟩)
    dsimp only [Pt.U, Pt.locs, Pt.cells, Pt.slots] at X11_ l11_ y11_ z11_ st11_ hQ11_
    subst l11_ y11_ z11_
    obtain ⟨rfl, Nq11_, hh11_⟩ := hQ11_
    have N11_ := Fr.app N4_ Nq11_
    refine own_viaH (fun _ k => st11_.trans k) ?_
    show own_FinH _ _ _ _ _ _ _ _ _ T11_ (mkF m 113 #[.val (.int p1), .val (.long q2), .second, .val (.int p3), .val (.ref t2_), .val (.int (p3 &&& (3 : Int32))), .val (.ref t6_)] [(.ref t2_)])
    refine own_viaH (fun _ k => XS.aload X11_.here hx rfl (hb hby at_113) rfl rfl k) ?_
    show own_FinH _ _ _ _ _ _ _ _ _ T11_ (mkF m 115 #[.val (.int p1), .val (.long q2), .second, .val (.int p3), .val (.ref t2_), .val (.int (p3 &&& (3 : Int32))), .val (.ref t6_)] [(.ref t2_), (.ref t2_)])
    refine own_viaH (fun _ k => Jvm.RoadKit.acmp (g := (mkF m 115 #[.val (.int p1), .val (.long q2), .second, .val (.int p3), .val (.ref t2_), .val (.int (p3 &&& (3 : Int32))), .val (.ref t6_)] [(.ref t2_), (.ref t2_)])) X11_ hx rfl rfl rfl (pc0 := 115) (pc' := 118) (same := true) rfl (hb hby at_115) rfl (decide_eq_true rfl) (by decide) (by decide) k) ?_
    show own_FinH _ _ _ _ _ _ _ _ _ T11_ (mkF m 118 #[.val (.int p1), .val (.long q2), .second, .val (.int p3), .val (.ref t2_), .val (.int (p3 &&& (3 : Int32))), .val (.ref t6_)] [])
    refine own_viaH (fun _ k => XS.aload X11_.here hx rfl (hb hby at_118) rfl rfl k) ?_
    show own_FinH _ _ _ _ _ _ _ _ _ T11_ (mkF m 120 #[.val (.int p1), .val (.long q2), .second, .val (.int p3), .val (.ref t2_), .val (.int (p3 &&& (3 : Int32))), .val (.ref t6_)] [(.ref t6_)])
    obtain ⟨cq12_, kq12_, q12_a, q12_b, q12_c⟩ := isOf hZ4_ hh11_ r8_
    obtain ⟨_, _, ⟨T12_, L12_, k12_, n12_⟩, -, X12_, ⟨Lc12_, hQ12_, l12_, y12_, z12_⟩, st12_⟩ := X11_.virtualBack hx (y := (⟨"com/example/lease/lease/error/NoRouteException$PassedOver", "isFull", "()Z"⟩ : MethodName)) (z := (⟨"com/example/lease/lease/error/NoRouteException$PassedOver", "isFull", "()Z"⟩ : MethodName)) hown4_ (mvT hZ4_ (hw _ (List.mem_of_getElem? (i := 41) rfl))) (mvT hZ4_ (hw _ (List.mem_of_getElem? (i := 42) rfl))) (notFace_of_selects (args := #[]) (mvT hZ4_ (hw _ (List.mem_of_getElem? (i := 44) rfl)))) (mvT hZ4_ (hw _ (List.mem_of_getElem? (i := 44) rfl))) (mvT hZ4_ (hw _ (List.mem_of_getElem? (i := 43) rfl))) (by decide) (backOf (W := 0) (own_rm_isFull l Z a0 hw [] t6_ T4_.heap n0 (Nat.le_trans Z0 (Nat.le_trans K1_.1 K4_.1)) r10_) hZ4_ (hw _ (List.mem_of_getElem? (i := 45) rfl)) (hw _ (List.mem_of_getElem? (i := 10) rfl)) (by decide) (by decide)) q12_a q12_c (g := (mkF m 120 #[.val (.int p1), .val (.long q2), .second, .val (.int p3), .val (.ref t2_), .val (.int (p3 &&& (3 : Int32))), .val (.ref t6_)] [(.ref t6_)])) rfl (by rw [hml]; rfl) (Steps.refl _) (argsL := []) (rest := []) (lenOf own_pd12 rfl) rfl (by show 2 * 0 + _ ≤ _; exact Nat.le_of_eq rfl) (hb hby at_120) (fun _ _ => ⟨rfl, hh11_, (by decide : 0 + 1 + 3 + 0 + 0 ≤ _), (by decide : 0 + 1 + 26 + 0 + 0 ≤ _)⟩)
    dsimp only [Pt.U, Pt.locs, Pt.cells, Pt.slots] at X12_ l12_ y12_ z12_ st12_ hQ12_
    subst l12_ y12_ z12_
    obtain ⟨rfl, Nq12_, hh12_⟩ := hQ12_
    have N12_ := Fr.app N11_ Nq12_
    refine own_viaH (fun _ k => st12_.trans k) ?_
    show own_FinH _ _ _ _ _ _ _ _ _ T12_ (mkF m 123 #[.val (.int p1), .val (.long q2), .second, .val (.int p3), .val (.ref t2_), .val (.int (p3 &&& (3 : Int32))), .val (.ref t6_)] [(.int (1 : Int32))])
    refine own_viaH (fun _ k => XS.ifNo X12_.here hx rfl (hb hby at_123) rfl ((if0 _ _).trans (feq (by decide)).1) k) ?_
    show own_FinH _ _ _ _ _ _ _ _ _ T12_ (mkF m 126 #[.val (.int p1), .val (.long q2), .second, .val (.int p3), .val (.ref t2_), .val (.int (p3 &&& (3 : Int32))), .val (.ref t6_)] [])
    refine own_viaH (fun _ k => XS.aload X12_.here hx rfl (hb hby at_126) rfl rfl k) ?_
    show own_FinH _ _ _ _ _ _ _ _ _ T12_ (mkF m 128 #[.val (.int p1), .val (.long q2), .second, .val (.int p3), .val (.ref t2_), .val (.int (p3 &&& (3 : Int32))), .val (.ref t6_)] [(.ref t6_)])
    obtain ⟨cq13_, kq13_, q13_a, q13_b, q13_c⟩ := isOf hZ4_ hh12_ r8_
    obtain ⟨_, _, ⟨T13_, L13_, k13_, n13_⟩, -, X13_, ⟨Lc13_, hQ13_, l13_, y13_, z13_⟩, st13_⟩ := X12_.virtualBack hx (y := (⟨"com/example/lease/lease/error/NoRouteException$PassedOver", "connectFailure", "()Lcom/example/lease/lease/error/ConnectFailedException;"⟩ : MethodName)) (z := (⟨"com/example/lease/lease/error/NoRouteException$PassedOver", "connectFailure", "()Lcom/example/lease/lease/error/ConnectFailedException;"⟩ : MethodName)) hown4_ (mvT hZ4_ (hw _ (List.mem_of_getElem? (i := 46) rfl))) (mvT hZ4_ (hw _ (List.mem_of_getElem? (i := 47) rfl))) (notFace_of_selects (args := #[]) (mvT hZ4_ (hw _ (List.mem_of_getElem? (i := 49) rfl)))) (mvT hZ4_ (hw _ (List.mem_of_getElem? (i := 49) rfl))) (mvT hZ4_ (hw _ (List.mem_of_getElem? (i := 48) rfl))) (by decide) (backOf (W := 0) (own_rm_connF l Z a0 hw [] t6_ T4_.heap n0 (Nat.le_trans Z0 (Nat.le_trans K1_.1 K4_.1)) r10_) hZ4_ (hw _ (List.mem_of_getElem? (i := 50) rfl)) (hw _ (List.mem_of_getElem? (i := 10) rfl)) (by decide) (by decide)) q13_a q13_c (g := (mkF m 128 #[.val (.int p1), .val (.long q2), .second, .val (.int p3), .val (.ref t2_), .val (.int (p3 &&& (3 : Int32))), .val (.ref t6_)] [(.ref t6_)])) rfl (by rw [hml]; rfl) (Steps.refl _) (argsL := []) (rest := []) (lenOf own_pd13 rfl) rfl (by show 2 * 0 + _ ≤ _; exact Nat.le_of_eq rfl) (hb hby at_128) (fun _ _ => ⟨rfl, hh12_, (by decide : 0 + 1 + 3 + 0 + 0 + 0 ≤ _), (by decide : 0 + 1 + 26 + 0 + 0 + 0 ≤ _)⟩)
    dsimp only [Pt.U, Pt.locs, Pt.cells, Pt.slots] at X13_ l13_ y13_ z13_ st13_ hQ13_
    subst l13_ y13_ z13_
    obtain ⟨rfl, Nq13_, hh13_⟩ := hQ13_
    have N13_ := Fr.app N12_ Nq13_
    refine own_viaH (fun _ k => st13_.trans k) ?_
    show own_FinH _ _ _ _ _ _ _ _ _ T13_ (mkF m 131 #[.val (.int p1), .val (.long q2), .second, .val (.int p3), .val (.ref t2_), .val (.int (p3 &&& (3 : Int32))), .val (.ref t6_)] [.null])
    refine own_viaH (fun _ k => XS.ifnonnullNo X13_.here hx rfl (hb hby at_131) rfl k) ?_
    show own_FinH _ _ _ _ _ _ _ _ _ T13_ (mkF m 134 #[.val (.int p1), .val (.long q2), .second, .val (.int p3), .val (.ref t2_), .val (.int (p3 &&& (3 : Int32))), .val (.ref t6_)] [])
    refine own_viaH (fun _ k => XS.iconst X13_.here hx rfl (hb hby at_134) k) ?_
    show own_FinH _ _ _ _ _ _ _ _ _ T13_ (mkF m 135 #[.val (.int p1), .val (.long q2), .second, .val (.int p3), .val (.ref t2_), .val (.int (p3 &&& (3 : Int32))), .val (.ref t6_)] [(.int (1 : Int32))])
    refine own_viaH (fun _ k => XS.goto X13_.here hx rfl (pc0 := 135) (pc' := 139) rfl (hb hby at_135) (by decide) (by decide) k) ?_
    show own_FinH _ _ _ _ _ _ _ _ _ T13_ (mkF m 139 #[.val (.int p1), .val (.long q2), .second, .val (.int p3), .val (.ref t2_), .val (.int (p3 &&& (3 : Int32))), .val (.ref t6_)] [(.int (1 : Int32))])
    have C14_ := C5_.trans Cq4_
    have H14_ := C14_.1
    exact own_retNH X13_ hx (t := .boolean) Bd.returns Bd.notSynchronized (own_ew hw) hZ4_ hS4_ (Nat.le_refl _) hh C14_ (by simp) (hb hby at_139) hh13_ rfl ⟨rfl, N13_⟩ (by decide) (by decide)
  · refine own_viaH (fun _ k => XS.ifYes X0.here hx rfl (pc0 := 7) (pc' := 19) rfl (hb hby at_7) rfl ((if0 _ _).trans (feq hz0).2) (by decide) (by decide) k) ?_
    show own_FinH _ _ _ _ _ _ _ _ _ s₁ (mkF m 19 #[.val (.int p1), .val (.long q2), .second, .val (.int p3), .unset, .val (.int (p3 &&& (3 : Int32))), .unset] [])
    refine own_viaH (fun _ k => XS.iload X0.here hx rfl (hb hby at_19) rfl k) ?_
    show own_FinH _ _ _ _ _ _ _ _ _ s₁ (mkF m 21 #[.val (.int p1), .val (.long q2), .second, .val (.int p3), .unset, .val (.int (p3 &&& (3 : Int32))), .unset] [(.int (p3 &&& (3 : Int32)))])
    refine own_viaH (fun _ k => XS.iconst X0.here hx rfl (hb hby at_21) k) ?_
    show own_FinH _ _ _ _ _ _ _ _ _ s₁ (mkF m 22 #[.val (.int p1), .val (.long q2), .second, .val (.int p3), .unset, .val (.int (p3 &&& (3 : Int32))), .unset] [(.int (1 : Int32)), (.int (p3 &&& (3 : Int32)))])
    rcases Classical.em ((p3 &&& (3 : Int32)) = (1 : Int32)) with h1 | h1
    · refine own_viaH (fun _ k => XS.icmpNo X0.here hx rfl (hb hby at_22) rfl (teq h1).2 k) ?_
      show own_FinH _ _ _ _ _ _ _ _ _ s₁ (mkF m 25 #[.val (.int p1), .val (.long q2), .second, .val (.int p3), .unset, .val (.int (p3 &&& (3 : Int32))), .unset] [])
      refine own_viaH (fun _ k => XS.lloadN X0.here hx rfl (hb hby at_25) rfl k) ?_
      show own_FinH _ _ _ _ _ _ _ _ _ s₁ (mkF m 26 #[.val (.int p1), .val (.long q2), .second, .val (.int p3), .unset, .val (.int (p3 &&& (3 : Int32))), .unset] [(.long q2)])
      obtain ⟨_, _, ⟨T15_, L15_, k15_, n15_⟩, -, X15_, ⟨Lc15_, hQ15_, l15_, y15_, z15_⟩, st15_⟩ := Jvm.LawKit.callS X0 hx (y := (⟨"java/lang/Long", "valueOf", "(J)Ljava/lang/Long;"⟩ : MethodName)) hown (mvT hZ (hw _ (List.mem_of_getElem? (i := 0) rfl))) (mvT hZ (hw _ (List.mem_of_getElem? (i := 1) rfl))) (mvT hZ (hw _ (List.mem_of_getElem? (i := 2) rfl))) (mvT hZ (hw _ (List.mem_of_getElem? (i := 3) rfl))) (by decide) (backOf (W := 0) (own_rm_longOf l Z a0 hw [] q2 cal ccl vfl h0 n0 Z0 O0 Scl Bxl) hZ (hw _ (List.mem_of_getElem? (i := 3) rfl)) (hw _ (List.mem_of_getElem? (i := 2) rfl)) (by decide) (by decide)) (g := (mkF m 26 #[.val (.int p1), .val (.long q2), .second, .val (.int p3), .unset, .val (.int (p3 &&& (3 : Int32))), .unset] [(.long q2)])) rfl (by rw [hml]; rfl) (argsL := [(.long q2)]) (rest := []) (lenOf own_pd14 rfl) rfl (by show 2 * 0 + _ ≤ _; exact Nat.le_of_eq rfl) (hb hby at_26) (fun _ _ => ⟨rfl, e0, (by decide : 0 + 1 ≤ _), (by decide : 0 + 1 ≤ _)⟩)
      dsimp only [Pt.U, Pt.locs, Pt.cells, Pt.slots] at X15_ l15_ y15_ z15_ st15_ hQ15_
      subst l15_ y15_ z15_
      obtain ⟨t16_, rfl, Nq15_, K15_, r17_⟩ := hQ15_
      have N15_ := Fr.app N0 Nq15_
      refine own_viaH (fun _ k => st15_ _ k) ?_
      show own_FinH _ _ _ _ _ _ _ _ _ T15_ (mkF m 29 #[.val (.int p1), .val (.long q2), .second, .val (.int p3), .unset, .val (.int (p3 &&& (3 : Int32))), .unset] [(.ref t16_)])
      refine own_viaH (fun _ k => XS.astore X15_.here hx rfl (hb hby at_29) rfl rfl (l' := #[.val (.int p1), .val (.long q2), .second, .val (.int p3), .val (.ref t16_), .val (.int (p3 &&& (3 : Int32))), .unset]) rfl k) ?_
      show own_FinH _ _ _ _ _ _ _ _ _ T15_ (mkF m 31 #[.val (.int p1), .val (.long q2), .second, .val (.int p3), .val (.ref t16_), .val (.int (p3 &&& (3 : Int32))), .unset] [])
      refine own_viaH (fun _ k => XS.goto X15_.here hx rfl (pc0 := 31) (pc' := 101) rfl (hb hby at_31) (by decide) (by decide) k) ?_
      show own_FinH _ _ _ _ _ _ _ _ _ T15_ (mkF m 101 #[.val (.int p1), .val (.long q2), .second, .val (.int p3), .val (.ref t16_), .val (.int (p3 &&& (3 : Int32))), .unset] [])
      refine own_viaH (fun _ k => XS.aload X15_.here hx rfl (hb hby at_101) rfl rfl k) ?_
      show own_FinH _ _ _ _ _ _ _ _ _ T15_ (mkF m 103 #[.val (.int p1), .val (.long q2), .second, .val (.int p3), .val (.ref t16_), .val (.int (p3 &&& (3 : Int32))), .unset] [(.ref t16_)])
      have C19_ := C0.trans (CHr.keep K15_ sf0 H0)
      have H19_ := C19_.1
      obtain ⟨_, _, ⟨T18_, L18_, k18_, n18_⟩, -, Y18_, hSq18_, hgq18_, ⟨Lc18_, hQ18_, l18_, y18_, z18_, Cq18_⟩, st18_⟩ := callSS X15_ hx (y := (⟨"com/example/lease/lease/error/NoRouteException$PassedOver", "full", "(Ljava/lang/Object;)Lcom/example/lease/lease/error/NoRouteException$PassedOver;"⟩ : MethodName)) hown (mvT hZ (hw _ (List.mem_of_getElem? (i := 8) rfl))) (mvT hZ (hw _ (List.mem_of_getElem? (i := 9) rfl))) (mvT hZ (hw _ (List.mem_of_getElem? (i := 10) rfl))) (mvT hZ (hw _ (List.mem_of_getElem? (i := 11) rfl))) (by decide) (backOfSH (s := s) (vm0 := s.vm) (W := 0) (own_rm_full l Z a0 hw [] t16_ T15_.heap n0 (Nat.le_trans Z0 K15_.1) ) hZ (hw _ (List.mem_of_getElem? (i := 11) rfl)) (hw _ (List.mem_of_getElem? (i := 10) rfl)) (by decide) (by decide) (own_ew hw) H19_) (g := (mkF m 103 #[.val (.int p1), .val (.long q2), .second, .val (.int p3), .val (.ref t16_), .val (.int (p3 &&& (3 : Int32))), .unset] [(.ref t16_)])) rfl (by rw [hml]; rfl) (argsL := [(.ref t16_)]) (rest := []) (lenOf own_pd10 rfl) rfl (by show 2 * 0 + _ ≤ _; exact Nat.le_of_eq rfl) (hb hby at_103) (fun _ _ => ⟨rfl, rfl, (by decide : 0 + 1 + 3 ≤ _), (by decide : 0 + 1 + 26 ≤ _)⟩)
      dsimp only [Pt.U, Pt.locs, Pt.cells, Pt.slots] at Y18_ l18_ y18_ z18_ st18_ hQ18_ hSq18_ hgq18_ Cq18_
      subst l18_ y18_ z18_
      obtain ⟨X18_, hS18_, hZ18_, hown18_⟩ := rebS hS0 ((Nat.le_trans hk0 K15_.1)) Y18_ hSq18_ hgq18_ hZ hown
      obtain ⟨t20_, rfl, Nq18_, K18_, r21_, r22_, r23_, r24_⟩ := hQ18_
      have N18_ := Fr.app N15_ Nq18_
      refine own_viaH (fun _ k => st18_.trans k) ?_
      show own_FinH _ _ _ _ _ _ _ _ _ T18_ (mkF m 106 #[.val (.int p1), .val (.long q2), .second, .val (.int p3), .val (.ref t16_), .val (.int (p3 &&& (3 : Int32))), .unset] [(.ref t20_)])
      refine own_viaH (fun _ k => XS.astore X18_.here hx rfl (hb hby at_106) rfl rfl (l' := #[.val (.int p1), .val (.long q2), .second, .val (.int p3), .val (.ref t16_), .val (.int (p3 &&& (3 : Int32))), .val (.ref t20_)]) rfl k) ?_
      show own_FinH _ _ _ _ _ _ _ _ _ T18_ (mkF m 108 #[.val (.int p1), .val (.long q2), .second, .val (.int p3), .val (.ref t16_), .val (.int (p3 &&& (3 : Int32))), .val (.ref t20_)] [])
      refine own_viaH (fun _ k => XS.aload X18_.here hx rfl (hb hby at_108) rfl rfl k) ?_
      show own_FinH _ _ _ _ _ _ _ _ _ T18_ (mkF m 110 #[.val (.int p1), .val (.long q2), .second, .val (.int p3), .val (.ref t16_), .val (.int (p3 &&& (3 : Int32))), .val (.ref t20_)] [(.ref t20_)])
      obtain ⟨cq25_, kq25_, q25_a, q25_b, q25_c⟩ := isOf hZ18_ rfl r22_
      obtain ⟨_, _, ⟨T25_, L25_, k25_, n25_⟩, -, X25_, ⟨Lc25_, hQ25_, l25_, y25_, z25_⟩, st25_⟩ := X18_.virtualBack hx (y := (⟨"com/example/lease/lease/error/NoRouteException$PassedOver", "route", "()Ljava/lang/Object;"⟩ : MethodName)) (z := (⟨"com/example/lease/lease/error/NoRouteException$PassedOver", "route", "()Ljava/lang/Object;"⟩ : MethodName)) hown18_ (mvT hZ18_ (hw _ (List.mem_of_getElem? (i := 36) rfl))) (mvT hZ18_ (hw _ (List.mem_of_getElem? (i := 37) rfl))) (notFace_of_selects (args := #[]) (mvT hZ18_ (hw _ (List.mem_of_getElem? (i := 39) rfl)))) (mvT hZ18_ (hw _ (List.mem_of_getElem? (i := 39) rfl))) (mvT hZ18_ (hw _ (List.mem_of_getElem? (i := 38) rfl))) (by decide) (backOf (W := 0) (own_rm_route l Z a0 hw [] t20_ t16_ T18_.heap n0 (Nat.le_trans Z0 (Nat.le_trans K15_.1 K18_.1)) r23_) hZ18_ (hw _ (List.mem_of_getElem? (i := 40) rfl)) (hw _ (List.mem_of_getElem? (i := 10) rfl)) (by decide) (by decide)) q25_a q25_c (g := (mkF m 110 #[.val (.int p1), .val (.long q2), .second, .val (.int p3), .val (.ref t16_), .val (.int (p3 &&& (3 : Int32))), .val (.ref t20_)] [(.ref t20_)])) rfl (by rw [hml]; rfl) (Steps.refl _) (argsL := []) (rest := []) (lenOf own_pd11 rfl) rfl (by show 2 * 0 + _ ≤ _; exact Nat.le_of_eq rfl) (hb hby at_110) (fun _ _ => ⟨rfl, rfl, (by decide : 0 + 1 + 3 + 0 ≤ _), (by decide : 0 + 1 + 26 + 0 ≤ _)⟩)
      dsimp only [Pt.U, Pt.locs, Pt.cells, Pt.slots] at X25_ l25_ y25_ z25_ st25_ hQ25_
      subst l25_ y25_ z25_
      obtain ⟨rfl, Nq25_, hh25_⟩ := hQ25_
      have N25_ := Fr.app N18_ Nq25_
      refine own_viaH (fun _ k => st25_.trans k) ?_
      show own_FinH _ _ _ _ _ _ _ _ _ T25_ (mkF m 113 #[.val (.int p1), .val (.long q2), .second, .val (.int p3), .val (.ref t16_), .val (.int (p3 &&& (3 : Int32))), .val (.ref t20_)] [(.ref t16_)])
      refine own_viaH (fun _ k => XS.aload X25_.here hx rfl (hb hby at_113) rfl rfl k) ?_
      show own_FinH _ _ _ _ _ _ _ _ _ T25_ (mkF m 115 #[.val (.int p1), .val (.long q2), .second, .val (.int p3), .val (.ref t16_), .val (.int (p3 &&& (3 : Int32))), .val (.ref t20_)] [(.ref t16_), (.ref t16_)])
      refine own_viaH (fun _ k => Jvm.RoadKit.acmp (g := (mkF m 115 #[.val (.int p1), .val (.long q2), .second, .val (.int p3), .val (.ref t16_), .val (.int (p3 &&& (3 : Int32))), .val (.ref t20_)] [(.ref t16_), (.ref t16_)])) X25_ hx rfl rfl rfl (pc0 := 115) (pc' := 118) (same := true) rfl (hb hby at_115) rfl (decide_eq_true rfl) (by decide) (by decide) k) ?_
      show own_FinH _ _ _ _ _ _ _ _ _ T25_ (mkF m 118 #[.val (.int p1), .val (.long q2), .second, .val (.int p3), .val (.ref t16_), .val (.int (p3 &&& (3 : Int32))), .val (.ref t20_)] [])
      refine own_viaH (fun _ k => XS.aload X25_.here hx rfl (hb hby at_118) rfl rfl k) ?_
      show own_FinH _ _ _ _ _ _ _ _ _ T25_ (mkF m 120 #[.val (.int p1), .val (.long q2), .second, .val (.int p3), .val (.ref t16_), .val (.int (p3 &&& (3 : Int32))), .val (.ref t20_)] [(.ref t20_)])
      obtain ⟨cq26_, kq26_, q26_a, q26_b, q26_c⟩ := isOf hZ18_ hh25_ r22_
      obtain ⟨_, _, ⟨T26_, L26_, k26_, n26_⟩, -, X26_, ⟨Lc26_, hQ26_, l26_, y26_, z26_⟩, st26_⟩ := X25_.virtualBack hx (y := (⟨"com/example/lease/lease/error/NoRouteException$PassedOver", "isFull", "()Z"⟩ : MethodName)) (z := (⟨"com/example/lease/lease/error/NoRouteException$PassedOver", "isFull", "()Z"⟩ : MethodName)) hown18_ (mvT hZ18_ (hw _ (List.mem_of_getElem? (i := 41) rfl))) (mvT hZ18_ (hw _ (List.mem_of_getElem? (i := 42) rfl))) (notFace_of_selects (args := #[]) (mvT hZ18_ (hw _ (List.mem_of_getElem? (i := 44) rfl)))) (mvT hZ18_ (hw _ (List.mem_of_getElem? (i := 44) rfl))) (mvT hZ18_ (hw _ (List.mem_of_getElem? (i := 43) rfl))) (by decide) (backOf (W := 0) (own_rm_isFull l Z a0 hw [] t20_ T18_.heap n0 (Nat.le_trans Z0 (Nat.le_trans K15_.1 K18_.1)) r24_) hZ18_ (hw _ (List.mem_of_getElem? (i := 45) rfl)) (hw _ (List.mem_of_getElem? (i := 10) rfl)) (by decide) (by decide)) q26_a q26_c (g := (mkF m 120 #[.val (.int p1), .val (.long q2), .second, .val (.int p3), .val (.ref t16_), .val (.int (p3 &&& (3 : Int32))), .val (.ref t20_)] [(.ref t20_)])) rfl (by rw [hml]; rfl) (Steps.refl _) (argsL := []) (rest := []) (lenOf own_pd12 rfl) rfl (by show 2 * 0 + _ ≤ _; exact Nat.le_of_eq rfl) (hb hby at_120) (fun _ _ => ⟨rfl, hh25_, (by decide : 0 + 1 + 3 + 0 + 0 ≤ _), (by decide : 0 + 1 + 26 + 0 + 0 ≤ _)⟩)
      dsimp only [Pt.U, Pt.locs, Pt.cells, Pt.slots] at X26_ l26_ y26_ z26_ st26_ hQ26_
      subst l26_ y26_ z26_
      obtain ⟨rfl, Nq26_, hh26_⟩ := hQ26_
      have N26_ := Fr.app N25_ Nq26_
      refine own_viaH (fun _ k => st26_.trans k) ?_
      show own_FinH _ _ _ _ _ _ _ _ _ T26_ (mkF m 123 #[.val (.int p1), .val (.long q2), .second, .val (.int p3), .val (.ref t16_), .val (.int (p3 &&& (3 : Int32))), .val (.ref t20_)] [(.int (1 : Int32))])
      refine own_viaH (fun _ k => XS.ifNo X26_.here hx rfl (hb hby at_123) rfl ((if0 _ _).trans (feq (by decide)).1) k) ?_
      show own_FinH _ _ _ _ _ _ _ _ _ T26_ (mkF m 126 #[.val (.int p1), .val (.long q2), .second, .val (.int p3), .val (.ref t16_), .val (.int (p3 &&& (3 : Int32))), .val (.ref t20_)] [])
      refine own_viaH (fun _ k => XS.aload X26_.here hx rfl (hb hby at_126) rfl rfl k) ?_
      show own_FinH _ _ _ _ _ _ _ _ _ T26_ (mkF m 128 #[.val (.int p1), .val (.long q2), .second, .val (.int p3), .val (.ref t16_), .val (.int (p3 &&& (3 : Int32))), .val (.ref t20_)] [(.ref t20_)])
      obtain ⟨cq27_, kq27_, q27_a, q27_b, q27_c⟩ := isOf hZ18_ hh26_ r22_
      obtain ⟨_, _, ⟨T27_, L27_, k27_, n27_⟩, -, X27_, ⟨Lc27_, hQ27_, l27_, y27_, z27_⟩, st27_⟩ := X26_.virtualBack hx (y := (⟨"com/example/lease/lease/error/NoRouteException$PassedOver", "connectFailure", "()Lcom/example/lease/lease/error/ConnectFailedException;"⟩ : MethodName)) (z := (⟨"com/example/lease/lease/error/NoRouteException$PassedOver", "connectFailure", "()Lcom/example/lease/lease/error/ConnectFailedException;"⟩ : MethodName)) hown18_ (mvT hZ18_ (hw _ (List.mem_of_getElem? (i := 46) rfl))) (mvT hZ18_ (hw _ (List.mem_of_getElem? (i := 47) rfl))) (notFace_of_selects (args := #[]) (mvT hZ18_ (hw _ (List.mem_of_getElem? (i := 49) rfl)))) (mvT hZ18_ (hw _ (List.mem_of_getElem? (i := 49) rfl))) (mvT hZ18_ (hw _ (List.mem_of_getElem? (i := 48) rfl))) (by decide) (backOf (W := 0) (own_rm_connF l Z a0 hw [] t20_ T18_.heap n0 (Nat.le_trans Z0 (Nat.le_trans K15_.1 K18_.1)) r24_) hZ18_ (hw _ (List.mem_of_getElem? (i := 50) rfl)) (hw _ (List.mem_of_getElem? (i := 10) rfl)) (by decide) (by decide)) q27_a q27_c (g := (mkF m 128 #[.val (.int p1), .val (.long q2), .second, .val (.int p3), .val (.ref t16_), .val (.int (p3 &&& (3 : Int32))), .val (.ref t20_)] [(.ref t20_)])) rfl (by rw [hml]; rfl) (Steps.refl _) (argsL := []) (rest := []) (lenOf own_pd13 rfl) rfl (by show 2 * 0 + _ ≤ _; exact Nat.le_of_eq rfl) (hb hby at_128) (fun _ _ => ⟨rfl, hh26_, (by decide : 0 + 1 + 3 + 0 + 0 + 0 ≤ _), (by decide : 0 + 1 + 26 + 0 + 0 + 0 ≤ _)⟩)
      dsimp only [Pt.U, Pt.locs, Pt.cells, Pt.slots] at X27_ l27_ y27_ z27_ st27_ hQ27_
      subst l27_ y27_ z27_
      obtain ⟨rfl, Nq27_, hh27_⟩ := hQ27_
      have N27_ := Fr.app N26_ Nq27_
      refine own_viaH (fun _ k => st27_.trans k) ?_
      show own_FinH _ _ _ _ _ _ _ _ _ T27_ (mkF m 131 #[.val (.int p1), .val (.long q2), .second, .val (.int p3), .val (.ref t16_), .val (.int (p3 &&& (3 : Int32))), .val (.ref t20_)] [.null])
      refine own_viaH (fun _ k => XS.ifnonnullNo X27_.here hx rfl (hb hby at_131) rfl k) ?_
      show own_FinH _ _ _ _ _ _ _ _ _ T27_ (mkF m 134 #[.val (.int p1), .val (.long q2), .second, .val (.int p3), .val (.ref t16_), .val (.int (p3 &&& (3 : Int32))), .val (.ref t20_)] [])
      refine own_viaH (fun _ k => XS.iconst X27_.here hx rfl (hb hby at_134) k) ?_
      show own_FinH _ _ _ _ _ _ _ _ _ T27_ (mkF m 135 #[.val (.int p1), .val (.long q2), .second, .val (.int p3), .val (.ref t16_), .val (.int (p3 &&& (3 : Int32))), .val (.ref t20_)] [(.int (1 : Int32))])
      refine own_viaH (fun _ k => XS.goto X27_.here hx rfl (pc0 := 135) (pc' := 139) rfl (hb hby at_135) (by decide) (by decide) k) ?_
      show own_FinH _ _ _ _ _ _ _ _ _ T27_ (mkF m 139 #[.val (.int p1), .val (.long q2), .second, .val (.int p3), .val (.ref t16_), .val (.int (p3 &&& (3 : Int32))), .val (.ref t20_)] [(.int (1 : Int32))])
      have C28_ := C19_.trans Cq18_
      have H28_ := C28_.1
      exact own_retNH X27_ hx (t := .boolean) Bd.returns Bd.notSynchronized (own_ew hw) hZ18_ hS18_ (Nat.le_refl _) hh C28_ (by simp) (hb hby at_139) hh27_ rfl ⟨rfl, N27_⟩ (by decide) (by decide)
    · refine own_viaH (fun _ k => XS.icmpYes X0.here hx rfl (pc0 := 22) (pc' := 34) rfl (hb hby at_22) rfl (feq h1).2 (by decide) (by decide) k) ?_
      show own_FinH _ _ _ _ _ _ _ _ _ s₁ (mkF m 34 #[.val (.int p1), .val (.long q2), .second, .val (.int p3), .unset, .val (.int (p3 &&& (3 : Int32))), .unset] [])
      refine own_viaH (fun _ k => XS.iload X0.here hx rfl (hb hby at_34) rfl k) ?_
      show own_FinH _ _ _ _ _ _ _ _ _ s₁ (mkF m 36 #[.val (.int p1), .val (.long q2), .second, .val (.int p3), .unset, .val (.int (p3 &&& (3 : Int32))), .unset] [(.int (p3 &&& (3 : Int32)))])
      refine own_viaH (fun _ k => XS.iconst X0.here hx rfl (hb hby at_36) k) ?_
      show own_FinH _ _ _ _ _ _ _ _ _ s₁ (mkF m 37 #[.val (.int p1), .val (.long q2), .second, .val (.int p3), .unset, .val (.int (p3 &&& (3 : Int32))), .unset] [(.int (2 : Int32)), (.int (p3 &&& (3 : Int32)))])
      rcases Classical.em ((p3 &&& (3 : Int32)) = (2 : Int32)) with h2 | h2
      · refine own_viaH (fun _ k => XS.icmpNo X0.here hx rfl (hb hby at_37) rfl (teq h2).2 k) ?_
        show own_FinH _ _ _ _ _ _ _ _ _ s₁ (mkF m 40 #[.val (.int p1), .val (.long q2), .second, .val (.int p3), .unset, .val (.int (p3 &&& (3 : Int32))), .unset] [])
        refine own_viaH (fun _ k => XS.iconst X0.here hx rfl (hb hby at_40) k) ?_
        show own_FinH _ _ _ _ _ _ _ _ _ s₁ (mkF m 41 #[.val (.int p1), .val (.long q2), .second, .val (.int p3), .unset, .val (.int (p3 &&& (3 : Int32))), .unset] [(.int (2 : Int32))])
        obtain ⟨T29_, h29_, k29_, X29_, e29_, E29_, A29_, st29_⟩ := newP X0 hx hZ (hw _ (List.mem_of_getElem? (i := 51) rfl)) e0 (g := (mkF m 41 #[.val (.int p1), .val (.long q2), .second, .val (.int p3), .unset, .val (.int (p3 &&& (3 : Int32))), .unset] [(.int (2 : Int32))])) rfl (hb hby at_41) rfl (by decide) (cap := 2) (by decide) (by decide) (by decide) (by decide)
        obtain ⟨b29_, g29_⟩ : ∃ z, z = h0.size := ⟨_, rfl⟩
        rw [← g29_] at A29_ st29_
        have V29_ : Arv Z h29_ b29_ k29_ .char (2 : Int32) [(.int (0 : Int32)), (.int (0 : Int32))] (.int (0 : Int32)) := (Arv.new A29_ (by decide)).pad (pad_rep [] (.int (0 : Int32)) 2)
        refine own_viaH (fun _ k => st29_ _ k) ?_
        show own_FinH _ _ _ _ _ _ _ _ _ T29_ (mkF m 43 #[.val (.int p1), .val (.long q2), .second, .val (.int p3), .unset, .val (.int (p3 &&& (3 : Int32))), .unset] [(.ref b29_)])
        refine own_viaH (fun _ k => XS.dup X29_.here hx rfl (hb hby at_43) rfl rfl k) ?_
        show own_FinH _ _ _ _ _ _ _ _ _ T29_ (mkF m 44 #[.val (.int p1), .val (.long q2), .second, .val (.int p3), .unset, .val (.int (p3 &&& (3 : Int32))), .unset] [(.ref b29_), (.ref b29_)])
        refine own_viaH (fun _ k => XS.iconst X29_.here hx rfl (hb hby at_44) k) ?_
        show own_FinH _ _ _ _ _ _ _ _ _ T29_ (mkF m 45 #[.val (.int p1), .val (.long q2), .second, .val (.int p3), .unset, .val (.int (p3 &&& (3 : Int32))), .unset] [(.int (0 : Int32)), (.ref b29_), (.ref b29_)])
        refine own_viaH (fun _ k => XS.iloadN X29_.here hx rfl (hb hby at_45) rfl k) ?_
        show own_FinH _ _ _ _ _ _ _ _ _ T29_ (mkF m 46 #[.val (.int p1), .val (.long q2), .second, .val (.int p3), .unset, .val (.int (p3 &&& (3 : Int32))), .unset] [(.int p1), (.int (0 : Int32)), (.ref b29_), (.ref b29_)])
        refine own_viaH (fun _ k => XS.sipush X29_.here hx rfl (hb hby at_46) k) ?_
        show own_FinH _ _ _ _ _ _ _ _ _ T29_ (mkF m 49 #[.val (.int p1), .val (.long q2), .second, .val (.int p3), .unset, .val (.int (p3 &&& (3 : Int32))), .unset] [(.int (255 : Int32)), (.int p1), (.int (0 : Int32)), (.ref b29_), (.ref b29_)])
        refine own_viaH (fun _ k => XS.iand X29_.here hx rfl (hb hby at_49) rfl k) ?_
        show own_FinH _ _ _ _ _ _ _ _ _ T29_ (mkF m 50 #[.val (.int p1), .val (.long q2), .second, .val (.int p3), .unset, .val (.int (p3 &&& (3 : Int32))), .unset] [(.int (p1 &&& (255 : Int32))), (.int (0 : Int32)), (.ref b29_), (.ref b29_)])
        refine own_viaH (fun _ k => XS.i2c X29_.here hx rfl (hb hby at_50) rfl k) ?_
        show own_FinH _ _ _ _ _ _ _ _ _ T29_ (mkF m 51 #[.val (.int p1), .val (.long q2), .second, .val (.int p3), .unset, .val (.int (p3 &&& (3 : Int32))), .unset] [(.int ((p1 &&& (255 : Int32)).toUInt32.toUInt16.toUInt32.toInt32)), (.int (0 : Int32)), (.ref b29_), (.ref b29_)])
        obtain ⟨c30_, Ar30_, q30_, S30_, M30_, H30_, G30_⟩ := (id V29_)
        have hin30_ : ¬ ((0 : Int32) < 0 ∨ c30_.slots.size ≤ ((0 : Int32)).toNatClampNeg) := inb_of S30_ ⟨by decide, by decide⟩
        obtain ⟨T30_, h30_, X30_, e30_, W30_, st30_⟩ := stC X29_ hx hZ e29_ Ar30_ (j := (0 : Int32)) hin30_ (g := (mkF m 51 #[.val (.int p1), .val (.long q2), .second, .val (.int p3), .unset, .val (.int (p3 &&& (3 : Int32))), .unset] [(.int ((p1 &&& (255 : Int32)).toUInt32.toUInt16.toUInt32.toInt32)), (.int (0 : Int32)), (.ref b29_), (.ref b29_)])) rfl rfl (hb hby at_51)
        have V30_ := Arv.set Ar30_ q30_ S30_ M30_ H30_ G30_ (fits_nar_char _) W30_ 0 rfl (Nat.le_of_ble_eq_true rfl)
        have U30_ : Arv Z h30_ b29_ k29_ .char (2 : Int32) ([(.int (p1 &&& (255 : Int32))), (.int (0 : Int32))]) (.int (0 : Int32)) := by
          have hq := V30_
          rw [show nar .char ((p1 &&& (255 : Int32)).toUInt32.toUInt16.toUInt32.toInt32) = (p1 &&& (255 : Int32)) from (own_dbl _)] at hq
          exact hq
        have g31_ : n0 ≤ b29_ := Nat.le_trans Z0 (Nat.le_of_eq g29_.symm)
        have N30_ := Fr.snoc X30_ N0 g31_
        refine own_viaH (fun _ k => st30_ _ k) ?_
        show own_FinH _ _ _ _ _ _ _ _ _ T30_ (mkF m 52 #[.val (.int p1), .val (.long q2), .second, .val (.int p3), .unset, .val (.int (p3 &&& (3 : Int32))), .unset] [(.ref b29_)])
        refine own_viaH (fun _ k => XS.dup X30_.here hx rfl (hb hby at_52) rfl rfl k) ?_
        show own_FinH _ _ _ _ _ _ _ _ _ T30_ (mkF m 53 #[.val (.int p1), .val (.long q2), .second, .val (.int p3), .unset, .val (.int (p3 &&& (3 : Int32))), .unset] [(.ref b29_), (.ref b29_)])
        refine own_viaH (fun _ k => XS.iconst X30_.here hx rfl (hb hby at_53) k) ?_
        show own_FinH _ _ _ _ _ _ _ _ _ T30_ (mkF m 54 #[.val (.int p1), .val (.long q2), .second, .val (.int p3), .unset, .val (.int (p3 &&& (3 : Int32))), .unset] [(.int (1 : Int32)), (.ref b29_), (.ref b29_)])
        refine own_viaH (fun _ k => XS.lloadN X30_.here hx rfl (hb hby at_54) rfl k) ?_
        show own_FinH _ _ _ _ _ _ _ _ _ T30_ (mkF m 55 #[.val (.int p1), .val (.long q2), .second, .val (.int p3), .unset, .val (.int (p3 &&& (3 : Int32))), .unset] [(.long q2), (.int (1 : Int32)), (.ref b29_), (.ref b29_)])
        refine own_viaH (fun _ k => X30_.ldc2Long hx hown (mvT hZ (hw _ (List.mem_of_getElem? (i := 52) rfl))) (g := (mkF m 55 #[.val (.int p1), .val (.long q2), .second, .val (.int p3), .unset, .val (.int (p3 &&& (3 : Int32))), .unset] [(.long q2), (.int (1 : Int32)), (.ref b29_), (.ref b29_)])) rfl (hb hby at_55) _ k) ?_
        show own_FinH _ _ _ _ _ _ _ _ _ T30_ (mkF m 58 #[.val (.int p1), .val (.long q2), .second, .val (.int p3), .unset, .val (.int (p3 &&& (3 : Int32))), .unset] [(.long (255 : Int64)), (.long q2), (.int (1 : Int32)), (.ref b29_), (.ref b29_)])
        refine own_viaH (fun _ k => XS.land X30_.here hx rfl (hb hby at_58) rfl k) ?_
        show own_FinH _ _ _ _ _ _ _ _ _ T30_ (mkF m 59 #[.val (.int p1), .val (.long q2), .second, .val (.int p3), .unset, .val (.int (p3 &&& (3 : Int32))), .unset] [(.long (q2 &&& (255 : Int64))), (.int (1 : Int32)), (.ref b29_), (.ref b29_)])
        refine own_viaH (fun _ k => XS.l2i X30_.here hx rfl (hb hby at_59) rfl k) ?_
        show own_FinH _ _ _ _ _ _ _ _ _ T30_ (mkF m 60 #[.val (.int p1), .val (.long q2), .second, .val (.int p3), .unset, .val (.int (p3 &&& (3 : Int32))), .unset] [(.int ((q2 &&& (255 : Int64)).toInt32)), (.int (1 : Int32)), (.ref b29_), (.ref b29_)])
        refine own_viaH (fun _ k => XS.i2c X30_.here hx rfl (hb hby at_60) rfl k) ?_
        show own_FinH _ _ _ _ _ _ _ _ _ T30_ (mkF m 61 #[.val (.int p1), .val (.long q2), .second, .val (.int p3), .unset, .val (.int (p3 &&& (3 : Int32))), .unset] [(.int (((q2 &&& (255 : Int64)).toInt32).toUInt32.toUInt16.toUInt32.toInt32)), (.int (1 : Int32)), (.ref b29_), (.ref b29_)])
        obtain ⟨c32_, Ar32_, q32_, S32_, M32_, H32_, G32_⟩ := (id U30_)
        have hin32_ : ¬ ((1 : Int32) < 0 ∨ c32_.slots.size ≤ ((1 : Int32)).toNatClampNeg) := inb_of S32_ ⟨by decide, by decide⟩
        obtain ⟨T32_, h32_, X32_, e32_, W32_, st32_⟩ := stC X30_ hx hZ e30_ Ar32_ (j := (1 : Int32)) hin32_ (g := (mkF m 61 #[.val (.int p1), .val (.long q2), .second, .val (.int p3), .unset, .val (.int (p3 &&& (3 : Int32))), .unset] [(.int (((q2 &&& (255 : Int64)).toInt32).toUInt32.toUInt16.toUInt32.toInt32)), (.int (1 : Int32)), (.ref b29_), (.ref b29_)])) rfl rfl (hb hby at_61)
        have V32_ := Arv.set Ar32_ q32_ S32_ M32_ H32_ G32_ (fits_nar_char _) W32_ 1 rfl (Nat.le_of_ble_eq_true rfl)
        have U32_ : Arv Z h32_ b29_ k29_ .char (2 : Int32) ([(.int (p1 &&& (255 : Int32))), (.int (q2 &&& (255 : Int64)).toInt32)]) (.int (0 : Int32)) := by
          have hq := V32_
          rw [show nar .char (((q2 &&& (255 : Int64)).toInt32).toUInt32.toUInt16.toUInt32.toInt32) = (q2 &&& (255 : Int64)).toInt32 from (own_dblL _)] at hq
          exact hq
        have N32_ := Fr.snoc X32_ N30_ g31_
        refine own_viaH (fun _ k => st32_ _ k) ?_
        show own_FinH _ _ _ _ _ _ _ _ _ T32_ (mkF m 62 #[.val (.int p1), .val (.long q2), .second, .val (.int p3), .unset, .val (.int (p3 &&& (3 : Int32))), .unset] [(.ref b29_)])
        refine own_viaH (fun _ k => XS.astore X32_.here hx rfl (hb hby at_62) rfl rfl (l' := #[.val (.int p1), .val (.long q2), .second, .val (.int p3), .unset, .val (.int (p3 &&& (3 : Int32))), .val (.ref b29_)]) rfl k) ?_
        show own_FinH _ _ _ _ _ _ _ _ _ T32_ (mkF m 64 #[.val (.int p1), .val (.long q2), .second, .val (.int p3), .unset, .val (.int (p3 &&& (3 : Int32))), .val (.ref b29_)] [])
        obtain ⟨T33_, h33_, X33_, e33_, E33_, A33_, D33_, -, st33_⟩ := newO X32_ hx hZ hown (hw _ (List.mem_of_getElem? (i := 53) rfl)) (hw _ (List.mem_of_getElem? (i := 16) rfl)) (hw _ (List.mem_of_getElem? (i := 15) rfl)) e32_ (g := (mkF m 64 #[.val (.int p1), .val (.long q2), .second, .val (.int p3), .unset, .val (.int (p3 &&& (3 : Int32))), .val (.ref b29_)] [])) rfl (hb hby at_64) (by decide) (by decide)
        obtain ⟨b33_, g33_⟩ : ∃ z, z = h32_.size := ⟨_, rfl⟩
        rw [← g33_] at A33_ D33_ st33_
        have F34_ : Fld Z h33_ b33_ "java/lang/String" "value" "[B" .null := D33_ (Or.inr (hw _ (List.mem_of_getElem? (i := 18) rfl))) (ty := (.array .byte)) (by decide)
        have F35_ : Fld Z h33_ b33_ "java/lang/String" "coder" "B" (.int (0 : Int32)) := D33_ (Or.inr (hw _ (List.mem_of_getElem? (i := 19) rfl))) (ty := .byte) (by decide)
        refine own_viaH (fun _ k => st33_ _ k) ?_
        show own_FinH _ _ _ _ _ _ _ _ _ T33_ (mkF m 67 #[.val (.int p1), .val (.long q2), .second, .val (.int p3), .unset, .val (.int (p3 &&& (3 : Int32))), .val (.ref b29_)] [(.ref b33_)])
        refine own_viaH (fun _ k => XS.dup X33_.here hx rfl (hb hby at_67) rfl rfl k) ?_
        show own_FinH _ _ _ _ _ _ _ _ _ T33_ (mkF m 68 #[.val (.int p1), .val (.long q2), .second, .val (.int p3), .unset, .val (.int (p3 &&& (3 : Int32))), .val (.ref b29_)] [(.ref b33_), (.ref b33_)])
        refine own_viaH (fun _ k => XS.aload X33_.here hx rfl (hb hby at_68) rfl rfl k) ?_
        show own_FinH _ _ _ _ _ _ _ _ _ T33_ (mkF m 70 #[.val (.int p1), .val (.long q2), .second, .val (.int p3), .unset, .val (.int (p3 &&& (3 : Int32))), .val (.ref b29_)] [(.ref b29_), (.ref b33_), (.ref b33_)])
        have g37_ : n0 ≤ b33_ := Nat.le_trans (Nat.le_trans Z0 (Nat.le_trans (Nat.le_trans E29_.1 (Keep.of_wr W30_).1) (Keep.of_wr W32_).1)) (Nat.le_of_eq g33_.symm)
        obtain ⟨_, _, ⟨T36_, L36_, k36_, n36_⟩, -, X36_, ⟨Lc36_, hQ36_, l36_, y36_, z36_⟩, st36_⟩ := X33_.specialBack hx (y := (⟨"java/lang/String", "<init>", "([C)V"⟩ : MethodName)) rfl hown (mvT hZ (hw _ (List.mem_of_getElem? (i := 54) rfl))) (mvT hZ (hw _ (List.mem_of_getElem? (i := 55) rfl))) (mvT hZ (hw _ (List.mem_of_getElem? (i := 56) rfl))) (by decide) (StrChars.Road.backV (W := 1) hZ own_hws (kI := 4) (hw _ (List.mem_of_getElem? (i := 16) rfl)) (cs := ([(p1 &&& (255 : Int32)), (q2 &&& (255 : Int64)).toInt32] : List Int32)) (bs := ([(p1 &&& (255 : Int32)), (q2 &&& (255 : Int64)).toInt32] : List Int32).map (fun c => c.toInt8.toInt32)) (n := 2) g37_ (Nat.le_trans Z0 (Nat.le_trans (Nat.le_trans (Nat.le_trans E29_.1 (Keep.of_wr W30_).1) (Keep.of_wr W32_).1) E33_.1)) A33_ F34_ F35_ (U32_.ext E33_) (S1.ext ((((O0.ext E29_).wr W30_ g31_).wr W32_ g31_).ext E33_).2) P5 rfl rfl (by decide) (by decide) (own_two _ _) rfl (by decide) (by decide)) (g := (mkF m 70 #[.val (.int p1), .val (.long q2), .second, .val (.int p3), .unset, .val (.int (p3 &&& (3 : Int32))), .val (.ref b29_)] [(.ref b29_), (.ref b33_), (.ref b33_)])) rfl (by rw [hml]; rfl) (Steps.refl _) (a := b33_) (argsL := [(.ref b29_)]) (rest := [(.ref b33_)]) (lenOf own_pd15 rfl) rfl (by show 2 * 0 + _ ≤ _; exact Nat.le_of_eq rfl) (hb hby at_70) (fun _ _ => ⟨rfl, e33_, (by decide : 0 + 1 + 1 + 1 ≤ _), (by decide : 0 + 2 + 4 + 2 ≤ _)⟩)
        dsimp only [Pt.U, Pt.locs, Pt.cells, Pt.slots] at X36_ l36_ y36_ z36_ st36_ hQ36_
        subst l36_ y36_ z36_
        obtain ⟨rfl, Nq36_, K36_, r40_, r41_, t38_, kb39_, r42_, r43_, r44_, r45_, r46_⟩ := hQ36_
        have N36_ := Fr.app N32_ Nq36_
        refine own_viaH (fun _ k => st36_.trans k) ?_
        show own_FinH _ _ _ _ _ _ _ _ _ T36_ (mkF m 73 #[.val (.int p1), .val (.long q2), .second, .val (.int p3), .unset, .val (.int (p3 &&& (3 : Int32))), .val (.ref b29_)] [(.ref b33_)])
        refine own_viaH (fun _ k => XS.astore X36_.here hx rfl (hb hby at_73) rfl rfl (l' := #[.val (.int p1), .val (.long q2), .second, .val (.int p3), .val (.ref b33_), .val (.int (p3 &&& (3 : Int32))), .val (.ref b29_)]) rfl k) ?_
        show own_FinH _ _ _ _ _ _ _ _ _ T36_ (mkF m 75 #[.val (.int p1), .val (.long q2), .second, .val (.int p3), .val (.ref b33_), .val (.int (p3 &&& (3 : Int32))), .val (.ref b29_)] [])
        refine own_viaH (fun _ k => XS.goto X36_.here hx rfl (pc0 := 75) (pc' := 101) rfl (hb hby at_75) (by decide) (by decide) k) ?_
        show own_FinH _ _ _ _ _ _ _ _ _ T36_ (mkF m 101 #[.val (.int p1), .val (.long q2), .second, .val (.int p3), .val (.ref b33_), .val (.int (p3 &&& (3 : Int32))), .val (.ref b29_)] [])
        refine own_viaH (fun _ k => XS.aload X36_.here hx rfl (hb hby at_101) rfl rfl k) ?_
        show own_FinH _ _ _ _ _ _ _ _ _ T36_ (mkF m 103 #[.val (.int p1), .val (.long q2), .second, .val (.int p3), .val (.ref b33_), .val (.int (p3 &&& (3 : Int32))), .val (.ref b29_)] [(.ref b33_)])
        have C48_ := C0.trans (CHr.ext E29_ H0)
        have H48_ := C48_.1
        have sf50_ : Safe Z own_EL s.vm h0 b29_ := Safe.new (Nat.le_of_eq g29_.symm)
        have sf51_ : Safe Z own_EL s.vm h29_ b29_ := Safe.ext E29_ H0 sf50_
        have C49_ := C48_.trans (CHr.wr W30_ sf51_ H48_)
        have H49_ := C49_.1
        have sf53_ : Safe Z own_EL s.vm h29_ b29_ := Safe.ext E29_ H0 sf50_
        have sf54_ : Safe Z own_EL s.vm h30_ b29_ := Safe.wr W30_ sf53_ H48_ sf53_
        have C52_ := C49_.trans (CHr.wr W32_ sf54_ H49_)
        have H52_ := C52_.1
        have C55_ := C52_.trans (CHr.ext E33_ H52_)
        have H55_ := C55_.1
        have sf57_ : Safe Z own_EL s.vm h32_ b33_ := Safe.new (Nat.le_of_eq g33_.symm)
        have sf58_ : Safe Z own_EL s.vm h33_ b33_ := Safe.ext E33_ H52_ sf57_
        have C56_ := C55_.trans (CHr.keep K36_ (sfS sf58_ sf0) H55_)
        have H56_ := C56_.1
        obtain ⟨_, _, ⟨T47_, L47_, k47_, n47_⟩, -, Y47_, hSq47_, hgq47_, ⟨Lc47_, hQ47_, l47_, y47_, z47_, Cq47_⟩, st47_⟩ := callSS X36_ hx (y := (⟨"com/example/lease/lease/error/NoRouteException$PassedOver", "full", "(Ljava/lang/Object;)Lcom/example/lease/lease/error/NoRouteException$PassedOver;"⟩ : MethodName)) hown (mvT hZ (hw _ (List.mem_of_getElem? (i := 8) rfl))) (mvT hZ (hw _ (List.mem_of_getElem? (i := 9) rfl))) (mvT hZ (hw _ (List.mem_of_getElem? (i := 10) rfl))) (mvT hZ (hw _ (List.mem_of_getElem? (i := 11) rfl))) (by decide) (backOfSH (s := s) (vm0 := s.vm) (W := 0) (own_rm_full l Z a0 hw [] b33_ T36_.heap n0 (Nat.le_trans Z0 (Nat.le_trans (Nat.le_trans (Nat.le_trans (Nat.le_trans E29_.1 (Keep.of_wr W30_).1) (Keep.of_wr W32_).1) E33_.1) K36_.1)) ) hZ (hw _ (List.mem_of_getElem? (i := 11) rfl)) (hw _ (List.mem_of_getElem? (i := 10) rfl)) (by decide) (by decide) (own_ew hw) H56_) (g := (mkF m 103 #[.val (.int p1), .val (.long q2), .second, .val (.int p3), .val (.ref b33_), .val (.int (p3 &&& (3 : Int32))), .val (.ref b29_)] [(.ref b33_)])) rfl (by rw [hml]; rfl) (argsL := [(.ref b33_)]) (rest := []) (lenOf own_pd10 rfl) rfl (by show 2 * 0 + _ ≤ _; exact Nat.le_of_eq rfl) (hb hby at_103) (fun _ _ => ⟨rfl, rfl, (by decide : 0 + 1 + 1 + 1 + 3 ≤ _), (by decide : 0 + 2 + 4 + 2 + 26 ≤ _)⟩)
        dsimp only [Pt.U, Pt.locs, Pt.cells, Pt.slots] at Y47_ l47_ y47_ z47_ st47_ hQ47_ hSq47_ hgq47_ Cq47_
        subst l47_ y47_ z47_
        obtain ⟨X47_, hS47_, hZ47_, hown47_⟩ := rebS hS0 ((Nat.le_trans hk0 (Nat.le_trans (Nat.le_trans (Nat.le_trans (Nat.le_trans E29_.1 (Keep.of_wr W30_).1) (Keep.of_wr W32_).1) E33_.1) K36_.1))) Y47_ hSq47_ hgq47_ hZ hown
        obtain ⟨t59_, rfl, Nq47_, K47_, r60_, r61_, r62_, r63_⟩ := hQ47_
        have N47_ := Fr.app N36_ Nq47_
        refine own_viaH (fun _ k => st47_.trans k) ?_
        show own_FinH _ _ _ _ _ _ _ _ _ T47_ (mkF m 106 #[.val (.int p1), .val (.long q2), .second, .val (.int p3), .val (.ref b33_), .val (.int (p3 &&& (3 : Int32))), .val (.ref b29_)] [(.ref t59_)])
        refine own_viaH (fun _ k => XS.astore X47_.here hx rfl (hb hby at_106) rfl rfl (l' := #[.val (.int p1), .val (.long q2), .second, .val (.int p3), .val (.ref b33_), .val (.int (p3 &&& (3 : Int32))), .val (.ref t59_)]) rfl k) ?_
        show own_FinH _ _ _ _ _ _ _ _ _ T47_ (mkF m 108 #[.val (.int p1), .val (.long q2), .second, .val (.int p3), .val (.ref b33_), .val (.int (p3 &&& (3 : Int32))), .val (.ref t59_)] [])
        refine own_viaH (fun _ k => XS.aload X47_.here hx rfl (hb hby at_108) rfl rfl k) ?_
        show own_FinH _ _ _ _ _ _ _ _ _ T47_ (mkF m 110 #[.val (.int p1), .val (.long q2), .second, .val (.int p3), .val (.ref b33_), .val (.int (p3 &&& (3 : Int32))), .val (.ref t59_)] [(.ref t59_)])
        obtain ⟨cq64_, kq64_, q64_a, q64_b, q64_c⟩ := isOf hZ47_ rfl r61_
        obtain ⟨_, _, ⟨T64_, L64_, k64_, n64_⟩, -, X64_, ⟨Lc64_, hQ64_, l64_, y64_, z64_⟩, st64_⟩ := X47_.virtualBack hx (y := (⟨"com/example/lease/lease/error/NoRouteException$PassedOver", "route", "()Ljava/lang/Object;"⟩ : MethodName)) (z := (⟨"com/example/lease/lease/error/NoRouteException$PassedOver", "route", "()Ljava/lang/Object;"⟩ : MethodName)) hown47_ (mvT hZ47_ (hw _ (List.mem_of_getElem? (i := 36) rfl))) (mvT hZ47_ (hw _ (List.mem_of_getElem? (i := 37) rfl))) (notFace_of_selects (args := #[]) (mvT hZ47_ (hw _ (List.mem_of_getElem? (i := 39) rfl)))) (mvT hZ47_ (hw _ (List.mem_of_getElem? (i := 39) rfl))) (mvT hZ47_ (hw _ (List.mem_of_getElem? (i := 38) rfl))) (by decide) (backOf (W := 0) (own_rm_route l Z a0 hw [] t59_ b33_ T47_.heap n0 (Nat.le_trans Z0 (Nat.le_trans (Nat.le_trans (Nat.le_trans (Nat.le_trans (Nat.le_trans E29_.1 (Keep.of_wr W30_).1) (Keep.of_wr W32_).1) E33_.1) K36_.1) K47_.1)) r62_) hZ47_ (hw _ (List.mem_of_getElem? (i := 40) rfl)) (hw _ (List.mem_of_getElem? (i := 10) rfl)) (by decide) (by decide)) q64_a q64_c (g := (mkF m 110 #[.val (.int p1), .val (.long q2), .second, .val (.int p3), .val (.ref b33_), .val (.int (p3 &&& (3 : Int32))), .val (.ref t59_)] [(.ref t59_)])) rfl (by rw [hml]; rfl) (Steps.refl _) (argsL := []) (rest := []) (lenOf own_pd11 rfl) rfl (by show 2 * 0 + _ ≤ _; exact Nat.le_of_eq rfl) (hb hby at_110) (fun _ _ => ⟨rfl, rfl, (by decide : 0 + 1 + 1 + 1 + 3 + 0 ≤ _), (by decide : 0 + 2 + 4 + 2 + 26 + 0 ≤ _)⟩)
        dsimp only [Pt.U, Pt.locs, Pt.cells, Pt.slots] at X64_ l64_ y64_ z64_ st64_ hQ64_
        subst l64_ y64_ z64_
        obtain ⟨rfl, Nq64_, hh64_⟩ := hQ64_
        have N64_ := Fr.app N47_ Nq64_
        refine own_viaH (fun _ k => st64_.trans k) ?_
        show own_FinH _ _ _ _ _ _ _ _ _ T64_ (mkF m 113 #[.val (.int p1), .val (.long q2), .second, .val (.int p3), .val (.ref b33_), .val (.int (p3 &&& (3 : Int32))), .val (.ref t59_)] [(.ref b33_)])
        refine own_viaH (fun _ k => XS.aload X64_.here hx rfl (hb hby at_113) rfl rfl k) ?_
        show own_FinH _ _ _ _ _ _ _ _ _ T64_ (mkF m 115 #[.val (.int p1), .val (.long q2), .second, .val (.int p3), .val (.ref b33_), .val (.int (p3 &&& (3 : Int32))), .val (.ref t59_)] [(.ref b33_), (.ref b33_)])
        refine own_viaH (fun _ k => Jvm.RoadKit.acmp (g := (mkF m 115 #[.val (.int p1), .val (.long q2), .second, .val (.int p3), .val (.ref b33_), .val (.int (p3 &&& (3 : Int32))), .val (.ref t59_)] [(.ref b33_), (.ref b33_)])) X64_ hx rfl rfl rfl (pc0 := 115) (pc' := 118) (same := true) rfl (hb hby at_115) rfl (decide_eq_true rfl) (by decide) (by decide) k) ?_
        show own_FinH _ _ _ _ _ _ _ _ _ T64_ (mkF m 118 #[.val (.int p1), .val (.long q2), .second, .val (.int p3), .val (.ref b33_), .val (.int (p3 &&& (3 : Int32))), .val (.ref t59_)] [])
        refine own_viaH (fun _ k => XS.aload X64_.here hx rfl (hb hby at_118) rfl rfl k) ?_
        show own_FinH _ _ _ _ _ _ _ _ _ T64_ (mkF m 120 #[.val (.int p1), .val (.long q2), .second, .val (.int p3), .val (.ref b33_), .val (.int (p3 &&& (3 : Int32))), .val (.ref t59_)] [(.ref t59_)])
        obtain ⟨cq65_, kq65_, q65_a, q65_b, q65_c⟩ := isOf hZ47_ hh64_ r61_
        obtain ⟨_, _, ⟨T65_, L65_, k65_, n65_⟩, -, X65_, ⟨Lc65_, hQ65_, l65_, y65_, z65_⟩, st65_⟩ := X64_.virtualBack hx (y := (⟨"com/example/lease/lease/error/NoRouteException$PassedOver", "isFull", "()Z"⟩ : MethodName)) (z := (⟨"com/example/lease/lease/error/NoRouteException$PassedOver", "isFull", "()Z"⟩ : MethodName)) hown47_ (mvT hZ47_ (hw _ (List.mem_of_getElem? (i := 41) rfl))) (mvT hZ47_ (hw _ (List.mem_of_getElem? (i := 42) rfl))) (notFace_of_selects (args := #[]) (mvT hZ47_ (hw _ (List.mem_of_getElem? (i := 44) rfl)))) (mvT hZ47_ (hw _ (List.mem_of_getElem? (i := 44) rfl))) (mvT hZ47_ (hw _ (List.mem_of_getElem? (i := 43) rfl))) (by decide) (backOf (W := 0) (own_rm_isFull l Z a0 hw [] t59_ T47_.heap n0 (Nat.le_trans Z0 (Nat.le_trans (Nat.le_trans (Nat.le_trans (Nat.le_trans (Nat.le_trans E29_.1 (Keep.of_wr W30_).1) (Keep.of_wr W32_).1) E33_.1) K36_.1) K47_.1)) r63_) hZ47_ (hw _ (List.mem_of_getElem? (i := 45) rfl)) (hw _ (List.mem_of_getElem? (i := 10) rfl)) (by decide) (by decide)) q65_a q65_c (g := (mkF m 120 #[.val (.int p1), .val (.long q2), .second, .val (.int p3), .val (.ref b33_), .val (.int (p3 &&& (3 : Int32))), .val (.ref t59_)] [(.ref t59_)])) rfl (by rw [hml]; rfl) (Steps.refl _) (argsL := []) (rest := []) (lenOf own_pd12 rfl) rfl (by show 2 * 0 + _ ≤ _; exact Nat.le_of_eq rfl) (hb hby at_120) (fun _ _ => ⟨rfl, hh64_, (by decide : 0 + 1 + 1 + 1 + 3 + 0 + 0 ≤ _), (by decide : 0 + 2 + 4 + 2 + 26 + 0 + 0 ≤ _)⟩)
        dsimp only [Pt.U, Pt.locs, Pt.cells, Pt.slots] at X65_ l65_ y65_ z65_ st65_ hQ65_
        subst l65_ y65_ z65_
        obtain ⟨rfl, Nq65_, hh65_⟩ := hQ65_
        have N65_ := Fr.app N64_ Nq65_
        refine own_viaH (fun _ k => st65_.trans k) ?_
        show own_FinH _ _ _ _ _ _ _ _ _ T65_ (mkF m 123 #[.val (.int p1), .val (.long q2), .second, .val (.int p3), .val (.ref b33_), .val (.int (p3 &&& (3 : Int32))), .val (.ref t59_)] [(.int (1 : Int32))])
        refine own_viaH (fun _ k => XS.ifNo X65_.here hx rfl (hb hby at_123) rfl ((if0 _ _).trans (feq (by decide)).1) k) ?_
        show own_FinH _ _ _ _ _ _ _ _ _ T65_ (mkF m 126 #[.val (.int p1), .val (.long q2), .second, .val (.int p3), .val (.ref b33_), .val (.int (p3 &&& (3 : Int32))), .val (.ref t59_)] [])
        refine own_viaH (fun _ k => XS.aload X65_.here hx rfl (hb hby at_126) rfl rfl k) ?_
        show own_FinH _ _ _ _ _ _ _ _ _ T65_ (mkF m 128 #[.val (.int p1), .val (.long q2), .second, .val (.int p3), .val (.ref b33_), .val (.int (p3 &&& (3 : Int32))), .val (.ref t59_)] [(.ref t59_)])
        obtain ⟨cq66_, kq66_, q66_a, q66_b, q66_c⟩ := isOf hZ47_ hh65_ r61_
        obtain ⟨_, _, ⟨T66_, L66_, k66_, n66_⟩, -, X66_, ⟨Lc66_, hQ66_, l66_, y66_, z66_⟩, st66_⟩ := X65_.virtualBack hx (y := (⟨"com/example/lease/lease/error/NoRouteException$PassedOver", "connectFailure", "()Lcom/example/lease/lease/error/ConnectFailedException;"⟩ : MethodName)) (z := (⟨"com/example/lease/lease/error/NoRouteException$PassedOver", "connectFailure", "()Lcom/example/lease/lease/error/ConnectFailedException;"⟩ : MethodName)) hown47_ (mvT hZ47_ (hw _ (List.mem_of_getElem? (i := 46) rfl))) (mvT hZ47_ (hw _ (List.mem_of_getElem? (i := 47) rfl))) (notFace_of_selects (args := #[]) (mvT hZ47_ (hw _ (List.mem_of_getElem? (i := 49) rfl)))) (mvT hZ47_ (hw _ (List.mem_of_getElem? (i := 49) rfl))) (mvT hZ47_ (hw _ (List.mem_of_getElem? (i := 48) rfl))) (by decide) (backOf (W := 0) (own_rm_connF l Z a0 hw [] t59_ T47_.heap n0 (Nat.le_trans Z0 (Nat.le_trans (Nat.le_trans (Nat.le_trans (Nat.le_trans (Nat.le_trans E29_.1 (Keep.of_wr W30_).1) (Keep.of_wr W32_).1) E33_.1) K36_.1) K47_.1)) r63_) hZ47_ (hw _ (List.mem_of_getElem? (i := 50) rfl)) (hw _ (List.mem_of_getElem? (i := 10) rfl)) (by decide) (by decide)) q66_a q66_c (g := (mkF m 128 #[.val (.int p1), .val (.long q2), .second, .val (.int p3), .val (.ref b33_), .val (.int (p3 &&& (3 : Int32))), .val (.ref t59_)] [(.ref t59_)])) rfl (by rw [hml]; rfl) (Steps.refl _) (argsL := []) (rest := []) (lenOf own_pd13 rfl) rfl (by show 2 * 0 + _ ≤ _; exact Nat.le_of_eq rfl) (hb hby at_128) (fun _ _ => ⟨rfl, hh65_, (by decide : 0 + 1 + 1 + 1 + 3 + 0 + 0 + 0 ≤ _), (by decide : 0 + 2 + 4 + 2 + 26 + 0 + 0 + 0 ≤ _)⟩)
        dsimp only [Pt.U, Pt.locs, Pt.cells, Pt.slots] at X66_ l66_ y66_ z66_ st66_ hQ66_
        subst l66_ y66_ z66_
        obtain ⟨rfl, Nq66_, hh66_⟩ := hQ66_
        have N66_ := Fr.app N65_ Nq66_
        refine own_viaH (fun _ k => st66_.trans k) ?_
        show own_FinH _ _ _ _ _ _ _ _ _ T66_ (mkF m 131 #[.val (.int p1), .val (.long q2), .second, .val (.int p3), .val (.ref b33_), .val (.int (p3 &&& (3 : Int32))), .val (.ref t59_)] [.null])
        refine own_viaH (fun _ k => XS.ifnonnullNo X66_.here hx rfl (hb hby at_131) rfl k) ?_
        show own_FinH _ _ _ _ _ _ _ _ _ T66_ (mkF m 134 #[.val (.int p1), .val (.long q2), .second, .val (.int p3), .val (.ref b33_), .val (.int (p3 &&& (3 : Int32))), .val (.ref t59_)] [])
        refine own_viaH (fun _ k => XS.iconst X66_.here hx rfl (hb hby at_134) k) ?_
        show own_FinH _ _ _ _ _ _ _ _ _ T66_ (mkF m 135 #[.val (.int p1), .val (.long q2), .second, .val (.int p3), .val (.ref b33_), .val (.int (p3 &&& (3 : Int32))), .val (.ref t59_)] [(.int (1 : Int32))])
        refine own_viaH (fun _ k => XS.goto X66_.here hx rfl (pc0 := 135) (pc' := 139) rfl (hb hby at_135) (by decide) (by decide) k) ?_
        show own_FinH _ _ _ _ _ _ _ _ _ T66_ (mkF m 139 #[.val (.int p1), .val (.long q2), .second, .val (.int p3), .val (.ref b33_), .val (.int (p3 &&& (3 : Int32))), .val (.ref t59_)] [(.int (1 : Int32))])
        have C67_ := C56_.trans Cq47_
        have H67_ := C67_.1
        exact own_retNH X66_ hx (t := .boolean) Bd.returns Bd.notSynchronized (own_ew hw) hZ47_ hS47_ (Nat.le_refl _) hh C67_ (by simp) (hb hby at_139) hh66_ rfl ⟨rfl, N66_⟩ (by decide) (by decide)
      · refine own_viaH (fun _ k => XS.icmpYes X0.here hx rfl (pc0 := 37) (pc' := 78) rfl (hb hby at_37) rfl (feq h2).2 (by decide) (by decide) k) ?_
        show own_FinH _ _ _ _ _ _ _ _ _ s₁ (mkF m 78 #[.val (.int p1), .val (.long q2), .second, .val (.int p3), .unset, .val (.int (p3 &&& (3 : Int32))), .unset] [])
        obtain ⟨T68_, h68_, X68_, e68_, E68_, A68_, D68_, -, st68_⟩ := newO X0 hx hZ hown (hw _ (List.mem_of_getElem? (i := 107) rfl)) (hw _ (List.mem_of_getElem? (i := 108) rfl)) (hw _ (List.mem_of_getElem? (i := 109) rfl)) e0 (g := (mkF m 78 #[.val (.int p1), .val (.long q2), .second, .val (.int p3), .unset, .val (.int (p3 &&& (3 : Int32))), .unset] [])) rfl (hb hby at_78) (by decide) (by decide)
        obtain ⟨b68_, g68_⟩ : ∃ z, z = h0.size := ⟨_, rfl⟩
        rw [← g68_] at A68_ D68_ st68_
        have F69_ : Fld Z h68_ b68_ "java/util/AbstractList" "modCount" "I" (.int (0 : Int32)) := D68_ (Or.inl (hw _ (List.mem_of_getElem? (i := 127) rfl))) (ty := .int) (by decide)
        have F70_ : Fld Z h68_ b68_ "java/util/ArrayList" "elementData" "[Ljava/lang/Object;" .null := D68_ (Or.inl (hw _ (List.mem_of_getElem? (i := 130) rfl))) (ty := (.array (.object "java/lang/Object"))) (by decide)
        have F71_ : Fld Z h68_ b68_ "java/util/ArrayList" "size" "I" (.int (0 : Int32)) := D68_ (Or.inl (hw _ (List.mem_of_getElem? (i := 139) rfl))) (ty := .int) (by decide)
        refine own_viaH (fun _ k => st68_ _ k) ?_
        show own_FinH _ _ _ _ _ _ _ _ _ T68_ (mkF m 81 #[.val (.int p1), .val (.long q2), .second, .val (.int p3), .unset, .val (.int (p3 &&& (3 : Int32))), .unset] [(.ref b68_)])
        refine own_viaH (fun _ k => XS.dup X68_.here hx rfl (hb hby at_81) rfl rfl k) ?_
        show own_FinH _ _ _ _ _ _ _ _ _ T68_ (mkF m 82 #[.val (.int p1), .val (.long q2), .second, .val (.int p3), .unset, .val (.int (p3 &&& (3 : Int32))), .unset] [(.ref b68_), (.ref b68_)])
        have g73_ : n0 ≤ b68_ := Nat.le_trans Z0 (Nat.le_of_eq g68_.symm)
        obtain ⟨_, _, ⟨T72_, L72_, k72_, n72_⟩, -, X72_, ⟨Lc72_, hQ72_, l72_, y72_, z72_⟩, st72_⟩ := X68_.specialBack hx (y := (⟨"java/util/ArrayList", "<init>", "()V"⟩ : MethodName)) rfl hown (mvT hZ (hw _ (List.mem_of_getElem? (i := 110) rfl))) (mvT hZ (hw _ (List.mem_of_getElem? (i := 111) rfl))) (mvT hZ (hw _ (List.mem_of_getElem? (i := 112) rfl))) (by decide) (backOf (W := 1) (own_rm_alInit l Z a0 hw [] b68_ de (.int (0 : Int32)) .null (.int (0 : Int32)) h68_ n0 (Nat.le_trans Z0 E68_.1) (O0.ext E68_) Sd A68_ F69_ F70_ F71_ g73_) hZ (hw _ (List.mem_of_getElem? (i := 112) rfl)) (hw _ (List.mem_of_getElem? (i := 109) rfl)) (by decide) (by decide)) (g := (mkF m 82 #[.val (.int p1), .val (.long q2), .second, .val (.int p3), .unset, .val (.int (p3 &&& (3 : Int32))), .unset] [(.ref b68_), (.ref b68_)])) rfl (by rw [hml]; rfl) (Steps.refl _) (a := b68_) (argsL := []) (rest := [(.ref b68_)]) (lenOf own_pd0 rfl) rfl (by show 2 * 0 + _ ≤ _; exact Nat.le_of_eq rfl) (hb hby at_82) (fun _ _ => ⟨rfl, e68_, (by decide : 0 + 1 + 0 ≤ _), (by decide : 0 + 3 + 0 ≤ _)⟩)
        dsimp only [Pt.U, Pt.locs, Pt.cells, Pt.slots] at X72_ l72_ y72_ z72_ st72_ hQ72_
        subst l72_ y72_ z72_
        obtain ⟨rfl, Nq72_, K72_, r74_, r75_, r76_, r77_⟩ := hQ72_
        have N72_ := Fr.app N0 Nq72_
        refine own_viaH (fun _ k => st72_.trans k) ?_
        show own_FinH _ _ _ _ _ _ _ _ _ T72_ (mkF m 85 #[.val (.int p1), .val (.long q2), .second, .val (.int p3), .unset, .val (.int (p3 &&& (3 : Int32))), .unset] [(.ref b68_)])
        refine own_viaH (fun _ k => XS.astore X72_.here hx rfl (hb hby at_85) rfl rfl (l' := #[.val (.int p1), .val (.long q2), .second, .val (.int p3), .unset, .val (.int (p3 &&& (3 : Int32))), .val (.ref b68_)]) rfl k) ?_
        show own_FinH _ _ _ _ _ _ _ _ _ T72_ (mkF m 87 #[.val (.int p1), .val (.long q2), .second, .val (.int p3), .unset, .val (.int (p3 &&& (3 : Int32))), .val (.ref b68_)] [])
        refine own_viaH (fun _ k => XS.aload X72_.here hx rfl (hb hby at_87) rfl rfl k) ?_
        show own_FinH _ _ _ _ _ _ _ _ _ T72_ (mkF m 89 #[.val (.int p1), .val (.long q2), .second, .val (.int p3), .unset, .val (.int (p3 &&& (3 : Int32))), .val (.ref b68_)] [(.ref b68_)])
        refine own_viaH (fun _ k => XS.iloadN X72_.here hx rfl (hb hby at_89) rfl k) ?_
        show own_FinH _ _ _ _ _ _ _ _ _ T72_ (mkF m 90 #[.val (.int p1), .val (.long q2), .second, .val (.int p3), .unset, .val (.int (p3 &&& (3 : Int32))), .val (.ref b68_)] [(.int p1), (.ref b68_)])
        obtain ⟨_, _, ⟨T78_, L78_, k78_, n78_⟩, -, X78_, ⟨Lc78_, hQ78_, l78_, y78_, z78_⟩, st78_⟩ := Jvm.LawKit.callS X72_ hx (y := (⟨"java/lang/Integer", "valueOf", "(I)Ljava/lang/Integer;"⟩ : MethodName)) hown (mvT hZ (hw _ (List.mem_of_getElem? (i := 75) rfl))) (mvT hZ (hw _ (List.mem_of_getElem? (i := 76) rfl))) (mvT hZ (hw _ (List.mem_of_getElem? (i := 77) rfl))) (mvT hZ (hw _ (List.mem_of_getElem? (i := 78) rfl))) (by decide) (backOf (W := 1) (own_rm_intOf l Z a0 hw [] p1 cai cci vfi T72_.heap n0 (Nat.le_trans Z0 (Nat.le_trans E68_.1 K72_.1)) ((O0.ext E68_).keep K72_ (allS g73_ all0)) Sci Bxi Sh) hZ (hw _ (List.mem_of_getElem? (i := 78) rfl)) (hw _ (List.mem_of_getElem? (i := 77) rfl)) (by decide) (by decide)) (g := (mkF m 90 #[.val (.int p1), .val (.long q2), .second, .val (.int p3), .unset, .val (.int (p3 &&& (3 : Int32))), .val (.ref b68_)] [(.int p1), (.ref b68_)])) rfl (by rw [hml]; rfl) (argsL := [(.int p1)]) (rest := [(.ref b68_)]) (lenOf own_pd9 rfl) rfl (by show 2 * 0 + _ ≤ _; exact Nat.le_of_eq rfl) (hb hby at_90) (fun _ _ => ⟨rfl, rfl, (by decide : 0 + 1 + 0 + 1 ≤ _), (by decide : 0 + 3 + 0 + 1 ≤ _)⟩)
        dsimp only [Pt.U, Pt.locs, Pt.cells, Pt.slots] at X78_ l78_ y78_ z78_ st78_ hQ78_
        subst l78_ y78_ z78_
        obtain ⟨t79_, rfl, Nq78_, K78_, r80_⟩ := hQ78_
        have N78_ := Fr.app N72_ Nq78_
        refine own_viaH (fun _ k => st78_ _ k) ?_
        show own_FinH _ _ _ _ _ _ _ _ _ T78_ (mkF m 93 #[.val (.int p1), .val (.long q2), .second, .val (.int p3), .unset, .val (.int (p3 &&& (3 : Int32))), .val (.ref b68_)] [(.ref t79_), (.ref b68_)])
        have q82_ : de ≠ b68_ := Nat.ne_of_lt (Nat.lt_of_lt_of_le Vd.lt (Nat.le_of_eq g68_.symm))
        obtain ⟨cq81_, kq81_, q81_a, q81_b, q81_c⟩ := isOf hZ rfl (r74_.keep K78_)
        obtain ⟨_, _, ⟨T81_, L81_, k81_, n81_⟩, -, X81_, ⟨Lc81_, hQ81_, l81_, y81_, z81_⟩, st81_⟩ := X78_.virtualBack hx (y := (⟨"java/util/ArrayList", "add", "(Ljava/lang/Object;)Z"⟩ : MethodName)) (z := (⟨"java/util/ArrayList", "add", "(Ljava/lang/Object;)Z"⟩ : MethodName)) hown (mvT hZ (hw _ (List.mem_of_getElem? (i := 131) rfl))) (mvT hZ (hw _ (List.mem_of_getElem? (i := 132) rfl))) (notFace_of_selects (args := #[]) (mvT hZ (hw _ (List.mem_of_getElem? (i := 134) rfl)))) (mvT hZ (hw _ (List.mem_of_getElem? (i := 134) rfl))) (mvT hZ (hw _ (List.mem_of_getElem? (i := 133) rfl))) (by decide) (backOf (W := 0) (own_rm_add1 l Z a0 hw [] b68_ t79_ de kd T78_.heap n0 (Nat.le_trans Z0 (Nat.le_trans (Nat.le_trans E68_.1 K72_.1) K78_.1)) (((O0.ext E68_).keep K72_ (allS g73_ all0)).keep K78_ all0) Sd (r74_.keep K78_) (r75_.keep K78_ nin0) (r76_.keep K78_ nin0) (r77_.keep K78_ nin0) (((Vd.ext E68_).keep K72_ (ninS q82_ nin0)).keep K78_ nin0) r80_ g73_) hZ (hw _ (List.mem_of_getElem? (i := 135) rfl)) (hw _ (List.mem_of_getElem? (i := 109) rfl)) (by decide) (by decide)) q81_a q81_c (g := (mkF m 93 #[.val (.int p1), .val (.long q2), .second, .val (.int p3), .unset, .val (.int (p3 &&& (3 : Int32))), .val (.ref b68_)] [(.ref t79_), (.ref b68_)])) rfl (by rw [hml]; rfl) (Steps.refl _) (argsL := [(.ref t79_)]) (rest := []) (lenOf own_pd16 rfl) rfl (by show 2 * 0 + _ ≤ _; exact Nat.le_of_eq rfl) (hb hby at_93) (fun _ _ => ⟨rfl, rfl, (by decide : 0 + 1 + 0 + 1 + 1 ≤ _), (by decide : 0 + 3 + 0 + 1 + 10 ≤ _)⟩)
        dsimp only [Pt.U, Pt.locs, Pt.cells, Pt.slots] at X81_ l81_ y81_ z81_ st81_ hQ81_
        subst l81_ y81_ z81_
        obtain ⟨rfl, Nq81_, K81_, r83_⟩ := hQ81_
        have N81_ := Fr.app N78_ Nq81_
        refine own_viaH (fun _ k => st81_.trans k) ?_
        show own_FinH _ _ _ _ _ _ _ _ _ T81_ (mkF m 96 #[.val (.int p1), .val (.long q2), .second, .val (.int p3), .unset, .val (.int (p3 &&& (3 : Int32))), .val (.ref b68_)] [(.int (1 : Int32))])
        refine own_viaH (fun _ k => XS.pop X81_.here hx rfl (hb hby at_96) rfl rfl k) ?_
        show own_FinH _ _ _ _ _ _ _ _ _ T81_ (mkF m 97 #[.val (.int p1), .val (.long q2), .second, .val (.int p3), .unset, .val (.int (p3 &&& (3 : Int32))), .val (.ref b68_)] [])
        refine own_viaH (fun _ k => XS.aload X81_.here hx rfl (hb hby at_97) rfl rfl k) ?_
        show own_FinH _ _ _ _ _ _ _ _ _ T81_ (mkF m 99 #[.val (.int p1), .val (.long q2), .second, .val (.int p3), .unset, .val (.int (p3 &&& (3 : Int32))), .val (.ref b68_)] [(.ref b68_)])
        refine own_viaH (fun _ k => XS.astore X81_.here hx rfl (hb hby at_99) rfl rfl (l' := #[.val (.int p1), .val (.long q2), .second, .val (.int p3), .val (.ref b68_), .val (.int (p3 &&& (3 : Int32))), .val (.ref b68_)]) rfl k) ?_
        show own_FinH _ _ _ _ _ _ _ _ _ T81_ (mkF m 101 #[.val (.int p1), .val (.long q2), .second, .val (.int p3), .val (.ref b68_), .val (.int (p3 &&& (3 : Int32))), .val (.ref b68_)] [])
        refine own_viaH (fun _ k => XS.aload X81_.here hx rfl (hb hby at_101) rfl rfl k) ?_
        show own_FinH _ _ _ _ _ _ _ _ _ T81_ (mkF m 103 #[.val (.int p1), .val (.long q2), .second, .val (.int p3), .val (.ref b68_), .val (.int (p3 &&& (3 : Int32))), .val (.ref b68_)] [(.ref b68_)])
        have C85_ := C0.trans (CHr.ext E68_ H0)
        have H85_ := C85_.1
        have sf87_ : Safe Z own_EL s.vm h0 b68_ := Safe.new (Nat.le_of_eq g68_.symm)
        have sf88_ : Safe Z own_EL s.vm h68_ b68_ := Safe.ext E68_ H0 sf87_
        have C86_ := C85_.trans (CHr.keep K72_ (sfS sf88_ sf0) H85_)
        have H86_ := C86_.1
        have C89_ := C86_.trans (CHr.keep K78_ sf0 H86_)
        have H89_ := C89_.1
        have sf91_ : Safe Z own_EL s.vm h68_ b68_ := Safe.ext E68_ H0 sf87_
        have sf92_ : Safe Z own_EL s.vm T72_.heap b68_ := Safe.keep K72_ (sfS sf91_ sf0) H85_ sf91_
        have sf93_ : Safe Z own_EL s.vm T78_.heap b68_ := Safe.keep K78_ sf0 H86_ sf92_
        have C90_ := C89_.trans (CHr.keep K81_ (sfS sf93_ sf0) H89_)
        have H90_ := C90_.1
        obtain ⟨_, _, ⟨T84_, L84_, k84_, n84_⟩, -, Y84_, hSq84_, hgq84_, ⟨Lc84_, hQ84_, l84_, y84_, z84_, Cq84_⟩, st84_⟩ := callSS X81_ hx (y := (⟨"com/example/lease/lease/error/NoRouteException$PassedOver", "full", "(Ljava/lang/Object;)Lcom/example/lease/lease/error/NoRouteException$PassedOver;"⟩ : MethodName)) hown (mvT hZ (hw _ (List.mem_of_getElem? (i := 8) rfl))) (mvT hZ (hw _ (List.mem_of_getElem? (i := 9) rfl))) (mvT hZ (hw _ (List.mem_of_getElem? (i := 10) rfl))) (mvT hZ (hw _ (List.mem_of_getElem? (i := 11) rfl))) (by decide) (backOfSH (s := s) (vm0 := s.vm) (W := 0) (own_rm_full l Z a0 hw [] b68_ T81_.heap n0 (Nat.le_trans Z0 (Nat.le_trans (Nat.le_trans (Nat.le_trans E68_.1 K72_.1) K78_.1) K81_.1)) ) hZ (hw _ (List.mem_of_getElem? (i := 11) rfl)) (hw _ (List.mem_of_getElem? (i := 10) rfl)) (by decide) (by decide) (own_ew hw) H90_) (g := (mkF m 103 #[.val (.int p1), .val (.long q2), .second, .val (.int p3), .val (.ref b68_), .val (.int (p3 &&& (3 : Int32))), .val (.ref b68_)] [(.ref b68_)])) rfl (by rw [hml]; rfl) (argsL := [(.ref b68_)]) (rest := []) (lenOf own_pd10 rfl) rfl (by show 2 * 0 + _ ≤ _; exact Nat.le_of_eq rfl) (hb hby at_103) (fun _ _ => ⟨rfl, rfl, (by decide : 0 + 1 + 0 + 1 + 1 + 3 ≤ _), (by decide : 0 + 3 + 0 + 1 + 10 + 26 ≤ _)⟩)
        dsimp only [Pt.U, Pt.locs, Pt.cells, Pt.slots] at Y84_ l84_ y84_ z84_ st84_ hQ84_ hSq84_ hgq84_ Cq84_
        subst l84_ y84_ z84_
        obtain ⟨X84_, hS84_, hZ84_, hown84_⟩ := rebS hS0 ((Nat.le_trans hk0 (Nat.le_trans (Nat.le_trans (Nat.le_trans E68_.1 K72_.1) K78_.1) K81_.1))) Y84_ hSq84_ hgq84_ hZ hown
        obtain ⟨t94_, rfl, Nq84_, K84_, r95_, r96_, r97_, r98_⟩ := hQ84_
        have N84_ := Fr.app N81_ Nq84_
        refine own_viaH (fun _ k => st84_.trans k) ?_
        show own_FinH _ _ _ _ _ _ _ _ _ T84_ (mkF m 106 #[.val (.int p1), .val (.long q2), .second, .val (.int p3), .val (.ref b68_), .val (.int (p3 &&& (3 : Int32))), .val (.ref b68_)] [(.ref t94_)])
        refine own_viaH (fun _ k => XS.astore X84_.here hx rfl (hb hby at_106) rfl rfl (l' := #[.val (.int p1), .val (.long q2), .second, .val (.int p3), .val (.ref b68_), .val (.int (p3 &&& (3 : Int32))), .val (.ref t94_)]) rfl k) ?_
        show own_FinH _ _ _ _ _ _ _ _ _ T84_ (mkF m 108 #[.val (.int p1), .val (.long q2), .second, .val (.int p3), .val (.ref b68_), .val (.int (p3 &&& (3 : Int32))), .val (.ref t94_)] [])
        refine own_viaH (fun _ k => XS.aload X84_.here hx rfl (hb hby at_108) rfl rfl k) ?_
        show own_FinH _ _ _ _ _ _ _ _ _ T84_ (mkF m 110 #[.val (.int p1), .val (.long q2), .second, .val (.int p3), .val (.ref b68_), .val (.int (p3 &&& (3 : Int32))), .val (.ref t94_)] [(.ref t94_)])
        obtain ⟨cq99_, kq99_, q99_a, q99_b, q99_c⟩ := isOf hZ84_ rfl r96_
        obtain ⟨_, _, ⟨T99_, L99_, k99_, n99_⟩, -, X99_, ⟨Lc99_, hQ99_, l99_, y99_, z99_⟩, st99_⟩ := X84_.virtualBack hx (y := (⟨"com/example/lease/lease/error/NoRouteException$PassedOver", "route", "()Ljava/lang/Object;"⟩ : MethodName)) (z := (⟨"com/example/lease/lease/error/NoRouteException$PassedOver", "route", "()Ljava/lang/Object;"⟩ : MethodName)) hown84_ (mvT hZ84_ (hw _ (List.mem_of_getElem? (i := 36) rfl))) (mvT hZ84_ (hw _ (List.mem_of_getElem? (i := 37) rfl))) (notFace_of_selects (args := #[]) (mvT hZ84_ (hw _ (List.mem_of_getElem? (i := 39) rfl)))) (mvT hZ84_ (hw _ (List.mem_of_getElem? (i := 39) rfl))) (mvT hZ84_ (hw _ (List.mem_of_getElem? (i := 38) rfl))) (by decide) (backOf (W := 0) (own_rm_route l Z a0 hw [] t94_ b68_ T84_.heap n0 (Nat.le_trans Z0 (Nat.le_trans (Nat.le_trans (Nat.le_trans (Nat.le_trans E68_.1 K72_.1) K78_.1) K81_.1) K84_.1)) r97_) hZ84_ (hw _ (List.mem_of_getElem? (i := 40) rfl)) (hw _ (List.mem_of_getElem? (i := 10) rfl)) (by decide) (by decide)) q99_a q99_c (g := (mkF m 110 #[.val (.int p1), .val (.long q2), .second, .val (.int p3), .val (.ref b68_), .val (.int (p3 &&& (3 : Int32))), .val (.ref t94_)] [(.ref t94_)])) rfl (by rw [hml]; rfl) (Steps.refl _) (argsL := []) (rest := []) (lenOf own_pd11 rfl) rfl (by show 2 * 0 + _ ≤ _; exact Nat.le_of_eq rfl) (hb hby at_110) (fun _ _ => ⟨rfl, rfl, (by decide : 0 + 1 + 0 + 1 + 1 + 3 + 0 ≤ _), (by decide : 0 + 3 + 0 + 1 + 10 + 26 + 0 ≤ _)⟩)
        dsimp only [Pt.U, Pt.locs, Pt.cells, Pt.slots] at X99_ l99_ y99_ z99_ st99_ hQ99_
        subst l99_ y99_ z99_
        obtain ⟨rfl, Nq99_, hh99_⟩ := hQ99_
        have N99_ := Fr.app N84_ Nq99_
        refine own_viaH (fun _ k => st99_.trans k) ?_
        show own_FinH _ _ _ _ _ _ _ _ _ T99_ (mkF m 113 #[.val (.int p1), .val (.long q2), .second, .val (.int p3), .val (.ref b68_), .val (.int (p3 &&& (3 : Int32))), .val (.ref t94_)] [(.ref b68_)])
        refine own_viaH (fun _ k => XS.aload X99_.here hx rfl (hb hby at_113) rfl rfl k) ?_
        show own_FinH _ _ _ _ _ _ _ _ _ T99_ (mkF m 115 #[.val (.int p1), .val (.long q2), .second, .val (.int p3), .val (.ref b68_), .val (.int (p3 &&& (3 : Int32))), .val (.ref t94_)] [(.ref b68_), (.ref b68_)])
        refine own_viaH (fun _ k => Jvm.RoadKit.acmp (g := (mkF m 115 #[.val (.int p1), .val (.long q2), .second, .val (.int p3), .val (.ref b68_), .val (.int (p3 &&& (3 : Int32))), .val (.ref t94_)] [(.ref b68_), (.ref b68_)])) X99_ hx rfl rfl rfl (pc0 := 115) (pc' := 118) (same := true) rfl (hb hby at_115) rfl (decide_eq_true rfl) (by decide) (by decide) k) ?_
        show own_FinH _ _ _ _ _ _ _ _ _ T99_ (mkF m 118 #[.val (.int p1), .val (.long q2), .second, .val (.int p3), .val (.ref b68_), .val (.int (p3 &&& (3 : Int32))), .val (.ref t94_)] [])
        refine own_viaH (fun _ k => XS.aload X99_.here hx rfl (hb hby at_118) rfl rfl k) ?_
        show own_FinH _ _ _ _ _ _ _ _ _ T99_ (mkF m 120 #[.val (.int p1), .val (.long q2), .second, .val (.int p3), .val (.ref b68_), .val (.int (p3 &&& (3 : Int32))), .val (.ref t94_)] [(.ref t94_)])
        obtain ⟨cq100_, kq100_, q100_a, q100_b, q100_c⟩ := isOf hZ84_ hh99_ r96_
        obtain ⟨_, _, ⟨T100_, L100_, k100_, n100_⟩, -, X100_, ⟨Lc100_, hQ100_, l100_, y100_, z100_⟩, st100_⟩ := X99_.virtualBack hx (y := (⟨"com/example/lease/lease/error/NoRouteException$PassedOver", "isFull", "()Z"⟩ : MethodName)) (z := (⟨"com/example/lease/lease/error/NoRouteException$PassedOver", "isFull", "()Z"⟩ : MethodName)) hown84_ (mvT hZ84_ (hw _ (List.mem_of_getElem? (i := 41) rfl))) (mvT hZ84_ (hw _ (List.mem_of_getElem? (i := 42) rfl))) (notFace_of_selects (args := #[]) (mvT hZ84_ (hw _ (List.mem_of_getElem? (i := 44) rfl)))) (mvT hZ84_ (hw _ (List.mem_of_getElem? (i := 44) rfl))) (mvT hZ84_ (hw _ (List.mem_of_getElem? (i := 43) rfl))) (by decide) (backOf (W := 0) (own_rm_isFull l Z a0 hw [] t94_ T84_.heap n0 (Nat.le_trans Z0 (Nat.le_trans (Nat.le_trans (Nat.le_trans (Nat.le_trans E68_.1 K72_.1) K78_.1) K81_.1) K84_.1)) r98_) hZ84_ (hw _ (List.mem_of_getElem? (i := 45) rfl)) (hw _ (List.mem_of_getElem? (i := 10) rfl)) (by decide) (by decide)) q100_a q100_c (g := (mkF m 120 #[.val (.int p1), .val (.long q2), .second, .val (.int p3), .val (.ref b68_), .val (.int (p3 &&& (3 : Int32))), .val (.ref t94_)] [(.ref t94_)])) rfl (by rw [hml]; rfl) (Steps.refl _) (argsL := []) (rest := []) (lenOf own_pd12 rfl) rfl (by show 2 * 0 + _ ≤ _; exact Nat.le_of_eq rfl) (hb hby at_120) (fun _ _ => ⟨rfl, hh99_, (by decide : 0 + 1 + 0 + 1 + 1 + 3 + 0 + 0 ≤ _), (by decide : 0 + 3 + 0 + 1 + 10 + 26 + 0 + 0 ≤ _)⟩)
        dsimp only [Pt.U, Pt.locs, Pt.cells, Pt.slots] at X100_ l100_ y100_ z100_ st100_ hQ100_
        subst l100_ y100_ z100_
        obtain ⟨rfl, Nq100_, hh100_⟩ := hQ100_
        have N100_ := Fr.app N99_ Nq100_
        refine own_viaH (fun _ k => st100_.trans k) ?_
        show own_FinH _ _ _ _ _ _ _ _ _ T100_ (mkF m 123 #[.val (.int p1), .val (.long q2), .second, .val (.int p3), .val (.ref b68_), .val (.int (p3 &&& (3 : Int32))), .val (.ref t94_)] [(.int (1 : Int32))])
        refine own_viaH (fun _ k => XS.ifNo X100_.here hx rfl (hb hby at_123) rfl ((if0 _ _).trans (feq (by decide)).1) k) ?_
        show own_FinH _ _ _ _ _ _ _ _ _ T100_ (mkF m 126 #[.val (.int p1), .val (.long q2), .second, .val (.int p3), .val (.ref b68_), .val (.int (p3 &&& (3 : Int32))), .val (.ref t94_)] [])
        refine own_viaH (fun _ k => XS.aload X100_.here hx rfl (hb hby at_126) rfl rfl k) ?_
        show own_FinH _ _ _ _ _ _ _ _ _ T100_ (mkF m 128 #[.val (.int p1), .val (.long q2), .second, .val (.int p3), .val (.ref b68_), .val (.int (p3 &&& (3 : Int32))), .val (.ref t94_)] [(.ref t94_)])
        obtain ⟨cq101_, kq101_, q101_a, q101_b, q101_c⟩ := isOf hZ84_ hh100_ r96_
        obtain ⟨_, _, ⟨T101_, L101_, k101_, n101_⟩, -, X101_, ⟨Lc101_, hQ101_, l101_, y101_, z101_⟩, st101_⟩ := X100_.virtualBack hx (y := (⟨"com/example/lease/lease/error/NoRouteException$PassedOver", "connectFailure", "()Lcom/example/lease/lease/error/ConnectFailedException;"⟩ : MethodName)) (z := (⟨"com/example/lease/lease/error/NoRouteException$PassedOver", "connectFailure", "()Lcom/example/lease/lease/error/ConnectFailedException;"⟩ : MethodName)) hown84_ (mvT hZ84_ (hw _ (List.mem_of_getElem? (i := 46) rfl))) (mvT hZ84_ (hw _ (List.mem_of_getElem? (i := 47) rfl))) (notFace_of_selects (args := #[]) (mvT hZ84_ (hw _ (List.mem_of_getElem? (i := 49) rfl)))) (mvT hZ84_ (hw _ (List.mem_of_getElem? (i := 49) rfl))) (mvT hZ84_ (hw _ (List.mem_of_getElem? (i := 48) rfl))) (by decide) (backOf (W := 0) (own_rm_connF l Z a0 hw [] t94_ T84_.heap n0 (Nat.le_trans Z0 (Nat.le_trans (Nat.le_trans (Nat.le_trans (Nat.le_trans E68_.1 K72_.1) K78_.1) K81_.1) K84_.1)) r98_) hZ84_ (hw _ (List.mem_of_getElem? (i := 50) rfl)) (hw _ (List.mem_of_getElem? (i := 10) rfl)) (by decide) (by decide)) q101_a q101_c (g := (mkF m 128 #[.val (.int p1), .val (.long q2), .second, .val (.int p3), .val (.ref b68_), .val (.int (p3 &&& (3 : Int32))), .val (.ref t94_)] [(.ref t94_)])) rfl (by rw [hml]; rfl) (Steps.refl _) (argsL := []) (rest := []) (lenOf own_pd13 rfl) rfl (by show 2 * 0 + _ ≤ _; exact Nat.le_of_eq rfl) (hb hby at_128) (fun _ _ => ⟨rfl, hh100_, (by decide : 0 + 1 + 0 + 1 + 1 + 3 + 0 + 0 + 0 ≤ _), (by decide : 0 + 3 + 0 + 1 + 10 + 26 + 0 + 0 + 0 ≤ _)⟩)
        dsimp only [Pt.U, Pt.locs, Pt.cells, Pt.slots] at X101_ l101_ y101_ z101_ st101_ hQ101_
        subst l101_ y101_ z101_
        obtain ⟨rfl, Nq101_, hh101_⟩ := hQ101_
        have N101_ := Fr.app N100_ Nq101_
        refine own_viaH (fun _ k => st101_.trans k) ?_
        show own_FinH _ _ _ _ _ _ _ _ _ T101_ (mkF m 131 #[.val (.int p1), .val (.long q2), .second, .val (.int p3), .val (.ref b68_), .val (.int (p3 &&& (3 : Int32))), .val (.ref t94_)] [.null])
        refine own_viaH (fun _ k => XS.ifnonnullNo X101_.here hx rfl (hb hby at_131) rfl k) ?_
        show own_FinH _ _ _ _ _ _ _ _ _ T101_ (mkF m 134 #[.val (.int p1), .val (.long q2), .second, .val (.int p3), .val (.ref b68_), .val (.int (p3 &&& (3 : Int32))), .val (.ref t94_)] [])
        refine own_viaH (fun _ k => XS.iconst X101_.here hx rfl (hb hby at_134) k) ?_
        show own_FinH _ _ _ _ _ _ _ _ _ T101_ (mkF m 135 #[.val (.int p1), .val (.long q2), .second, .val (.int p3), .val (.ref b68_), .val (.int (p3 &&& (3 : Int32))), .val (.ref t94_)] [(.int (1 : Int32))])
        refine own_viaH (fun _ k => XS.goto X101_.here hx rfl (pc0 := 135) (pc' := 139) rfl (hb hby at_135) (by decide) (by decide) k) ?_
        show own_FinH _ _ _ _ _ _ _ _ _ T101_ (mkF m 139 #[.val (.int p1), .val (.long q2), .second, .val (.int p3), .val (.ref b68_), .val (.int (p3 &&& (3 : Int32))), .val (.ref t94_)] [(.int (1 : Int32))])
        have C102_ := C90_.trans Cq84_
        have H102_ := C102_.1
        exact own_retNH X101_ hx (t := .boolean) Bd.returns Bd.notSynchronized (own_ew hw) hZ84_ hS84_ (Nat.le_refl _) hh C102_ (by simp) (hb hby at_139) hh101_ rfl ⟨rfl, N101_⟩ (by decide) (by decide)
set_option maxRecDepth 65536 in
set_option maxHeartbeats 40000000 in
theorem comes_1 {Post : Tables → Env → Array Value → State → Outcome → State → Prop} (hpost : ∀ tb e args s v u, (limb_1_1.after args s (.returned v) u = true ∧ limb_1_2.after args s (.returned v) u = true ∧ True) → ReturnedEndW s (.returned v) u (Jvm.fieldLocs frame_1_writes args s ++ Jvm.arrayLocs frame_1_arrays args s ++ Jvm.staticLocs frame_1_statics s) 24 1152 → Post tb e args s (.returned v) u) :
    ArmFor flags0 classFile x code maxLocals ret World_1 tables_1 room_1 Calls_1 rest_1 Pre_1 Post := by
  intro l hfl _ _ p e ha hc hk s m args below hf hA hF happ hP
  obtain ⟨hcalls, hrest, hpre⟩ := hP
  obtain ⟨-, -, -, hnamed, -, -, -, hat⟩ := (Spec.applies_iff hf).mp happ
  obtain ⟨hg, hn⟩ := and_e (Cond.before_iff.mp (show (Jvm.Cond.and given_1 narrow_1).before args s = true from hpre))
  obtain ⟨g0, k0⟩ := and_e hg
  obtain ⟨g1, k1⟩ := and_e k0
  obtain ⟨g2, k2⟩ := and_e k1
  have g3 := k2
  obtain ⟨w0, w1, w2, rfl⟩ : ∃ w0 w1 w2 : Value, args = #[w0, w1, w2] := by
    have hs : args.size = 3 := by simpa [Cond.value, given_1] using g0
    obtain ⟨L⟩ := args
    match L, hs with
    | [w0, w1, w2], _ => exact ⟨w0, w1, w2, rfl⟩
  have hw := fun d (hd : d ∈ tables_1) => atoms_spec (ws := Jvm.Cond.code x code maxLocals ret :: tables_1) hat d (List.mem_cons_of_mem _ hd)
  have hfit : Fit s := fun {y c} hc i hi => by
    obtain ⟨ha, rfl⟩ := Array.getElem?_eq_some_iff.mp hc
    have q := List.all_eq_true.mp ((Array.all_eq_true_iff_forall_mem.mp hF) _ (Array.getElem_mem ha)) i (List.mem_range.mpr hi)
    simpa [Array.getElem?_eq_getElem hi] using q
  obtain ⟨hsets, hown0⟩ := atoms_of _ (rest_1_c_eq ▸ (show rest_1_c.before _ s = true from hrest))
  have hr0 := Cond.before_iff.mp hown0
  obtain ⟨i0, ei0⟩ := is_v g1
  obtain rfl : w0 = (.int i0) := Option.some.inj ei0
  obtain ⟨i1, ei1⟩ := isL_v g2
  obtain rfl : w1 = (.long i1) := Option.some.inj ei1
  obtain ⟨i2, ei2⟩ := is_v g3
  obtain rfl : w2 = (.int i2) := Option.some.inj ei2
  have n3 := not_v (Cond.before_iff.mp (hsets _ (List.mem_of_getElem? (i := 8) rfl)))
  obtain ⟨cz, ecz⟩ := is_v (Cond.before_iff.mp (hsets _ (List.mem_of_getElem? (i := 7) rfl)))
  have S8 : Sta s s.heap "java/lang/String" "COMPACT_STRINGS" "Z" (.int cz) := Sta.start ecz (Or.inl (hsets _ (List.mem_of_getElem? (i := 6) rfl)))
  have c13 : ¬ (cz = (0 : Int32)) := gotF (Cond.eq_ints ecz (Term.int_eval (0))) n3
  obtain ⟨cai, ecai⟩ := arr_v (Cond.before_iff.mp (hsets _ (List.mem_of_getElem? (i := 19) rfl)))
  obtain ⟨cci, Acai⟩ := Arr.start ecai (Cond.before_iff.mp (hsets _ (List.mem_of_getElem? (i := 19) rfl)))
  have Scai : Sta s s.heap "java/lang/Integer$IntegerCache" "cache" "[Ljava/lang/Integer;" (.ref cai) := Sta.start ecai (Or.inr ⟨hw _ (List.mem_of_getElem? (i := 80) rfl), hsets _ (List.mem_of_getElem? (i := 17) rfl)⟩)
  obtain ⟨lqi, lzi⟩ := own_len256 ecai Acai (Cond.before_iff.mp (hsets _ (List.mem_of_getElem? (i := 21) rfl)))
  have Bxi : Bxs s cai cci "java/lang/Integer" "I" (256 : Int32) own_vfi := Bxs.start (fun idx => ecai) Acai lqi lzi (by decide) (Cond.before_iff.mp (hsets _ (List.mem_of_getElem? (i := 22) rfl))) (fun X j hj hv => own_vfi_at hj hv)
  obtain ⟨cal, ecal⟩ := arr_v (Cond.before_iff.mp (hsets _ (List.mem_of_getElem? (i := 2) rfl)))
  obtain ⟨ccl, Acal⟩ := Arr.start ecal (Cond.before_iff.mp (hsets _ (List.mem_of_getElem? (i := 2) rfl)))
  have Scal : Sta s s.heap "java/lang/Long$LongCache" "cache" "[Ljava/lang/Long;" (.ref cal) := Sta.start ecal (Or.inl (hsets _ (List.mem_of_getElem? (i := 1) rfl)))
  obtain ⟨lql, lzl⟩ := own_len256 ecal Acal (Cond.before_iff.mp (hsets _ (List.mem_of_getElem? (i := 4) rfl)))
  have Bxl : Bxs s cal ccl "java/lang/Long" "J" (256 : Int32) own_vfl := Bxs.start (fun idx => ecal) Acal lql lzl (by decide) (Cond.before_iff.mp (hsets _ (List.mem_of_getElem? (i := 5) rfl))) (fun X j hj hv => own_vfl_at hj hv)
  have ehi := own_eqi (Cond.before_iff.mp (hsets _ (List.mem_of_getElem? (i := 18) rfl)))
  have Shi : Sta s s.heap "java/lang/Integer$IntegerCache" "high" "I" (.int (127 : Int32)) := Sta.start ehi (Or.inl (hsets _ (List.mem_of_getElem? (i := 16) rfl)))
  obtain ⟨de, ede⟩ := arr_v (Cond.before_iff.mp (hsets _ (List.mem_of_getElem? (i := 29) rfl)))
  obtain ⟨cde, Ade⟩ := Arr.start ede (Cond.before_iff.mp (hsets _ (List.mem_of_getElem? (i := 29) rfl)))
  have Sde : Sta s s.heap "java/util/ArrayList" "DEFAULTCAPACITY_EMPTY_ELEMENTDATA" "[Ljava/lang/Object;" (.ref de) := Sta.start ede (Or.inr ⟨hw _ (List.mem_of_getElem? (i := 109) rfl), hsets _ (List.mem_of_getElem? (i := 25) rfl)⟩)
  obtain ⟨lqd, lzd⟩ := own_len0 ede Ade (Cond.before_iff.mp (hsets _ (List.mem_of_getElem? (i := 31) rfl)))
  have Vde : Arv s s.heap de cde.cls (.object "java/lang/Object") (0 : Int32) [] .null := Arv.start hfit Ade lqd lzd (by decide) (by decide) trivial
  obtain ⟨n, o, h1, h2, h3, _, L, rfl, ⟨rfl, N⟩, -, hq⟩ := own_rm_law l s _ hw tables_1 i0 i1 i2 cz cai cci own_vfi cal ccl own_vfl de cde.cls s.heap s.heap.size (Nat.le_refl _) (Old.start s) S8 c13 Scai Bxi Shi Scal Bxl Sde Vde p e ha hc hk s m _ below hf ((Spec.applies_iff_loose hf).mp happ).1 ⟨rfl, State.Warmed39.refl s, rfl, (fun p hp => nomatch hp)⟩ trivial
  refine ⟨n, _, h1, h2, h3, hpost _ _ _ _ _ _ ⟨Cond.after_iff.mpr rfl, Cond.after_iff.mpr (eq_i res_at (Term.int_eval (1)) rfl), trivial⟩ ⟨hq.1, hq.2.1, hq.2.2.1, (hq.2.2.2.sift fun y hy => Or.inr (N y hy)).mono (by decide) (by decide)⟩⟩
theorem main_1_1 : Claimed_1_1 := comes_1 fun _ _ _ _ _ _ h hF => ⟨h.1, hF⟩
theorem main_1_2 : Claimed_1_2 := comes_1 fun _ _ _ _ _ _ h hF => ⟨h.2.1, hF⟩
end Jvm.Pilot.@@N@@
namespace Jvm.Pilot.@@N@@
open Jvm Jvm.ClassFile Sem Op Lib Jvm.Free Jvm.Stand Jvm.Pilot.@@N@@.Jvm.D
/-! MADE BY PROGRAM (witnessworld.py) out of the Statement's table words and the real class files: 38 classes; the members and pool entries that the words name. The judged class is class 1, her method 1. -/
namespace start1
open Jvm.ClassFile
def u (s : String) : CpInfo := .utf8 (stringToUtf16 s)
/-- a pool by its gaps: so many unusable entries, then the entry; so many at the end -/
def gap : Nat → List CpInfo → List CpInfo
  | 0, r => r
  | n + 1, r => .unusable :: gap n r
def poolList (es : List (Nat × CpInfo)) (last : Nat) : List CpInfo := es.foldr (fun e r => gap e.1 (e.2 :: r)) (gap last [])
def pool (es : List (Nat × CpInfo)) (last : Nat) : Array CpInfo := ⟨poolList es last⟩
def fileOf (pool : Array CpInfo) (this : Nat) (attrs : Array Attribute := #[]) (ms : Array MethodInfo := #[]) (fl : Nat := 33) (sup : Nat := 0) (ifs : Array Nat := #[]) (fds : Array FieldInfo := #[]) : ClassFile where
  minorVersion := 0
  majorVersion := 65
  constantPool := pool
  accessFlags := fl
  thisClass := this
  superClass := sup
  interfaces := ifs
  fields := fds
  methods := ms
  attributes := attrs
def plain (name : String) (sup : Option ClassId) : Class where
  name := name
  kind := .ordinary
  loader := none
  accessFlags := 33
  super := sup
  interfaces := #[]
  cf := none
  fields := #[]
  methods := #[]
  instanceTypes := #[]
  staticTypes := #[]
  resolved := #[]
  callSites := []
  init := .initialized
  statics := none
  mirror := none

def pool0 : Array CpInfo := pool [(5, u "<init>"), (0, u "()V"), (1, .class_ 10), (1, u "java/lang/Object")] 113

def k0c0 : Code := { maxStack := 0, maxLocals := 1, code := object_method_1_code, exceptionTable := #[], attributes := #[] }
def k0m0 : Method := { name := "<init>", desc := "()V", sig := { parameters := [], returnType := none }, accessFlags := 1, code := some k0c0 }
/-- java/lang/Object -/
def k0 : Class := { plain "java/lang/Object" none with
  accessFlags := 33
  interfaces := #[]
  cf := some (fileOf pool0 8 #[] #[{ accessFlags := 1, nameIndex := 5, descriptorIndex := 6, attributes := #[] }] 33 0 #[] #[])
  fields := #[]
  methods := #[k0m0]
  instanceTypes := #[]
  staticTypes := #[]
  resolved := Array.replicate 124 none
  statics := none }

def pool1 : Array CpInfo := pool [(2, .class_ 4), (0, .nameAndType 5 6), (0, u "java/lang/Object"), (0, u "<init>"), (0, u "()V"), (0, .methodref 8 9), (0, .class_ 10), (0, .nameAndType 11 12), (0, u "java/lang/Integer"), (0, u "valueOf"), (0, u "(I)Ljava/lang/Integer;"), (0, .methodref 14 15), (0, .class_ 16), (0, .nameAndType 11 17), (0, u "java/lang/Long"), (0, u "(J)Ljava/lang/Long;"), (0, .long 255), (1, .class_ 21), (0, u "java/lang/String"), (0, .methodref 20 23), (0, .nameAndType 5 24), (0, u "([C)V"), (0, .class_ 26), (0, u "java/util/ArrayList"), (0, .methodref 25 3), (0, .methodref 25 29), (0, .nameAndType 30 31), (0, u "add"), (0, u "(Ljava/lang/Object;)Z"), (0, .methodref 33 34), (0, .class_ 35), (0, .nameAndType 36 37), (0, u "com/example/lease/lease/error/NoRouteException$PassedOver"), (0, u "full"), (0, u "(Ljava/lang/Object;)Lcom/example/lease/lease/error/NoRouteException$PassedOver;"), (0, .methodref 33 39), (0, .nameAndType 40 41), (0, u "route"), (0, u "()Ljava/lang/Object;"), (0, .methodref 33 43), (0, .nameAndType 44 45), (0, u "isFull"), (0, u "()Z"), (0, .methodref 33 47), (0, .nameAndType 48 49), (0, u "connectFailure"), (0, u "()Lcom/example/lease/lease/error/ConnectFailedException;"), (0, .class_ 51), (0, u "com/example/lease/lease/error/PassedOverFullPinLaw"), (2, u "law"), (0, u "(IJI)Z")] 7

def k1m0 : Method := { name := "<init>", desc := "()V", sig := { parameters := [], returnType := none }, accessFlags := 2, code := none }
def k1c1 : Code := { maxStack := 7, maxLocals := 7, code := code, exceptionTable := #[], attributes := #[] }
def k1m1 : Method := { name := "law", desc := "(IJI)Z", sig := { parameters := [.int, .long, .int], returnType := some .boolean }, accessFlags := 9, code := some k1c1 }
/-- com/example/lease/lease/error/PassedOverFullPinLaw -/
def k1 : Class := { plain "com/example/lease/lease/error/PassedOverFullPinLaw" (some 0) with
  accessFlags := 49
  interfaces := #[]
  cf := some (fileOf pool1 50 #[] #[{ accessFlags := 2, nameIndex := 5, descriptorIndex := 6, attributes := #[] }, { accessFlags := 9, nameIndex := 54, descriptorIndex := 55, attributes := #[] }] 49 2 #[] #[])
  fields := #[]
  methods := #[k1m0, k1m1]
  instanceTypes := #[]
  staticTypes := #[]
  resolved := Array.replicate 63 none
  statics := none }

def pool2 : Array CpInfo := pool [(1, .class_ 2), (0, u "java/io/Serializable"), (0, .class_ 4), (0, u "java/lang/Object")] 2

/-- java/io/Serializable -/
def k2 : Class := { plain "java/io/Serializable" (some 0) with
  accessFlags := 1537
  interfaces := #[]
  cf := some (fileOf pool2 1 #[] #[] 1537 3 #[] #[])
  fields := #[]
  methods := #[]
  instanceTypes := #[]
  staticTypes := #[]
  resolved := Array.replicate 7 none
  statics := none }

def pool3 : Array CpInfo := pool [(1, .methodref 2 3), (0, .class_ 4), (0, .nameAndType 5 6), (0, u "java/lang/Object"), (0, u "<init>"), (0, u "()V"), (1, .class_ 10), (1, u "java/lang/Number"), (2, .class_ 14), (0, u "java/io/Serializable"), (0, u "serialVersionUID"), (0, u "J")] 20

def k3c0 : Code := { maxStack := 1, maxLocals := 1, code := jdk_18_method_1_code, exceptionTable := #[], attributes := #[] }
def k3m0 : Method := { name := "<init>", desc := "()V", sig := { parameters := [], returnType := none }, accessFlags := 1, code := some k3c0 }
/-- java/lang/Number -/
def k3 : Class := { plain "java/lang/Number" (some 0) with
  accessFlags := 1057
  interfaces := #[2]
  cf := some (fileOf pool3 8 #[] #[{ accessFlags := 1, nameIndex := 5, descriptorIndex := 6, attributes := #[] }] 1057 2 #[13] #[{ accessFlags := 26, nameIndex := 15, descriptorIndex := 16, attributes := #[] }])
  fields := #[{ name := "serialVersionUID", type := .long, accessFlags := 26, slot := 0, constantValue := 0 }]
  methods := #[k3m0]
  instanceTypes := #[]
  staticTypes := #[.long]
  resolved := Array.replicate 37 none
  statics := none }

def pool4 : Array CpInfo := pool [(1, .class_ 2), (0, u "java/lang/Comparable"), (0, .class_ 4), (0, u "java/lang/Object")] 7

/-- java/lang/Comparable -/
def k4 : Class := { plain "java/lang/Comparable" (some 0) with
  accessFlags := 1537
  interfaces := #[]
  cf := some (fileOf pool4 1 #[] #[] 1537 3 #[] #[])
  fields := #[]
  methods := #[]
  instanceTypes := #[]
  staticTypes := #[]
  resolved := Array.replicate 12 none
  statics := none }

def pool5 : Array CpInfo := pool [(1, .class_ 2), (0, u "java/lang/constant/Constable"), (0, .class_ 4), (0, u "java/lang/Object")] 6

/-- java/lang/constant/Constable -/
def k5 : Class := { plain "java/lang/constant/Constable" (some 0) with
  accessFlags := 1537
  interfaces := #[]
  cf := some (fileOf pool5 1 #[] #[] 1537 3 #[] #[])
  fields := #[]
  methods := #[]
  instanceTypes := #[]
  staticTypes := #[]
  resolved := Array.replicate 11 none
  statics := none }

def pool6 : Array CpInfo := pool [(1, .class_ 2), (0, u "java/lang/constant/ConstantDesc"), (0, .class_ 4), (0, u "java/lang/Object")] 32

/-- java/lang/constant/ConstantDesc -/
def k6 : Class := { plain "java/lang/constant/ConstantDesc" (some 0) with
  accessFlags := 1537
  interfaces := #[]
  cf := some (fileOf pool6 1 #[] #[] 1537 3 #[] #[])
  fields := #[]
  methods := #[]
  instanceTypes := #[]
  staticTypes := #[]
  resolved := Array.replicate 37 none
  statics := none }

def pool7 : Array CpInfo := pool [(1, .class_ 2), (0, u "java/lang/Long"), (55, .nameAndType 59 60), (0, u "<init>"), (0, u "()V"), (24, u "valueOf"), (143, u "(J)Ljava/lang/Long;"), (0, .long 18446744073709551488), (1, .long 127), (1, .fieldref 235 236), (0, .class_ 237), (0, .nameAndType 238 239), (0, u "java/lang/Long$LongCache"), (0, u "cache"), (0, u "[Ljava/lang/Long;"), (0, .methodref 1 241), (0, .nameAndType 59 242), (0, u "(J)V"), (27, .methodref 271 58), (0, .class_ 272), (0, u "java/lang/Number"), (0, .fieldref 1 274), (0, .nameAndType 275 276), (0, u "value"), (0, u "J"), (84, u "TYPE"), (0, u "Ljava/lang/Class;"), (0, .class_ 364), (0, u "java/lang/Comparable"), (0, .class_ 366), (0, u "java/lang/constant/Constable"), (0, .class_ 368), (0, u "java/lang/constant/ConstantDesc"), (0, u "MIN_VALUE"), (1, u "MAX_VALUE"), (4, u "SIZE"), (0, u "I"), (1, u "BYTES"), (1, u "serialVersionUID")] 142

def k7c0 : Code := { maxStack := 4, maxLocals := 3, code := jdk_35_method_24_code, exceptionTable := #[], attributes := #[] }
def k7m0 : Method := { name := "valueOf", desc := "(J)Ljava/lang/Long;", sig := { parameters := [.long], returnType := some (.object "java/lang/Long") }, accessFlags := 9, code := some k7c0 }
def k7c1 : Code := { maxStack := 3, maxLocals := 3, code := jdk_35_method_26_code, exceptionTable := #[], attributes := #[] }
def k7m1 : Method := { name := "<init>", desc := "(J)V", sig := { parameters := [.long], returnType := none }, accessFlags := 1, code := some k7c1 }
/-- java/lang/Long -/
def k7 : Class := { plain "java/lang/Long" (some 3) with
  accessFlags := 49
  interfaces := #[4, 5, 6]
  cf := some (fileOf pool7 1 #[.nestMembers #[235]] #[{ accessFlags := 9, nameIndex := 85, descriptorIndex := 229, attributes := #[] }, { accessFlags := 1, nameIndex := 59, descriptorIndex := 242, attributes := #[] }] 49 271 #[363, 365, 367] #[{ accessFlags := 25, nameIndex := 369, descriptorIndex := 276, attributes := #[] }, { accessFlags := 25, nameIndex := 371, descriptorIndex := 276, attributes := #[] }, { accessFlags := 25, nameIndex := 361, descriptorIndex := 362, attributes := #[] }, { accessFlags := 18, nameIndex := 275, descriptorIndex := 276, attributes := #[] }, { accessFlags := 25, nameIndex := 376, descriptorIndex := 377, attributes := #[] }, { accessFlags := 25, nameIndex := 379, descriptorIndex := 377, attributes := #[] }, { accessFlags := 26, nameIndex := 381, descriptorIndex := 276, attributes := #[] }])
  fields := #[{ name := "MIN_VALUE", type := .long, accessFlags := 25, slot := 0, constantValue := 0 }, { name := "MAX_VALUE", type := .long, accessFlags := 25, slot := 1, constantValue := 0 }, { name := "TYPE", type := (.object "java/lang/Class"), accessFlags := 25, slot := 2, constantValue := 0 }, { name := "value", type := .long, accessFlags := 18, slot := 0, constantValue := 0 }, { name := "SIZE", type := .int, accessFlags := 25, slot := 3, constantValue := 0 }, { name := "BYTES", type := .int, accessFlags := 25, slot := 4, constantValue := 0 }, { name := "serialVersionUID", type := .long, accessFlags := 26, slot := 5, constantValue := 0 }]
  methods := #[k7m0, k7m1]
  instanceTypes := #[.long]
  staticTypes := #[.long, .long, (.object "java/lang/Class"), .int, .int, .long]
  resolved := Array.replicate 524 none
  statics := none }

def pool8 : Array CpInfo := pool [(2, .class_ 4), (1, u "java/lang/Object"), (0, u "<init>"), (0, u "()V"), (0, .class_ 8), (0, u "java/lang/Long"), (7, .class_ 18), (1, u "java/lang/Long$LongCache"), (0, u "$assertionsDisabled"), (0, u "Z"), (8, u "archivedCache"), (0, u "[Ljava/lang/Long;"), (7, u "cache")] 24

def k8m0 : Method := { name := "<init>", desc := "()V", sig := { parameters := [], returnType := none }, accessFlags := 2, code := none }
/-- java/lang/Long$LongCache -/
def k8 : Class := { plain "java/lang/Long$LongCache" (some 0) with
  accessFlags := 48
  interfaces := #[]
  cf := some (fileOf pool8 16 #[.nestHost 7] #[{ accessFlags := 2, nameIndex := 5, descriptorIndex := 6, attributes := #[] }] 48 2 #[] #[{ accessFlags := 24, nameIndex := 38, descriptorIndex := 30, attributes := #[] }, { accessFlags := 8, nameIndex := 29, descriptorIndex := 30, attributes := #[] }, { accessFlags := 4120, nameIndex := 19, descriptorIndex := 20, attributes := #[] }])
  fields := #[{ name := "cache", type := (.array (.object "java/lang/Long")), accessFlags := 24, slot := 0, constantValue := 0 }, { name := "archivedCache", type := (.array (.object "java/lang/Long")), accessFlags := 8, slot := 1, constantValue := 0 }, { name := "$assertionsDisabled", type := .boolean, accessFlags := 4120, slot := 2, constantValue := 0 }]
  methods := #[k8m0]
  instanceTypes := #[]
  staticTypes := #[(.array (.object "java/lang/Long")), (.array (.object "java/lang/Long")), .boolean]
  resolved := Array.replicate 63 none
  statics := some 0 }

def pool9 : Array CpInfo := pool [(1, .methodref 2 3), (0, .class_ 4), (0, .nameAndType 5 6), (0, u "java/lang/Object"), (0, u "<init>"), (0, u "()V"), (0, .fieldref 8 9), (0, .class_ 10), (0, .nameAndType 11 12), (0, u "com/example/lease/lease/error/NoRouteException$PassedOver"), (0, u "route"), (0, u "Ljava/lang/Object;"), (0, .fieldref 8 14), (0, .nameAndType 15 16), (0, u "connectFailure"), (0, u "Lcom/example/lease/lease/error/ConnectFailedException;"), (0, .string 11), (0, .methodref 19 20), (0, .class_ 21), (0, .nameAndType 22 23), (0, u "java/util/Objects"), (0, u "requireNonNull"), (0, u "(Ljava/lang/Object;Ljava/lang/String;)Ljava/lang/Object;"), (0, .methodref 8 25), (0, .nameAndType 5 26), (0, u "(Ljava/lang/Object;Lcom/example/lease/lease/error/ConnectFailedException;)V"), (4, u "()Ljava/lang/Object;"), (2, u "full"), (0, u "(Ljava/lang/Object;)Lcom/example/lease/lease/error/NoRouteException$PassedOver;"), (2, u "isFull"), (0, u "()Z"), (1, u "()Lcom/example/lease/lease/error/ConnectFailedException;"), (3, .class_ 46), (0, u "com/example/lease/lease/error/NoRouteException")] 2

def k9c0 : Code := { maxStack := 2, maxLocals := 3, code := prog_10_method_1_code, exceptionTable := #[], attributes := #[] }
def k9m0 : Method := { name := "<init>", desc := "(Ljava/lang/Object;Lcom/example/lease/lease/error/ConnectFailedException;)V", sig := { parameters := [(.object "java/lang/Object"), (.object "com/example/lease/lease/error/ConnectFailedException")], returnType := none }, accessFlags := 2, code := some k9c0 }
def k9c1 : Code := { maxStack := 4, maxLocals := 1, code := prog_10_method_2_code, exceptionTable := #[], attributes := #[] }
def k9m1 : Method := { name := "full", desc := "(Ljava/lang/Object;)Lcom/example/lease/lease/error/NoRouteException$PassedOver;", sig := { parameters := [(.object "java/lang/Object")], returnType := some (.object "com/example/lease/lease/error/NoRouteException$PassedOver") }, accessFlags := 9, code := some k9c1 }
def k9c2 : Code := { maxStack := 1, maxLocals := 1, code := prog_10_method_4_code, exceptionTable := #[], attributes := #[] }
def k9m2 : Method := { name := "route", desc := "()Ljava/lang/Object;", sig := { parameters := [], returnType := some (.object "java/lang/Object") }, accessFlags := 1, code := some k9c2 }
def k9c3 : Code := { maxStack := 1, maxLocals := 1, code := prog_10_method_5_code, exceptionTable := #[], attributes := #[] }
def k9m3 : Method := { name := "isFull", desc := "()Z", sig := { parameters := [], returnType := some .boolean }, accessFlags := 1, code := some k9c3 }
def k9c4 : Code := { maxStack := 1, maxLocals := 1, code := prog_10_method_6_code, exceptionTable := #[], attributes := #[] }
def k9m4 : Method := { name := "connectFailure", desc := "()Lcom/example/lease/lease/error/ConnectFailedException;", sig := { parameters := [], returnType := some (.object "com/example/lease/lease/error/ConnectFailedException") }, accessFlags := 1, code := some k9c4 }
/-- com/example/lease/lease/error/NoRouteException$PassedOver -/
def k9 : Class := { plain "com/example/lease/lease/error/NoRouteException$PassedOver" (some 0) with
  accessFlags := 49
  interfaces := #[]
  cf := some (fileOf pool9 8 #[.nestHost 45] #[{ accessFlags := 2, nameIndex := 5, descriptorIndex := 26, attributes := #[] }, { accessFlags := 9, nameIndex := 34, descriptorIndex := 35, attributes := #[] }, { accessFlags := 1, nameIndex := 11, descriptorIndex := 31, attributes := #[] }, { accessFlags := 1, nameIndex := 38, descriptorIndex := 39, attributes := #[] }, { accessFlags := 1, nameIndex := 15, descriptorIndex := 41, attributes := #[] }] 49 2 #[] #[{ accessFlags := 18, nameIndex := 11, descriptorIndex := 12, attributes := #[] }, { accessFlags := 18, nameIndex := 15, descriptorIndex := 16, attributes := #[] }])
  fields := #[{ name := "route", type := (.object "java/lang/Object"), accessFlags := 18, slot := 0, constantValue := 0 }, { name := "connectFailure", type := (.object "com/example/lease/lease/error/ConnectFailedException"), accessFlags := 18, slot := 1, constantValue := 0 }]
  methods := #[k9m0, k9m1, k9m2, k9m3, k9m4]
  instanceTypes := #[(.object "java/lang/Object"), (.object "com/example/lease/lease/error/ConnectFailedException")]
  staticTypes := #[]
  resolved := Array.replicate 49 none
  statics := none }

def pool10 : Array CpInfo := pool [(2, .class_ 4), (1, u "java/lang/CharSequence"), (42, .class_ 48), (0, u "java/lang/CharSequence$1CodePointIterator"), (10, .class_ 60), (0, u "java/lang/CharSequence$1CharIterator"), (5, .class_ 67), (0, u "java/lang/Object")] 63

/-- java/lang/CharSequence -/
def k10 : Class := { plain "java/lang/CharSequence" (some 0) with
  accessFlags := 1537
  interfaces := #[]
  cf := some (fileOf pool10 2 #[.nestMembers #[47, 59]] #[] 1537 66 #[] #[])
  fields := #[]
  methods := #[]
  instanceTypes := #[]
  staticTypes := #[]
  resolved := Array.replicate 131 none
  statics := none }

def pool11 : Array CpInfo := pool [(1, .methodref 2 3), (0, .class_ 4), (0, .nameAndType 5 6), (0, u "java/lang/Object"), (0, u "<init>"), (0, u "()V"), (2, .fieldref 10 11), (0, .class_ 12), (0, .nameAndType 13 14), (0, u "java/lang/String"), (0, u "value"), (0, u "[B"), (0, .fieldref 10 16), (0, .nameAndType 17 18), (0, u "coder"), (0, u "B"), (2, u "hash"), (0, u "I"), (2, u "hashIsZero"), (0, u "Z"), (0, .methodref 10 28), (0, .nameAndType 5 29), (0, u "([CIILjava/lang/Void;)V"), (8, .fieldref 10 39), (0, .nameAndType 40 26), (0, u "COMPACT_STRINGS"), (1, .class_ 44), (1, u "java/lang/StringUTF16"), (0, u "compress"), (1, .methodref 42 48), (0, .nameAndType 49 50), (0, u "coderFromArrayLen"), (0, u "([BI)B"), (126, .methodref 42 178), (0, .nameAndType 45 179), (0, u "([CII)[B"), (395, .class_ 576), (0, u "java/lang/CharSequence"), (22, u "CASE_INSENSITIVE_ORDER"), (0, u "Ljava/util/Comparator;"), (409, u "([C)V"), (90, u "serialPersistentFields"), (0, u "[Ljava/io/ObjectStreamField;"), (0, .class_ 1104), (0, u "java/lang/String$CaseInsensitiveComparator"), (1, .class_ 1107), (0, u "java/io/Serializable"), (0, .class_ 1109), (0, u "java/lang/Comparable"), (0, .class_ 1111), (0, u "java/lang/constant/Constable"), (0, .class_ 1113), (0, u "java/lang/constant/ConstantDesc"), (2, u "serialVersionUID"), (0, u "J"), (3, u "REPL"), (0, u "C"), (2, u "LATIN1"), (1, u "UTF16")] 323

def k11m0 : Method := { name := "<init>", desc := "()V", sig := { parameters := [], returnType := none }, accessFlags := 1, code := none }
def k11c1 : Code := { maxStack := 5, maxLocals := 2, code := jdk_42_method_3_code, exceptionTable := #[], attributes := #[] }
def k11m1 : Method := { name := "<init>", desc := "([C)V", sig := { parameters := [(.array .char)], returnType := none }, accessFlags := 1, code := some k11c1 }
def k11c2 : Code := { maxStack := 4, maxLocals := 6, code := jdk_42_method_149_code, exceptionTable := #[], attributes := #[] }
def k11m2 : Method := { name := "<init>", desc := "([CIILjava/lang/Void;)V", sig := { parameters := [(.array .char), .int, .int, (.object "java/lang/Void")], returnType := none }, accessFlags := 2, code := some k11c2 }
/-- java/lang/String -/
def k11 : Class := { plain "java/lang/String" (some 0) with
  accessFlags := 49
  interfaces := #[2, 4, 10, 5, 6]
  cf := some (fileOf pool11 10 #[.nestMembers #[1103]] #[{ accessFlags := 1, nameIndex := 5, descriptorIndex := 6, attributes := #[] }, { accessFlags := 1, nameIndex := 5, descriptorIndex := 1010, attributes := #[] }, { accessFlags := 2, nameIndex := 5, descriptorIndex := 29, attributes := #[] }] 49 2 #[1106, 1108, 575, 1110, 1112] #[{ accessFlags := 18, nameIndex := 13, descriptorIndex := 14, attributes := #[] }, { accessFlags := 18, nameIndex := 17, descriptorIndex := 18, attributes := #[] }, { accessFlags := 2, nameIndex := 21, descriptorIndex := 22, attributes := #[] }, { accessFlags := 2, nameIndex := 25, descriptorIndex := 26, attributes := #[] }, { accessFlags := 26, nameIndex := 1116, descriptorIndex := 1117, attributes := #[] }, { accessFlags := 24, nameIndex := 40, descriptorIndex := 26, attributes := #[] }, { accessFlags := 26, nameIndex := 1101, descriptorIndex := 1102, attributes := #[] }, { accessFlags := 26, nameIndex := 1121, descriptorIndex := 1122, attributes := #[] }, { accessFlags := 25, nameIndex := 599, descriptorIndex := 600, attributes := #[] }, { accessFlags := 24, nameIndex := 1125, descriptorIndex := 18, attributes := #[] }, { accessFlags := 24, nameIndex := 1127, descriptorIndex := 18, attributes := #[] }])
  fields := #[{ name := "value", type := (.array .byte), accessFlags := 18, slot := 0, constantValue := 0 }, { name := "coder", type := .byte, accessFlags := 18, slot := 1, constantValue := 0 }, { name := "hash", type := .int, accessFlags := 2, slot := 2, constantValue := 0 }, { name := "hashIsZero", type := .boolean, accessFlags := 2, slot := 3, constantValue := 0 }, { name := "serialVersionUID", type := .long, accessFlags := 26, slot := 0, constantValue := 0 }, { name := "COMPACT_STRINGS", type := .boolean, accessFlags := 24, slot := 1, constantValue := 0 }, { name := "serialPersistentFields", type := (.array (.object "java/io/ObjectStreamField")), accessFlags := 26, slot := 2, constantValue := 0 }, { name := "REPL", type := .char, accessFlags := 26, slot := 3, constantValue := 0 }, { name := "CASE_INSENSITIVE_ORDER", type := (.object "java/util/Comparator"), accessFlags := 25, slot := 4, constantValue := 0 }, { name := "LATIN1", type := .byte, accessFlags := 24, slot := 5, constantValue := 0 }, { name := "UTF16", type := .byte, accessFlags := 24, slot := 6, constantValue := 0 }]
  methods := #[k11m0, k11m1, k11m2]
  instanceTypes := #[(.array .byte), .byte, .int, .boolean]
  staticTypes := #[.long, .boolean, (.array (.object "java/io/ObjectStreamField")), .char, (.object "java/util/Comparator"), .byte, .byte]
  resolved := Array.replicate 1451 none
  statics := some 1 }

def pool12 : Array CpInfo := pool [(2, .class_ 4), (1, u "java/lang/Object"), (0, u "<init>"), (0, u "()V"), (35, .class_ 44), (1, u "java/util/Objects"), (0, u "requireNonNull"), (48, u "(Ljava/lang/Object;Ljava/lang/String;)Ljava/lang/Object;")] 89

def k12m0 : Method := { name := "<init>", desc := "()V", sig := { parameters := [], returnType := none }, accessFlags := 2, code := none }
def k12c1 : Code := { maxStack := 3, maxLocals := 2, code := jdk_31_method_11_code, exceptionTable := #[], attributes := #[] }
def k12m1 : Method := { name := "requireNonNull", desc := "(Ljava/lang/Object;Ljava/lang/String;)Ljava/lang/Object;", sig := { parameters := [(.object "java/lang/Object"), (.object "java/lang/String")], returnType := some (.object "java/lang/Object") }, accessFlags := 9, code := some k12c1 }
/-- java/util/Objects -/
def k12 : Class := { plain "java/util/Objects" (some 0) with
  accessFlags := 49
  interfaces := #[]
  cf := some (fileOf pool12 42 #[] #[{ accessFlags := 2, nameIndex := 5, descriptorIndex := 6, attributes := #[] }, { accessFlags := 9, nameIndex := 45, descriptorIndex := 94, attributes := #[] }] 49 2 #[] #[])
  fields := #[]
  methods := #[k12m0, k12m1]
  instanceTypes := #[]
  staticTypes := #[]
  resolved := Array.replicate 184 none
  statics := none }

def pool13 : Array CpInfo := pool [(6, .class_ 8), (1, u "java/lang/Object"), (0, u "<init>"), (0, u "()V"), (1, .class_ 14), (1, u "java/lang/StringUTF16"), (31, u "$assertionsDisabled"), (0, u "Z"), (13, u "HI_BYTE_SHIFT"), (0, u "I"), (2, u "LO_BYTE_SHIFT"), (49, .methodref 12 116), (0, .nameAndType 117 118), (0, u "compress"), (0, u "([CI[BII)I"), (3, u "([CII)[B"), (138, u "coderFromArrayLen"), (0, u "([BI)B"), (106, .class_ 371), (1, u "java/lang/StringUTF16$LinesSpliterator"), (58, u "MAX_LENGTH"), (196, .class_ 628), (0, u "java/lang/StringUTF16$CodePointsSpliterator"), (0, .class_ 630), (0, u "java/lang/StringUTF16$CharsSpliterator")] 4

def k13m0 : Method := { name := "<init>", desc := "()V", sig := { parameters := [], returnType := none }, accessFlags := 0, code := none }
def k13c1 : Code := { maxStack := 2, maxLocals := 2, code := jdk_52_method_15_code, exceptionTable := #[], attributes := #[] }
def k13m1 : Method := { name := "coderFromArrayLen", desc := "([BI)B", sig := { parameters := [(.array .byte), .int], returnType := some .byte }, accessFlags := 8, code := some k13c1 }
def k13c2 : Code := { maxStack := 5, maxLocals := 6, code := jdk_52_method_16_code, exceptionTable := #[], attributes := #[] }
def k13m2 : Method := { name := "compress", desc := "([CII)[B", sig := { parameters := [(.array .char), .int, .int], returnType := some (.array .byte) }, accessFlags := 9, code := some k13c2 }
def k13c3 : Code := { maxStack := 3, maxLocals := 7, code := jdk_52_method_21_code, exceptionTable := #[], attributes := #[] }
def k13m3 : Method := { name := "compress", desc := "([CI[BII)I", sig := { parameters := [(.array .char), .int, (.array .byte), .int, .int], returnType := some .int }, accessFlags := 9, code := some k13c3 }
/-- java/lang/StringUTF16 -/
def k13 : Class := { plain "java/lang/StringUTF16" (some 0) with
  accessFlags := 48
  interfaces := #[]
  cf := some (fileOf pool13 12 #[.nestMembers #[627, 629, 369]] #[{ accessFlags := 0, nameIndex := 9, descriptorIndex := 10, attributes := #[] }, { accessFlags := 8, nameIndex := 261, descriptorIndex := 262, attributes := #[] }, { accessFlags := 9, nameIndex := 117, descriptorIndex := 122, attributes := #[] }, { accessFlags := 9, nameIndex := 117, descriptorIndex := 118, attributes := #[] }] 48 6 #[] #[{ accessFlags := 26, nameIndex := 61, descriptorIndex := 62, attributes := #[] }, { accessFlags := 26, nameIndex := 65, descriptorIndex := 62, attributes := #[] }, { accessFlags := 24, nameIndex := 430, descriptorIndex := 62, attributes := #[] }, { accessFlags := 4120, nameIndex := 46, descriptorIndex := 47, attributes := #[] }])
  fields := #[{ name := "HI_BYTE_SHIFT", type := .int, accessFlags := 26, slot := 0, constantValue := 0 }, { name := "LO_BYTE_SHIFT", type := .int, accessFlags := 26, slot := 1, constantValue := 0 }, { name := "MAX_LENGTH", type := .int, accessFlags := 24, slot := 2, constantValue := 0 }, { name := "$assertionsDisabled", type := .boolean, accessFlags := 4120, slot := 3, constantValue := 0 }]
  methods := #[k13m0, k13m1, k13m2, k13m3]
  instanceTypes := #[]
  staticTypes := #[.int, .int, .int, .boolean]
  resolved := Array.replicate 635 none
  statics := none }

def pool14 : Array CpInfo := pool [(1, .class_ 2), (0, u "java/lang/Integer"), (16, u "digits"), (0, u "[C"), (46, u "<init>"), (17, u "DigitOnes"), (0, u "[B"), (2, u "DigitTens"), (10, .nameAndType 67 101), (0, u "()V"), (85, u "valueOf"), (0, u "(I)Ljava/lang/Integer;"), (0, .class_ 190), (0, u "java/lang/Integer$IntegerCache"), (0, .fieldref 189 192), (0, .nameAndType 193 194), (0, u "high"), (0, u "I"), (0, .fieldref 189 196), (0, .nameAndType 197 198), (0, u "cache"), (0, u "[Ljava/lang/Integer;"), (0, .methodref 1 200), (0, .nameAndType 67 201), (0, u "(I)V"), (0, .methodref 203 100), (0, .class_ 204), (0, u "java/lang/Number"), (0, .fieldref 1 206), (0, .nameAndType 207 194), (0, u "value"), (94, u "TYPE"), (0, u "Ljava/lang/Class;"), (0, .class_ 305), (0, u "java/lang/Comparable"), (0, .class_ 307), (0, u "java/lang/constant/Constable"), (0, .class_ 309), (0, u "java/lang/constant/ConstantDesc"), (0, u "MIN_VALUE"), (1, u "MAX_VALUE"), (3, u "SIZE"), (1, u "BYTES"), (1, u "serialVersionUID"), (0, u "J")] 131

def k14c0 : Code := { maxStack := 3, maxLocals := 1, code := jdk_33_method_22_code, exceptionTable := #[], attributes := #[] }
def k14m0 : Method := { name := "valueOf", desc := "(I)Ljava/lang/Integer;", sig := { parameters := [.int], returnType := some (.object "java/lang/Integer") }, accessFlags := 9, code := some k14c0 }
def k14c1 : Code := { maxStack := 2, maxLocals := 2, code := jdk_33_method_23_code, exceptionTable := #[], attributes := #[] }
def k14m1 : Method := { name := "<init>", desc := "(I)V", sig := { parameters := [.int], returnType := none }, accessFlags := 1, code := some k14c1 }
/-- java/lang/Integer -/
def k14 : Class := { plain "java/lang/Integer" (some 3) with
  accessFlags := 49
  interfaces := #[4, 5, 6]
  cf := some (fileOf pool14 1 #[.nestMembers #[189]] #[{ accessFlags := 9, nameIndex := 187, descriptorIndex := 188, attributes := #[] }, { accessFlags := 1, nameIndex := 67, descriptorIndex := 201, attributes := #[] }] 49 203 #[304, 306, 308] #[{ accessFlags := 25, nameIndex := 310, descriptorIndex := 194, attributes := #[] }, { accessFlags := 25, nameIndex := 312, descriptorIndex := 194, attributes := #[] }, { accessFlags := 25, nameIndex := 302, descriptorIndex := 303, attributes := #[] }, { accessFlags := 24, nameIndex := 19, descriptorIndex := 20, attributes := #[] }, { accessFlags := 24, nameIndex := 89, descriptorIndex := 86, attributes := #[] }, { accessFlags := 24, nameIndex := 85, descriptorIndex := 86, attributes := #[] }, { accessFlags := 18, nameIndex := 207, descriptorIndex := 194, attributes := #[] }, { accessFlags := 25, nameIndex := 316, descriptorIndex := 194, attributes := #[] }, { accessFlags := 25, nameIndex := 318, descriptorIndex := 194, attributes := #[] }, { accessFlags := 26, nameIndex := 320, descriptorIndex := 321, attributes := #[] }])
  fields := #[{ name := "MIN_VALUE", type := .int, accessFlags := 25, slot := 0, constantValue := 0 }, { name := "MAX_VALUE", type := .int, accessFlags := 25, slot := 1, constantValue := 0 }, { name := "TYPE", type := (.object "java/lang/Class"), accessFlags := 25, slot := 2, constantValue := 0 }, { name := "digits", type := (.array .char), accessFlags := 24, slot := 3, constantValue := 0 }, { name := "DigitTens", type := (.array .byte), accessFlags := 24, slot := 4, constantValue := 0 }, { name := "DigitOnes", type := (.array .byte), accessFlags := 24, slot := 5, constantValue := 0 }, { name := "value", type := .int, accessFlags := 18, slot := 0, constantValue := 0 }, { name := "SIZE", type := .int, accessFlags := 25, slot := 6, constantValue := 0 }, { name := "BYTES", type := .int, accessFlags := 25, slot := 7, constantValue := 0 }, { name := "serialVersionUID", type := .long, accessFlags := 26, slot := 8, constantValue := 0 }]
  methods := #[k14m0, k14m1]
  instanceTypes := #[.int]
  staticTypes := #[.int, .int, (.object "java/lang/Class"), (.array .char), (.array .byte), (.array .byte), .int, .int, .long]
  resolved := Array.replicate 453 none
  statics := none }

def pool15 : Array CpInfo := pool [(2, .class_ 4), (1, u "java/lang/Object"), (0, u "<init>"), (0, u "()V"), (0, .class_ 8), (0, u "java/lang/Integer"), (7, .class_ 18), (1, u "java/lang/Integer$IntegerCache"), (0, u "$assertionsDisabled"), (0, u "Z"), (26, u "high"), (0, u "I"), (8, u "archivedCache"), (0, u "[Ljava/lang/Integer;"), (12, u "cache"), (0, u "low")] 27

def k15m0 : Method := { name := "<init>", desc := "()V", sig := { parameters := [], returnType := none }, accessFlags := 2, code := none }
/-- java/lang/Integer$IntegerCache -/
def k15 : Class := { plain "java/lang/Integer$IntegerCache" (some 0) with
  accessFlags := 48
  interfaces := #[]
  cf := some (fileOf pool15 16 #[.nestHost 7] #[{ accessFlags := 2, nameIndex := 5, descriptorIndex := 6, attributes := #[] }] 48 2 #[] #[{ accessFlags := 24, nameIndex := 72, descriptorIndex := 48, attributes := #[] }, { accessFlags := 24, nameIndex := 47, descriptorIndex := 48, attributes := #[] }, { accessFlags := 24, nameIndex := 71, descriptorIndex := 58, attributes := #[] }, { accessFlags := 8, nameIndex := 57, descriptorIndex := 58, attributes := #[] }, { accessFlags := 4120, nameIndex := 19, descriptorIndex := 20, attributes := #[] }])
  fields := #[{ name := "low", type := .int, accessFlags := 24, slot := 0, constantValue := 0 }, { name := "high", type := .int, accessFlags := 24, slot := 1, constantValue := 0 }, { name := "cache", type := (.array (.object "java/lang/Integer")), accessFlags := 24, slot := 2, constantValue := 0 }, { name := "archivedCache", type := (.array (.object "java/lang/Integer")), accessFlags := 8, slot := 3, constantValue := 0 }, { name := "$assertionsDisabled", type := .boolean, accessFlags := 4120, slot := 4, constantValue := 0 }]
  methods := #[k15m0]
  instanceTypes := #[]
  staticTypes := #[.int, .int, (.array (.object "java/lang/Integer")), (.array (.object "java/lang/Integer")), .boolean]
  resolved := Array.replicate 100 none
  statics := some 2 }

def pool16 : Array CpInfo := pool [(8, .class_ 10), (1, u "java/lang/Iterable"), (24, .class_ 36), (0, u "java/lang/Object")] 25

/-- java/lang/Iterable -/
def k16 : Class := { plain "java/lang/Iterable" (some 0) with
  accessFlags := 1537
  interfaces := #[]
  cf := some (fileOf pool16 8 #[] #[] 1537 35 #[] #[])
  fields := #[]
  methods := #[]
  instanceTypes := #[]
  staticTypes := #[]
  resolved := Array.replicate 62 none
  statics := none }

def pool17 : Array CpInfo := pool [(10, .class_ 12), (1, u "java/util/Collection"), (47, .class_ 61), (0, u "java/lang/Object"), (0, .class_ 63), (0, u "java/lang/Iterable")] 51

/-- java/util/Collection -/
def k17 : Class := { plain "java/util/Collection" (some 0) with
  accessFlags := 1537
  interfaces := #[16]
  cf := some (fileOf pool17 10 #[] #[] 1537 60 #[62] #[])
  fields := #[]
  methods := #[]
  instanceTypes := #[]
  staticTypes := #[]
  resolved := Array.replicate 115 none
  statics := none }

def pool18 : Array CpInfo := pool [(1, .methodref 2 3), (0, .class_ 4), (0, .nameAndType 5 6), (0, u "java/lang/Object"), (0, u "<init>"), (0, u "()V"), (1, .class_ 10), (1, u "java/util/AbstractCollection"), (66, .class_ 78), (0, u "java/util/Collection")] 81

def k18c0 : Code := { maxStack := 1, maxLocals := 1, code := jdk_22_method_1_code, exceptionTable := #[], attributes := #[] }
def k18m0 : Method := { name := "<init>", desc := "()V", sig := { parameters := [], returnType := none }, accessFlags := 4, code := some k18c0 }
/-- java/util/AbstractCollection -/
def k18 : Class := { plain "java/util/AbstractCollection" (some 0) with
  accessFlags := 1057
  interfaces := #[17]
  cf := some (fileOf pool18 8 #[] #[{ accessFlags := 4, nameIndex := 5, descriptorIndex := 6, attributes := #[] }] 1057 2 #[77] #[])
  fields := #[]
  methods := #[k18m0]
  instanceTypes := #[]
  staticTypes := #[]
  resolved := Array.replicate 160 none
  statics := none }

def pool19 : Array CpInfo := pool [(8, .class_ 10), (1, u "java/util/SequencedCollection"), (15, .class_ 27), (0, u "java/lang/Object"), (0, .class_ 29), (0, u "java/util/Collection")] 27

/-- java/util/SequencedCollection -/
def k19 : Class := { plain "java/util/SequencedCollection" (some 0) with
  accessFlags := 1537
  interfaces := #[17]
  cf := some (fileOf pool19 8 #[] #[] 1537 26 #[28] #[])
  fields := #[]
  methods := #[]
  instanceTypes := #[]
  staticTypes := #[]
  resolved := Array.replicate 57 none
  statics := none }

def pool20 : Array CpInfo := pool [(8, .class_ 10), (1, u "java/util/List"), (92, .class_ 104), (0, u "java/lang/Object"), (15, .class_ 121), (0, u "java/util/SequencedCollection")] 129

/-- java/util/List -/
def k20 : Class := { plain "java/util/List" (some 0) with
  accessFlags := 1537
  interfaces := #[19]
  cf := some (fileOf pool20 8 #[] #[] 1537 103 #[120] #[])
  fields := #[]
  methods := #[]
  instanceTypes := #[]
  staticTypes := #[]
  resolved := Array.replicate 251 none
  statics := none }

def pool21 : Array CpInfo := pool [(1, .methodref 2 3), (0, .class_ 4), (0, .nameAndType 5 6), (0, u "java/util/AbstractCollection"), (0, u "<init>"), (0, u "()V"), (0, .fieldref 8 9), (0, .class_ 10), (0, .nameAndType 11 12), (0, u "java/util/AbstractList"), (0, u "modCount"), (0, u "I"), (64, .class_ 78), (0, u "java/util/AbstractList$Itr"), (3, .class_ 83), (0, u "java/util/AbstractList$ListItr"), (9, .class_ 94), (0, u "java/util/AbstractList$RandomAccessSubList"), (3, .class_ 99), (0, u "java/util/AbstractList$SubList"), (33, .class_ 134), (0, u "java/util/List"), (73, .class_ 209), (0, u "java/util/AbstractList$SubList$1"), (0, .class_ 211), (0, u "java/util/AbstractList$RandomAccessSpliterator")] 6

def k21c0 : Code := { maxStack := 2, maxLocals := 1, code := jdk_39_method_1_code, exceptionTable := #[], attributes := #[] }
def k21m0 : Method := { name := "<init>", desc := "()V", sig := { parameters := [], returnType := none }, accessFlags := 4, code := some k21c0 }
/-- java/util/AbstractList -/
def k21 : Class := { plain "java/util/AbstractList" (some 18) with
  accessFlags := 1057
  interfaces := #[20]
  cf := some (fileOf pool21 8 #[.nestMembers #[93, 98, 208, 210, 82, 77]] #[{ accessFlags := 4, nameIndex := 5, descriptorIndex := 6, attributes := #[] }] 1057 2 #[133] #[{ accessFlags := 132, nameIndex := 11, descriptorIndex := 12, attributes := #[] }])
  fields := #[{ name := "modCount", type := .int, accessFlags := 132, slot := 0, constantValue := 0 }]
  methods := #[k21m0]
  instanceTypes := #[.int]
  staticTypes := #[]
  resolved := Array.replicate 218 none
  statics := none }

def pool22 : Array CpInfo := pool [(1, .class_ 2), (0, u "java/util/RandomAccess"), (0, .class_ 4), (0, u "java/lang/Object")] 2

/-- java/util/RandomAccess -/
def k22 : Class := { plain "java/util/RandomAccess" (some 0) with
  accessFlags := 1537
  interfaces := #[]
  cf := some (fileOf pool22 1 #[] #[] 1537 3 #[] #[])
  fields := #[]
  methods := #[]
  instanceTypes := #[]
  staticTypes := #[]
  resolved := Array.replicate 7 none
  statics := none }

def pool23 : Array CpInfo := pool [(1, .class_ 2), (0, u "java/lang/Cloneable"), (0, .class_ 4), (0, u "java/lang/Object")] 2

/-- java/lang/Cloneable -/
def k23 : Class := { plain "java/lang/Cloneable" (some 0) with
  accessFlags := 1537
  interfaces := #[]
  cf := some (fileOf pool23 1 #[] #[] 1537 3 #[] #[])
  fields := #[]
  methods := #[]
  instanceTypes := #[]
  staticTypes := #[]
  resolved := Array.replicate 7 none
  statics := none }

def pool24 : Array CpInfo := pool [(1, .methodref 2 3), (0, .class_ 4), (0, .nameAndType 5 6), (0, u "java/util/AbstractList"), (0, u "<init>"), (0, u "()V"), (0, .class_ 8), (0, u "java/lang/Object"), (0, .fieldref 10 11), (0, .class_ 12), (0, .nameAndType 13 14), (0, u "java/util/ArrayList"), (0, u "elementData"), (0, u "[Ljava/lang/Object;"), (2, u "EMPTY_ELEMENTDATA"), (21, .fieldref 10 40), (0, .nameAndType 41 14), (0, u "DEFAULTCAPACITY_EMPTY_ELEMENTDATA"), (5, u "()[Ljava/lang/Object;"), (0, .fieldref 10 49), (0, .nameAndType 50 51), (0, u "size"), (0, u "I"), (11, .fieldref 10 64), (0, .nameAndType 65 51), (0, u "modCount"), (3, .methodref 10 70), (0, .nameAndType 71 72), (0, u "grow"), (0, u "(I)[Ljava/lang/Object;"), (6, .methodref 80 81), (0, .class_ 82), (0, .nameAndType 83 84), (0, u "java/lang/Math"), (0, u "max"), (0, u "(II)I"), (11, u "(Ljava/lang/Object;)Z"), (32, .methodref 10 130), (0, .nameAndType 71 47), (0, .methodref 10 132), (0, .nameAndType 133 134), (0, u "add"), (0, u "(Ljava/lang/Object;[Ljava/lang/Object;I)V"), (13, .class_ 149), (0, u "java/util/List"), (112, .class_ 263), (0, u "java/util/ArrayList$ListItr"), (3, .class_ 268), (0, u "java/util/ArrayList$Itr"), (7, .class_ 277), (0, u "java/util/ArrayList$SubList"), (12, .class_ 291), (0, u "java/util/ArrayList$ArrayListSpliterator"), (37, .class_ 330), (0, u "java/util/RandomAccess"), (0, .class_ 332), (0, u "java/lang/Cloneable"), (0, .class_ 334), (0, u "java/io/Serializable"), (0, u "serialVersionUID"), (0, u "J"), (3, u "DEFAULT_CAPACITY"), (159, .class_ 501), (0, u "java/util/ArrayList$SubList$2"), (0, .class_ 503), (0, u "java/util/ArrayList$SubList$1")] 5

def k24c0 : Code := { maxStack := 2, maxLocals := 1, code := jdk_38_method_2_code, exceptionTable := #[], attributes := #[] }
def k24m0 : Method := { name := "<init>", desc := "()V", sig := { parameters := [], returnType := none }, accessFlags := 1, code := some k24c0 }
def k24c1 : Code := { maxStack := 4, maxLocals := 4, code := jdk_38_method_6_code, exceptionTable := #[], attributes := #[] }
def k24m1 : Method := { name := "grow", desc := "(I)[Ljava/lang/Object;", sig := { parameters := [.int], returnType := some (.array (.object "java/lang/Object")) }, accessFlags := 2, code := some k24c1 }
def k24c2 : Code := { maxStack := 3, maxLocals := 1, code := jdk_38_method_7_code, exceptionTable := #[], attributes := #[] }
def k24m2 : Method := { name := "grow", desc := "()[Ljava/lang/Object;", sig := { parameters := [], returnType := some (.array (.object "java/lang/Object")) }, accessFlags := 2, code := some k24c2 }
def k24c3 : Code := { maxStack := 3, maxLocals := 4, code := jdk_38_method_24_code, exceptionTable := #[], attributes := #[] }
def k24m3 : Method := { name := "add", desc := "(Ljava/lang/Object;[Ljava/lang/Object;I)V", sig := { parameters := [(.object "java/lang/Object"), (.array (.object "java/lang/Object")), .int], returnType := none }, accessFlags := 2, code := some k24c3 }
def k24c4 : Code := { maxStack := 4, maxLocals := 2, code := jdk_38_method_25_code, exceptionTable := #[], attributes := #[] }
def k24m4 : Method := { name := "add", desc := "(Ljava/lang/Object;)Z", sig := { parameters := [(.object "java/lang/Object")], returnType := some .boolean }, accessFlags := 1, code := some k24c4 }
/-- java/util/ArrayList -/
def k24 : Class := { plain "java/util/ArrayList" (some 21) with
  accessFlags := 33
  interfaces := #[20, 22, 23, 2]
  cf := some (fileOf pool24 10 #[.nestMembers #[290, 276, 500, 502, 262, 267]] #[{ accessFlags := 1, nameIndex := 5, descriptorIndex := 6, attributes := #[] }, { accessFlags := 2, nameIndex := 71, descriptorIndex := 72, attributes := #[] }, { accessFlags := 2, nameIndex := 71, descriptorIndex := 47, attributes := #[] }, { accessFlags := 2, nameIndex := 133, descriptorIndex := 134, attributes := #[] }, { accessFlags := 1, nameIndex := 133, descriptorIndex := 96, attributes := #[] }] 33 2 #[148, 329, 331, 333] #[{ accessFlags := 26, nameIndex := 335, descriptorIndex := 336, attributes := #[] }, { accessFlags := 26, nameIndex := 340, descriptorIndex := 51, attributes := #[] }, { accessFlags := 26, nameIndex := 17, descriptorIndex := 14, attributes := #[] }, { accessFlags := 26, nameIndex := 41, descriptorIndex := 14, attributes := #[] }, { accessFlags := 128, nameIndex := 13, descriptorIndex := 14, attributes := #[] }, { accessFlags := 2, nameIndex := 50, descriptorIndex := 51, attributes := #[] }])
  fields := #[{ name := "serialVersionUID", type := .long, accessFlags := 26, slot := 0, constantValue := 0 }, { name := "DEFAULT_CAPACITY", type := .int, accessFlags := 26, slot := 1, constantValue := 0 }, { name := "EMPTY_ELEMENTDATA", type := (.array (.object "java/lang/Object")), accessFlags := 26, slot := 2, constantValue := 0 }, { name := "DEFAULTCAPACITY_EMPTY_ELEMENTDATA", type := (.array (.object "java/lang/Object")), accessFlags := 26, slot := 3, constantValue := 0 }, { name := "elementData", type := (.array (.object "java/lang/Object")), accessFlags := 128, slot := 1, constantValue := 0 }, { name := "size", type := .int, accessFlags := 2, slot := 2, constantValue := 0 }]
  methods := #[k24m0, k24m1, k24m2, k24m3, k24m4]
  instanceTypes := #[.int, (.array (.object "java/lang/Object")), .int]
  staticTypes := #[.long, .int, (.array (.object "java/lang/Object")), (.array (.object "java/lang/Object"))]
  resolved := Array.replicate 509 none
  statics := some 3 }

def pool25 : Array CpInfo := pool [(1, .class_ 2), (0, u "java/lang/Math"), (1, .class_ 6), (1, u "java/lang/Object"), (0, u "<init>"), (0, u "()V"), (89, .class_ 100), (1, u "java/lang/Math$RandomNumberGeneratorHolder"), (71, u "negativeZeroFloatBits"), (0, u "J"), (2, u "negativeZeroDoubleBits"), (21, u "max"), (46, u "$assertionsDisabled"), (0, u "Z"), (88, u "(II)I"), (2, u "twoToTheDoubleScaleDown"), (0, u "D"), (4, u "twoToTheDoubleScaleUp"), (9, u "E"), (3, u "PI"), (2, u "TAU"), (2, u "DEGREES_TO_RADIANS"), (0, u "RADIANS_TO_DEGREES")] 94

def k25m0 : Method := { name := "<init>", desc := "()V", sig := { parameters := [], returnType := none }, accessFlags := 2, code := none }
def k25c1 : Code := { maxStack := 2, maxLocals := 2, code := jdk_29_method_65_code, exceptionTable := #[], attributes := #[] }
def k25m1 : Method := { name := "max", desc := "(II)I", sig := { parameters := [.int, .int], returnType := some .int }, accessFlags := 9, code := some k25c1 }
/-- java/lang/Math -/
def k25 : Class := { plain "java/lang/Math" (some 0) with
  accessFlags := 49
  interfaces := #[]
  cf := some (fileOf pool25 1 #[.nestMembers #[98]] #[{ accessFlags := 2, nameIndex := 7, descriptorIndex := 8, attributes := #[] }, { accessFlags := 9, nameIndex := 198, descriptorIndex := 335, attributes := #[] }] 49 4 #[] #[{ accessFlags := 25, nameIndex := 354, descriptorIndex := 339, attributes := #[] }, { accessFlags := 25, nameIndex := 358, descriptorIndex := 339, attributes := #[] }, { accessFlags := 25, nameIndex := 361, descriptorIndex := 339, attributes := #[] }, { accessFlags := 26, nameIndex := 364, descriptorIndex := 339, attributes := #[] }, { accessFlags := 26, nameIndex := 365, descriptorIndex := 339, attributes := #[] }, { accessFlags := 26, nameIndex := 172, descriptorIndex := 173, attributes := #[] }, { accessFlags := 26, nameIndex := 176, descriptorIndex := 173, attributes := #[] }, { accessFlags := 8, nameIndex := 344, descriptorIndex := 339, attributes := #[] }, { accessFlags := 8, nameIndex := 338, descriptorIndex := 339, attributes := #[] }, { accessFlags := 4120, nameIndex := 245, descriptorIndex := 246, attributes := #[] }])
  fields := #[{ name := "E", type := .double, accessFlags := 25, slot := 0, constantValue := 0 }, { name := "PI", type := .double, accessFlags := 25, slot := 1, constantValue := 0 }, { name := "TAU", type := .double, accessFlags := 25, slot := 2, constantValue := 0 }, { name := "DEGREES_TO_RADIANS", type := .double, accessFlags := 26, slot := 3, constantValue := 0 }, { name := "RADIANS_TO_DEGREES", type := .double, accessFlags := 26, slot := 4, constantValue := 0 }, { name := "negativeZeroFloatBits", type := .long, accessFlags := 26, slot := 5, constantValue := 0 }, { name := "negativeZeroDoubleBits", type := .long, accessFlags := 26, slot := 6, constantValue := 0 }, { name := "twoToTheDoubleScaleUp", type := .double, accessFlags := 8, slot := 7, constantValue := 0 }, { name := "twoToTheDoubleScaleDown", type := .double, accessFlags := 8, slot := 8, constantValue := 0 }, { name := "$assertionsDisabled", type := .boolean, accessFlags := 4120, slot := 9, constantValue := 0 }]
  methods := #[k25m0, k25m1]
  instanceTypes := #[]
  staticTypes := #[.double, .double, .double, .double, .double, .long, .long, .double, .double, .boolean]
  resolved := Array.replicate 460 none
  statics := none }

def pool26 : Array CpInfo := pool [(4, .class_ 6), (1, u "java/lang/Object"), (0, u "<init>"), (0, u "()V"), (5, .class_ 16), (1, u "java/lang/StringLatin1"), (104, u "$assertionsDisabled"), (0, u "Z"), (98, .class_ 223), (1, u "java/lang/StringLatin1$LinesSpliterator"), (166, .class_ 391), (0, u "java/lang/StringLatin1$CharsSpliterator")] 3

def k26m0 : Method := { name := "<init>", desc := "()V", sig := { parameters := [], returnType := none }, accessFlags := 0, code := none }
/-- java/lang/StringLatin1 -/
def k26 : Class := { plain "java/lang/StringLatin1" (some 0) with
  accessFlags := 48
  interfaces := #[]
  cf := some (fileOf pool26 14 #[.nestMembers #[390, 221]] #[{ accessFlags := 0, nameIndex := 7, descriptorIndex := 8, attributes := #[] }] 48 4 #[] #[{ accessFlags := 4120, nameIndex := 121, descriptorIndex := 122, attributes := #[] }])
  fields := #[{ name := "$assertionsDisabled", type := .boolean, accessFlags := 4120, slot := 0, constantValue := 0 }]
  methods := #[k26m0]
  instanceTypes := #[]
  staticTypes := #[.boolean]
  resolved := Array.replicate 395 none
  statics := none }

def pool27 : Array CpInfo := pool [(2, .class_ 4), (1, u "java/lang/Object"), (0, u "<init>"), (0, u "()V"), (17, .class_ 26), (1, u "jdk/internal/util/Preconditions"), (28, .class_ 56), (0, u "jdk/internal/util/Preconditions$4"), (57, .class_ 115), (0, u "jdk/internal/util/Preconditions$1"), (7, u "SIOOBE_FORMATTER"), (0, u "Ljava/util/function/BiFunction;"), (0, .class_ 126), (0, u "jdk/internal/util/Preconditions$2"), (3, u "AIOOBE_FORMATTER"), (0, .class_ 132), (0, u "jdk/internal/util/Preconditions$3"), (3, u "IOOBE_FORMATTER")] 57

def k27m0 : Method := { name := "<init>", desc := "()V", sig := { parameters := [], returnType := none }, accessFlags := 1, code := none }
/-- jdk/internal/util/Preconditions -/
def k27 : Class := { plain "jdk/internal/util/Preconditions" (some 0) with
  accessFlags := 33
  interfaces := #[]
  cf := some (fileOf pool27 24 #[.nestMembers #[55, 131, 125, 114]] #[{ accessFlags := 1, nameIndex := 5, descriptorIndex := 6, attributes := #[] }] 33 2 #[] #[{ accessFlags := 25, nameIndex := 123, descriptorIndex := 124, attributes := #[] }, { accessFlags := 25, nameIndex := 130, descriptorIndex := 124, attributes := #[] }, { accessFlags := 25, nameIndex := 136, descriptorIndex := 124, attributes := #[] }])
  fields := #[{ name := "SIOOBE_FORMATTER", type := (.object "java/util/function/BiFunction"), accessFlags := 25, slot := 0, constantValue := 0 }, { name := "AIOOBE_FORMATTER", type := (.object "java/util/function/BiFunction"), accessFlags := 25, slot := 1, constantValue := 0 }, { name := "IOOBE_FORMATTER", type := (.object "java/util/function/BiFunction"), accessFlags := 25, slot := 2, constantValue := 0 }]
  methods := #[k27m0]
  instanceTypes := #[]
  staticTypes := #[(.object "java/util/function/BiFunction"), (.object "java/util/function/BiFunction"), (.object "java/util/function/BiFunction")]
  resolved := Array.replicate 194 none
  statics := some 4 }

def pool28 : Array CpInfo := pool [(9, u "<init>"), (6, .class_ 18), (1, u "java/lang/Object"), (0, u "()V"), (1, .class_ 23), (1, u "jdk/internal/util/ArraysSupport"), (0, u "LOG2_ARRAY_LONG_INDEX_SCALE"), (0, u "I"), (2, u "U"), (0, u "Ljdk/internal/misc/Unsafe;"), (8, u "BIG_ENDIAN"), (0, u "Z"), (8, u "LOG2_BYTE_BIT_SIZE"), (4, u "LOG2_ARRAY_INT_INDEX_SCALE"), (54, u "JLA"), (0, u "Ljdk/internal/access/JavaLangAccess;"), (11, u "LOG2_ARRAY_BOOLEAN_INDEX_SCALE"), (9, u "LOG2_ARRAY_BYTE_INDEX_SCALE"), (5, u "LOG2_ARRAY_CHAR_INDEX_SCALE"), (5, u "LOG2_ARRAY_SHORT_INDEX_SCALE"), (18, u "LOG2_ARRAY_FLOAT_INDEX_SCALE"), (24, u "LOG2_ARRAY_DOUBLE_INDEX_SCALE"), (89, u "T_BOOLEAN"), (2, u "T_CHAR"), (1, u "T_FLOAT"), (1, u "T_DOUBLE"), (1, u "T_BYTE"), (1, u "T_SHORT"), (1, u "T_INT"), (1, u "T_LONG"), (1, u "SOFT_MAX_ARRAY_LENGTH")] 83

def k28m0 : Method := { name := "<init>", desc := "()V", sig := { parameters := [], returnType := none }, accessFlags := 2, code := none }
/-- jdk/internal/util/ArraysSupport -/
def k28 : Class := { plain "jdk/internal/util/ArraysSupport" (some 0) with
  accessFlags := 33
  interfaces := #[]
  cf := some (fileOf pool28 21 #[] #[{ accessFlags := 2, nameIndex := 9, descriptorIndex := 19, attributes := #[] }] 33 16 #[] #[{ accessFlags := 24, nameIndex := 28, descriptorIndex := 29, attributes := #[] }, { accessFlags := 26, nameIndex := 38, descriptorIndex := 39, attributes := #[] }, { accessFlags := 25, nameIndex := 121, descriptorIndex := 25, attributes := #[] }, { accessFlags := 25, nameIndex := 131, descriptorIndex := 25, attributes := #[] }, { accessFlags := 25, nameIndex := 137, descriptorIndex := 25, attributes := #[] }, { accessFlags := 25, nameIndex := 143, descriptorIndex := 25, attributes := #[] }, { accessFlags := 25, nameIndex := 53, descriptorIndex := 25, attributes := #[] }, { accessFlags := 25, nameIndex := 24, descriptorIndex := 25, attributes := #[] }, { accessFlags := 25, nameIndex := 162, descriptorIndex := 25, attributes := #[] }, { accessFlags := 25, nameIndex := 187, descriptorIndex := 25, attributes := #[] }, { accessFlags := 26, nameIndex := 48, descriptorIndex := 25, attributes := #[] }, { accessFlags := 25, nameIndex := 277, descriptorIndex := 25, attributes := #[] }, { accessFlags := 25, nameIndex := 280, descriptorIndex := 25, attributes := #[] }, { accessFlags := 25, nameIndex := 282, descriptorIndex := 25, attributes := #[] }, { accessFlags := 25, nameIndex := 284, descriptorIndex := 25, attributes := #[] }, { accessFlags := 25, nameIndex := 286, descriptorIndex := 25, attributes := #[] }, { accessFlags := 25, nameIndex := 288, descriptorIndex := 25, attributes := #[] }, { accessFlags := 25, nameIndex := 290, descriptorIndex := 25, attributes := #[] }, { accessFlags := 25, nameIndex := 292, descriptorIndex := 25, attributes := #[] }, { accessFlags := 26, nameIndex := 108, descriptorIndex := 109, attributes := #[] }, { accessFlags := 25, nameIndex := 294, descriptorIndex := 25, attributes := #[] }])
  fields := #[{ name := "U", type := (.object "jdk/internal/misc/Unsafe"), accessFlags := 24, slot := 0, constantValue := 0 }, { name := "BIG_ENDIAN", type := .boolean, accessFlags := 26, slot := 1, constantValue := 0 }, { name := "LOG2_ARRAY_BOOLEAN_INDEX_SCALE", type := .int, accessFlags := 25, slot := 2, constantValue := 0 }, { name := "LOG2_ARRAY_BYTE_INDEX_SCALE", type := .int, accessFlags := 25, slot := 3, constantValue := 0 }, { name := "LOG2_ARRAY_CHAR_INDEX_SCALE", type := .int, accessFlags := 25, slot := 4, constantValue := 0 }, { name := "LOG2_ARRAY_SHORT_INDEX_SCALE", type := .int, accessFlags := 25, slot := 5, constantValue := 0 }, { name := "LOG2_ARRAY_INT_INDEX_SCALE", type := .int, accessFlags := 25, slot := 6, constantValue := 0 }, { name := "LOG2_ARRAY_LONG_INDEX_SCALE", type := .int, accessFlags := 25, slot := 7, constantValue := 0 }, { name := "LOG2_ARRAY_FLOAT_INDEX_SCALE", type := .int, accessFlags := 25, slot := 8, constantValue := 0 }, { name := "LOG2_ARRAY_DOUBLE_INDEX_SCALE", type := .int, accessFlags := 25, slot := 9, constantValue := 0 }, { name := "LOG2_BYTE_BIT_SIZE", type := .int, accessFlags := 26, slot := 10, constantValue := 0 }, { name := "T_BOOLEAN", type := .int, accessFlags := 25, slot := 11, constantValue := 0 }, { name := "T_CHAR", type := .int, accessFlags := 25, slot := 12, constantValue := 0 }, { name := "T_FLOAT", type := .int, accessFlags := 25, slot := 13, constantValue := 0 }, { name := "T_DOUBLE", type := .int, accessFlags := 25, slot := 14, constantValue := 0 }, { name := "T_BYTE", type := .int, accessFlags := 25, slot := 15, constantValue := 0 }, { name := "T_SHORT", type := .int, accessFlags := 25, slot := 16, constantValue := 0 }, { name := "T_INT", type := .int, accessFlags := 25, slot := 17, constantValue := 0 }, { name := "T_LONG", type := .int, accessFlags := 25, slot := 18, constantValue := 0 }, { name := "JLA", type := (.object "jdk/internal/access/JavaLangAccess"), accessFlags := 26, slot := 19, constantValue := 0 }, { name := "SOFT_MAX_ARRAY_LENGTH", type := .int, accessFlags := 25, slot := 20, constantValue := 0 }]
  methods := #[k28m0]
  instanceTypes := #[]
  staticTypes := #[(.object "jdk/internal/misc/Unsafe"), .boolean, .int, .int, .int, .int, .int, .int, .int, .int, .int, .int, .int, .int, .int, .int, .int, .int, .int, (.object "jdk/internal/access/JavaLangAccess"), .int]
  resolved := Array.replicate 378 none
  statics := none }

/-- the primitive byte -/
def k29 : Class := { plain "byte" none with kind := .primitive 'B', accessFlags := 0x411 }
/-- [B -/
def k30 : Class := { plain "[B" (some 0) with kind := .array 29 .byte, interfaces := #[23, 2], accessFlags := 1041 }

/-- the primitive char -/
def k31 : Class := { plain "char" none with kind := .primitive 'C', accessFlags := 0x411 }
/-- [C -/
def k32 : Class := { plain "[C" (some 0) with kind := .array 31 .char, interfaces := #[23, 2], accessFlags := 1041 }

/-- the primitive int -/
def k33 : Class := { plain "int" none with kind := .primitive 'I', accessFlags := 0x411 }
/-- [I -/
def k34 : Class := { plain "[I" (some 0) with kind := .array 33 .int, interfaces := #[23, 2], accessFlags := 1041 }

/-- [Ljava/lang/Integer; -/
def k35 : Class := { plain "[Ljava/lang/Integer;" (some 0) with kind := .array 14 (.object "java/lang/Integer"), interfaces := #[23, 2], accessFlags := 1041 }

/-- [Ljava/lang/Long; -/
def k36 : Class := { plain "[Ljava/lang/Long;" (some 0) with kind := .array 7 (.object "java/lang/Long"), interfaces := #[23, 2], accessFlags := 1041 }

/-- [Ljava/lang/Object; -/
def k37 : Class := { plain "[Ljava/lang/Object;" (some 0) with kind := .array 0 (.object "java/lang/Object"), interfaces := #[23, 2], accessFlags := 1041 }

def heap : Heap := #[{ cls := 8, slots := #[.ref 6, .null, .int 0], vm := .statics 8 },
  { cls := 11, slots := #[.long 0, .int 1, .null, .int 0, .null, .int 0, .int 0], vm := .statics 11 },
  { cls := 15, slots := #[.int 0, .int 127, .ref 5, .null, .int 0], vm := .statics 15 },
  { cls := 24, slots := #[.long 0, .int 0, .ref 519, .ref 520], vm := .statics 24 },
  { cls := 27, slots := #[.null, .null, .null], vm := .statics 27 },
  { cls := 35, slots := #[.ref 7, .ref 8, .ref 9, .ref 10, .ref 11, .ref 12, .ref 13, .ref 14, .ref 15, .ref 16, .ref 17, .ref 18, .ref 19, .ref 20, .ref 21, .ref 22, .ref 23, .ref 24, .ref 25, .ref 26, .ref 27, .ref 28, .ref 29, .ref 30, .ref 31, .ref 32, .ref 33, .ref 34, .ref 35, .ref 36, .ref 37, .ref 38, .ref 39, .ref 40, .ref 41, .ref 42, .ref 43, .ref 44, .ref 45, .ref 46, .ref 47, .ref 48, .ref 49, .ref 50, .ref 51, .ref 52, .ref 53, .ref 54, .ref 55, .ref 56, .ref 57, .ref 58, .ref 59, .ref 60, .ref 61, .ref 62, .ref 63, .ref 64, .ref 65, .ref 66, .ref 67, .ref 68, .ref 69, .ref 70, .ref 71, .ref 72, .ref 73, .ref 74, .ref 75, .ref 76, .ref 77, .ref 78, .ref 79, .ref 80, .ref 81, .ref 82, .ref 83, .ref 84, .ref 85, .ref 86, .ref 87, .ref 88, .ref 89, .ref 90, .ref 91, .ref 92, .ref 93, .ref 94, .ref 95, .ref 96, .ref 97, .ref 98, .ref 99, .ref 100, .ref 101, .ref 102, .ref 103, .ref 104, .ref 105, .ref 106, .ref 107, .ref 108, .ref 109, .ref 110, .ref 111, .ref 112, .ref 113, .ref 114, .ref 115, .ref 116, .ref 117, .ref 118, .ref 119, .ref 120, .ref 121, .ref 122, .ref 123, .ref 124, .ref 125, .ref 126, .ref 127, .ref 128, .ref 129, .ref 130, .ref 131, .ref 132, .ref 133, .ref 134, .ref 135, .ref 136, .ref 137, .ref 138, .ref 139, .ref 140, .ref 141, .ref 142, .ref 143, .ref 144, .ref 145, .ref 146, .ref 147, .ref 148, .ref 149, .ref 150, .ref 151, .ref 152, .ref 153, .ref 154, .ref 155, .ref 156, .ref 157, .ref 158, .ref 159, .ref 160, .ref 161, .ref 162, .ref 163, .ref 164, .ref 165, .ref 166, .ref 167, .ref 168, .ref 169, .ref 170, .ref 171, .ref 172, .ref 173, .ref 174, .ref 175, .ref 176, .ref 177, .ref 178, .ref 179, .ref 180, .ref 181, .ref 182, .ref 183, .ref 184, .ref 185, .ref 186, .ref 187, .ref 188, .ref 189, .ref 190, .ref 191, .ref 192, .ref 193, .ref 194, .ref 195, .ref 196, .ref 197, .ref 198, .ref 199, .ref 200, .ref 201, .ref 202, .ref 203, .ref 204, .ref 205, .ref 206, .ref 207, .ref 208, .ref 209, .ref 210, .ref 211, .ref 212, .ref 213, .ref 214, .ref 215, .ref 216, .ref 217, .ref 218, .ref 219, .ref 220, .ref 221, .ref 222, .ref 223, .ref 224, .ref 225, .ref 226, .ref 227, .ref 228, .ref 229, .ref 230, .ref 231, .ref 232, .ref 233, .ref 234, .ref 235, .ref 236, .ref 237, .ref 238, .ref 239, .ref 240, .ref 241, .ref 242, .ref 243, .ref 244, .ref 245, .ref 246, .ref 247, .ref 248, .ref 249, .ref 250, .ref 251, .ref 252, .ref 253, .ref 254, .ref 255, .ref 256, .ref 257, .ref 258, .ref 259, .ref 260, .ref 261, .ref 262], vm := .none },
  { cls := 36, slots := #[.ref 263, .ref 264, .ref 265, .ref 266, .ref 267, .ref 268, .ref 269, .ref 270, .ref 271, .ref 272, .ref 273, .ref 274, .ref 275, .ref 276, .ref 277, .ref 278, .ref 279, .ref 280, .ref 281, .ref 282, .ref 283, .ref 284, .ref 285, .ref 286, .ref 287, .ref 288, .ref 289, .ref 290, .ref 291, .ref 292, .ref 293, .ref 294, .ref 295, .ref 296, .ref 297, .ref 298, .ref 299, .ref 300, .ref 301, .ref 302, .ref 303, .ref 304, .ref 305, .ref 306, .ref 307, .ref 308, .ref 309, .ref 310, .ref 311, .ref 312, .ref 313, .ref 314, .ref 315, .ref 316, .ref 317, .ref 318, .ref 319, .ref 320, .ref 321, .ref 322, .ref 323, .ref 324, .ref 325, .ref 326, .ref 327, .ref 328, .ref 329, .ref 330, .ref 331, .ref 332, .ref 333, .ref 334, .ref 335, .ref 336, .ref 337, .ref 338, .ref 339, .ref 340, .ref 341, .ref 342, .ref 343, .ref 344, .ref 345, .ref 346, .ref 347, .ref 348, .ref 349, .ref 350, .ref 351, .ref 352, .ref 353, .ref 354, .ref 355, .ref 356, .ref 357, .ref 358, .ref 359, .ref 360, .ref 361, .ref 362, .ref 363, .ref 364, .ref 365, .ref 366, .ref 367, .ref 368, .ref 369, .ref 370, .ref 371, .ref 372, .ref 373, .ref 374, .ref 375, .ref 376, .ref 377, .ref 378, .ref 379, .ref 380, .ref 381, .ref 382, .ref 383, .ref 384, .ref 385, .ref 386, .ref 387, .ref 388, .ref 389, .ref 390, .ref 391, .ref 392, .ref 393, .ref 394, .ref 395, .ref 396, .ref 397, .ref 398, .ref 399, .ref 400, .ref 401, .ref 402, .ref 403, .ref 404, .ref 405, .ref 406, .ref 407, .ref 408, .ref 409, .ref 410, .ref 411, .ref 412, .ref 413, .ref 414, .ref 415, .ref 416, .ref 417, .ref 418, .ref 419, .ref 420, .ref 421, .ref 422, .ref 423, .ref 424, .ref 425, .ref 426, .ref 427, .ref 428, .ref 429, .ref 430, .ref 431, .ref 432, .ref 433, .ref 434, .ref 435, .ref 436, .ref 437, .ref 438, .ref 439, .ref 440, .ref 441, .ref 442, .ref 443, .ref 444, .ref 445, .ref 446, .ref 447, .ref 448, .ref 449, .ref 450, .ref 451, .ref 452, .ref 453, .ref 454, .ref 455, .ref 456, .ref 457, .ref 458, .ref 459, .ref 460, .ref 461, .ref 462, .ref 463, .ref 464, .ref 465, .ref 466, .ref 467, .ref 468, .ref 469, .ref 470, .ref 471, .ref 472, .ref 473, .ref 474, .ref 475, .ref 476, .ref 477, .ref 478, .ref 479, .ref 480, .ref 481, .ref 482, .ref 483, .ref 484, .ref 485, .ref 486, .ref 487, .ref 488, .ref 489, .ref 490, .ref 491, .ref 492, .ref 493, .ref 494, .ref 495, .ref 496, .ref 497, .ref 498, .ref 499, .ref 500, .ref 501, .ref 502, .ref 503, .ref 504, .ref 505, .ref 506, .ref 507, .ref 508, .ref 509, .ref 510, .ref 511, .ref 512, .ref 513, .ref 514, .ref 515, .ref 516, .ref 517, .ref 518], vm := .none },
  { cls := 14, slots := #[.int (-128)], vm := .none },
  { cls := 14, slots := #[.int (-127)], vm := .none },
  { cls := 14, slots := #[.int (-126)], vm := .none },
  { cls := 14, slots := #[.int (-125)], vm := .none },
  { cls := 14, slots := #[.int (-124)], vm := .none },
  { cls := 14, slots := #[.int (-123)], vm := .none },
  { cls := 14, slots := #[.int (-122)], vm := .none },
  { cls := 14, slots := #[.int (-121)], vm := .none },
  { cls := 14, slots := #[.int (-120)], vm := .none },
  { cls := 14, slots := #[.int (-119)], vm := .none },
  { cls := 14, slots := #[.int (-118)], vm := .none },
  { cls := 14, slots := #[.int (-117)], vm := .none },
  { cls := 14, slots := #[.int (-116)], vm := .none },
  { cls := 14, slots := #[.int (-115)], vm := .none },
  { cls := 14, slots := #[.int (-114)], vm := .none },
  { cls := 14, slots := #[.int (-113)], vm := .none },
  { cls := 14, slots := #[.int (-112)], vm := .none },
  { cls := 14, slots := #[.int (-111)], vm := .none },
  { cls := 14, slots := #[.int (-110)], vm := .none },
  { cls := 14, slots := #[.int (-109)], vm := .none },
  { cls := 14, slots := #[.int (-108)], vm := .none },
  { cls := 14, slots := #[.int (-107)], vm := .none },
  { cls := 14, slots := #[.int (-106)], vm := .none },
  { cls := 14, slots := #[.int (-105)], vm := .none },
  { cls := 14, slots := #[.int (-104)], vm := .none },
  { cls := 14, slots := #[.int (-103)], vm := .none },
  { cls := 14, slots := #[.int (-102)], vm := .none },
  { cls := 14, slots := #[.int (-101)], vm := .none },
  { cls := 14, slots := #[.int (-100)], vm := .none },
  { cls := 14, slots := #[.int (-99)], vm := .none },
  { cls := 14, slots := #[.int (-98)], vm := .none },
  { cls := 14, slots := #[.int (-97)], vm := .none },
  { cls := 14, slots := #[.int (-96)], vm := .none },
  { cls := 14, slots := #[.int (-95)], vm := .none },
  { cls := 14, slots := #[.int (-94)], vm := .none },
  { cls := 14, slots := #[.int (-93)], vm := .none },
  { cls := 14, slots := #[.int (-92)], vm := .none },
  { cls := 14, slots := #[.int (-91)], vm := .none },
  { cls := 14, slots := #[.int (-90)], vm := .none },
  { cls := 14, slots := #[.int (-89)], vm := .none },
  { cls := 14, slots := #[.int (-88)], vm := .none },
  { cls := 14, slots := #[.int (-87)], vm := .none },
  { cls := 14, slots := #[.int (-86)], vm := .none },
  { cls := 14, slots := #[.int (-85)], vm := .none },
  { cls := 14, slots := #[.int (-84)], vm := .none },
  { cls := 14, slots := #[.int (-83)], vm := .none },
  { cls := 14, slots := #[.int (-82)], vm := .none },
  { cls := 14, slots := #[.int (-81)], vm := .none },
  { cls := 14, slots := #[.int (-80)], vm := .none },
  { cls := 14, slots := #[.int (-79)], vm := .none },
  { cls := 14, slots := #[.int (-78)], vm := .none },
  { cls := 14, slots := #[.int (-77)], vm := .none },
  { cls := 14, slots := #[.int (-76)], vm := .none },
  { cls := 14, slots := #[.int (-75)], vm := .none },
  { cls := 14, slots := #[.int (-74)], vm := .none },
  { cls := 14, slots := #[.int (-73)], vm := .none },
  { cls := 14, slots := #[.int (-72)], vm := .none },
  { cls := 14, slots := #[.int (-71)], vm := .none },
  { cls := 14, slots := #[.int (-70)], vm := .none },
  { cls := 14, slots := #[.int (-69)], vm := .none },
  { cls := 14, slots := #[.int (-68)], vm := .none },
  { cls := 14, slots := #[.int (-67)], vm := .none },
  { cls := 14, slots := #[.int (-66)], vm := .none },
  { cls := 14, slots := #[.int (-65)], vm := .none },
  { cls := 14, slots := #[.int (-64)], vm := .none },
  { cls := 14, slots := #[.int (-63)], vm := .none },
  { cls := 14, slots := #[.int (-62)], vm := .none },
  { cls := 14, slots := #[.int (-61)], vm := .none },
  { cls := 14, slots := #[.int (-60)], vm := .none },
  { cls := 14, slots := #[.int (-59)], vm := .none },
  { cls := 14, slots := #[.int (-58)], vm := .none },
  { cls := 14, slots := #[.int (-57)], vm := .none },
  { cls := 14, slots := #[.int (-56)], vm := .none },
  { cls := 14, slots := #[.int (-55)], vm := .none },
  { cls := 14, slots := #[.int (-54)], vm := .none },
  { cls := 14, slots := #[.int (-53)], vm := .none },
  { cls := 14, slots := #[.int (-52)], vm := .none },
  { cls := 14, slots := #[.int (-51)], vm := .none },
  { cls := 14, slots := #[.int (-50)], vm := .none },
  { cls := 14, slots := #[.int (-49)], vm := .none },
  { cls := 14, slots := #[.int (-48)], vm := .none },
  { cls := 14, slots := #[.int (-47)], vm := .none },
  { cls := 14, slots := #[.int (-46)], vm := .none },
  { cls := 14, slots := #[.int (-45)], vm := .none },
  { cls := 14, slots := #[.int (-44)], vm := .none },
  { cls := 14, slots := #[.int (-43)], vm := .none },
  { cls := 14, slots := #[.int (-42)], vm := .none },
  { cls := 14, slots := #[.int (-41)], vm := .none },
  { cls := 14, slots := #[.int (-40)], vm := .none },
  { cls := 14, slots := #[.int (-39)], vm := .none },
  { cls := 14, slots := #[.int (-38)], vm := .none },
  { cls := 14, slots := #[.int (-37)], vm := .none },
  { cls := 14, slots := #[.int (-36)], vm := .none },
  { cls := 14, slots := #[.int (-35)], vm := .none },
  { cls := 14, slots := #[.int (-34)], vm := .none },
  { cls := 14, slots := #[.int (-33)], vm := .none },
  { cls := 14, slots := #[.int (-32)], vm := .none },
  { cls := 14, slots := #[.int (-31)], vm := .none },
  { cls := 14, slots := #[.int (-30)], vm := .none },
  { cls := 14, slots := #[.int (-29)], vm := .none },
  { cls := 14, slots := #[.int (-28)], vm := .none },
  { cls := 14, slots := #[.int (-27)], vm := .none },
  { cls := 14, slots := #[.int (-26)], vm := .none },
  { cls := 14, slots := #[.int (-25)], vm := .none },
  { cls := 14, slots := #[.int (-24)], vm := .none },
  { cls := 14, slots := #[.int (-23)], vm := .none },
  { cls := 14, slots := #[.int (-22)], vm := .none },
  { cls := 14, slots := #[.int (-21)], vm := .none },
  { cls := 14, slots := #[.int (-20)], vm := .none },
  { cls := 14, slots := #[.int (-19)], vm := .none },
  { cls := 14, slots := #[.int (-18)], vm := .none },
  { cls := 14, slots := #[.int (-17)], vm := .none },
  { cls := 14, slots := #[.int (-16)], vm := .none },
  { cls := 14, slots := #[.int (-15)], vm := .none },
  { cls := 14, slots := #[.int (-14)], vm := .none },
  { cls := 14, slots := #[.int (-13)], vm := .none },
  { cls := 14, slots := #[.int (-12)], vm := .none },
  { cls := 14, slots := #[.int (-11)], vm := .none },
  { cls := 14, slots := #[.int (-10)], vm := .none },
  { cls := 14, slots := #[.int (-9)], vm := .none },
  { cls := 14, slots := #[.int (-8)], vm := .none },
  { cls := 14, slots := #[.int (-7)], vm := .none },
  { cls := 14, slots := #[.int (-6)], vm := .none },
  { cls := 14, slots := #[.int (-5)], vm := .none },
  { cls := 14, slots := #[.int (-4)], vm := .none },
  { cls := 14, slots := #[.int (-3)], vm := .none },
  { cls := 14, slots := #[.int (-2)], vm := .none },
  { cls := 14, slots := #[.int (-1)], vm := .none },
  { cls := 14, slots := #[.int 0], vm := .none },
  { cls := 14, slots := #[.int 1], vm := .none },
  { cls := 14, slots := #[.int 2], vm := .none },
  { cls := 14, slots := #[.int 3], vm := .none },
  { cls := 14, slots := #[.int 4], vm := .none },
  { cls := 14, slots := #[.int 5], vm := .none },
  { cls := 14, slots := #[.int 6], vm := .none },
  { cls := 14, slots := #[.int 7], vm := .none },
  { cls := 14, slots := #[.int 8], vm := .none },
  { cls := 14, slots := #[.int 9], vm := .none },
  { cls := 14, slots := #[.int 10], vm := .none },
  { cls := 14, slots := #[.int 11], vm := .none },
  { cls := 14, slots := #[.int 12], vm := .none },
  { cls := 14, slots := #[.int 13], vm := .none },
  { cls := 14, slots := #[.int 14], vm := .none },
  { cls := 14, slots := #[.int 15], vm := .none },
  { cls := 14, slots := #[.int 16], vm := .none },
  { cls := 14, slots := #[.int 17], vm := .none },
  { cls := 14, slots := #[.int 18], vm := .none },
  { cls := 14, slots := #[.int 19], vm := .none },
  { cls := 14, slots := #[.int 20], vm := .none },
  { cls := 14, slots := #[.int 21], vm := .none },
  { cls := 14, slots := #[.int 22], vm := .none },
  { cls := 14, slots := #[.int 23], vm := .none },
  { cls := 14, slots := #[.int 24], vm := .none },
  { cls := 14, slots := #[.int 25], vm := .none },
  { cls := 14, slots := #[.int 26], vm := .none },
  { cls := 14, slots := #[.int 27], vm := .none },
  { cls := 14, slots := #[.int 28], vm := .none },
  { cls := 14, slots := #[.int 29], vm := .none },
  { cls := 14, slots := #[.int 30], vm := .none },
  { cls := 14, slots := #[.int 31], vm := .none },
  { cls := 14, slots := #[.int 32], vm := .none },
  { cls := 14, slots := #[.int 33], vm := .none },
  { cls := 14, slots := #[.int 34], vm := .none },
  { cls := 14, slots := #[.int 35], vm := .none },
  { cls := 14, slots := #[.int 36], vm := .none },
  { cls := 14, slots := #[.int 37], vm := .none },
  { cls := 14, slots := #[.int 38], vm := .none },
  { cls := 14, slots := #[.int 39], vm := .none },
  { cls := 14, slots := #[.int 40], vm := .none },
  { cls := 14, slots := #[.int 41], vm := .none },
  { cls := 14, slots := #[.int 42], vm := .none },
  { cls := 14, slots := #[.int 43], vm := .none },
  { cls := 14, slots := #[.int 44], vm := .none },
  { cls := 14, slots := #[.int 45], vm := .none },
  { cls := 14, slots := #[.int 46], vm := .none },
  { cls := 14, slots := #[.int 47], vm := .none },
  { cls := 14, slots := #[.int 48], vm := .none },
  { cls := 14, slots := #[.int 49], vm := .none },
  { cls := 14, slots := #[.int 50], vm := .none },
  { cls := 14, slots := #[.int 51], vm := .none },
  { cls := 14, slots := #[.int 52], vm := .none },
  { cls := 14, slots := #[.int 53], vm := .none },
  { cls := 14, slots := #[.int 54], vm := .none },
  { cls := 14, slots := #[.int 55], vm := .none },
  { cls := 14, slots := #[.int 56], vm := .none },
  { cls := 14, slots := #[.int 57], vm := .none },
  { cls := 14, slots := #[.int 58], vm := .none },
  { cls := 14, slots := #[.int 59], vm := .none },
  { cls := 14, slots := #[.int 60], vm := .none },
  { cls := 14, slots := #[.int 61], vm := .none },
  { cls := 14, slots := #[.int 62], vm := .none },
  { cls := 14, slots := #[.int 63], vm := .none },
  { cls := 14, slots := #[.int 64], vm := .none },
  { cls := 14, slots := #[.int 65], vm := .none },
  { cls := 14, slots := #[.int 66], vm := .none },
  { cls := 14, slots := #[.int 67], vm := .none },
  { cls := 14, slots := #[.int 68], vm := .none },
  { cls := 14, slots := #[.int 69], vm := .none },
  { cls := 14, slots := #[.int 70], vm := .none },
  { cls := 14, slots := #[.int 71], vm := .none },
  { cls := 14, slots := #[.int 72], vm := .none },
  { cls := 14, slots := #[.int 73], vm := .none },
  { cls := 14, slots := #[.int 74], vm := .none },
  { cls := 14, slots := #[.int 75], vm := .none },
  { cls := 14, slots := #[.int 76], vm := .none },
  { cls := 14, slots := #[.int 77], vm := .none },
  { cls := 14, slots := #[.int 78], vm := .none },
  { cls := 14, slots := #[.int 79], vm := .none },
  { cls := 14, slots := #[.int 80], vm := .none },
  { cls := 14, slots := #[.int 81], vm := .none },
  { cls := 14, slots := #[.int 82], vm := .none },
  { cls := 14, slots := #[.int 83], vm := .none },
  { cls := 14, slots := #[.int 84], vm := .none },
  { cls := 14, slots := #[.int 85], vm := .none },
  { cls := 14, slots := #[.int 86], vm := .none },
  { cls := 14, slots := #[.int 87], vm := .none },
  { cls := 14, slots := #[.int 88], vm := .none },
  { cls := 14, slots := #[.int 89], vm := .none },
  { cls := 14, slots := #[.int 90], vm := .none },
  { cls := 14, slots := #[.int 91], vm := .none },
  { cls := 14, slots := #[.int 92], vm := .none },
  { cls := 14, slots := #[.int 93], vm := .none },
  { cls := 14, slots := #[.int 94], vm := .none },
  { cls := 14, slots := #[.int 95], vm := .none },
  { cls := 14, slots := #[.int 96], vm := .none },
  { cls := 14, slots := #[.int 97], vm := .none },
  { cls := 14, slots := #[.int 98], vm := .none },
  { cls := 14, slots := #[.int 99], vm := .none },
  { cls := 14, slots := #[.int 100], vm := .none },
  { cls := 14, slots := #[.int 101], vm := .none },
  { cls := 14, slots := #[.int 102], vm := .none },
  { cls := 14, slots := #[.int 103], vm := .none },
  { cls := 14, slots := #[.int 104], vm := .none },
  { cls := 14, slots := #[.int 105], vm := .none },
  { cls := 14, slots := #[.int 106], vm := .none },
  { cls := 14, slots := #[.int 107], vm := .none },
  { cls := 14, slots := #[.int 108], vm := .none },
  { cls := 14, slots := #[.int 109], vm := .none },
  { cls := 14, slots := #[.int 110], vm := .none },
  { cls := 14, slots := #[.int 111], vm := .none },
  { cls := 14, slots := #[.int 112], vm := .none },
  { cls := 14, slots := #[.int 113], vm := .none },
  { cls := 14, slots := #[.int 114], vm := .none },
  { cls := 14, slots := #[.int 115], vm := .none },
  { cls := 14, slots := #[.int 116], vm := .none },
  { cls := 14, slots := #[.int 117], vm := .none },
  { cls := 14, slots := #[.int 118], vm := .none },
  { cls := 14, slots := #[.int 119], vm := .none },
  { cls := 14, slots := #[.int 120], vm := .none },
  { cls := 14, slots := #[.int 121], vm := .none },
  { cls := 14, slots := #[.int 122], vm := .none },
  { cls := 14, slots := #[.int 123], vm := .none },
  { cls := 14, slots := #[.int 124], vm := .none },
  { cls := 14, slots := #[.int 125], vm := .none },
  { cls := 14, slots := #[.int 126], vm := .none },
  { cls := 14, slots := #[.int 127], vm := .none },
  { cls := 7, slots := #[.long (-128)], vm := .none },
  { cls := 7, slots := #[.long (-127)], vm := .none },
  { cls := 7, slots := #[.long (-126)], vm := .none },
  { cls := 7, slots := #[.long (-125)], vm := .none },
  { cls := 7, slots := #[.long (-124)], vm := .none },
  { cls := 7, slots := #[.long (-123)], vm := .none },
  { cls := 7, slots := #[.long (-122)], vm := .none },
  { cls := 7, slots := #[.long (-121)], vm := .none },
  { cls := 7, slots := #[.long (-120)], vm := .none },
  { cls := 7, slots := #[.long (-119)], vm := .none },
  { cls := 7, slots := #[.long (-118)], vm := .none },
  { cls := 7, slots := #[.long (-117)], vm := .none },
  { cls := 7, slots := #[.long (-116)], vm := .none },
  { cls := 7, slots := #[.long (-115)], vm := .none },
  { cls := 7, slots := #[.long (-114)], vm := .none },
  { cls := 7, slots := #[.long (-113)], vm := .none },
  { cls := 7, slots := #[.long (-112)], vm := .none },
  { cls := 7, slots := #[.long (-111)], vm := .none },
  { cls := 7, slots := #[.long (-110)], vm := .none },
  { cls := 7, slots := #[.long (-109)], vm := .none },
  { cls := 7, slots := #[.long (-108)], vm := .none },
  { cls := 7, slots := #[.long (-107)], vm := .none },
  { cls := 7, slots := #[.long (-106)], vm := .none },
  { cls := 7, slots := #[.long (-105)], vm := .none },
  { cls := 7, slots := #[.long (-104)], vm := .none },
  { cls := 7, slots := #[.long (-103)], vm := .none },
  { cls := 7, slots := #[.long (-102)], vm := .none },
  { cls := 7, slots := #[.long (-101)], vm := .none },
  { cls := 7, slots := #[.long (-100)], vm := .none },
  { cls := 7, slots := #[.long (-99)], vm := .none },
  { cls := 7, slots := #[.long (-98)], vm := .none },
  { cls := 7, slots := #[.long (-97)], vm := .none },
  { cls := 7, slots := #[.long (-96)], vm := .none },
  { cls := 7, slots := #[.long (-95)], vm := .none },
  { cls := 7, slots := #[.long (-94)], vm := .none },
  { cls := 7, slots := #[.long (-93)], vm := .none },
  { cls := 7, slots := #[.long (-92)], vm := .none },
  { cls := 7, slots := #[.long (-91)], vm := .none },
  { cls := 7, slots := #[.long (-90)], vm := .none },
  { cls := 7, slots := #[.long (-89)], vm := .none },
  { cls := 7, slots := #[.long (-88)], vm := .none },
  { cls := 7, slots := #[.long (-87)], vm := .none },
  { cls := 7, slots := #[.long (-86)], vm := .none },
  { cls := 7, slots := #[.long (-85)], vm := .none },
  { cls := 7, slots := #[.long (-84)], vm := .none },
  { cls := 7, slots := #[.long (-83)], vm := .none },
  { cls := 7, slots := #[.long (-82)], vm := .none },
  { cls := 7, slots := #[.long (-81)], vm := .none },
  { cls := 7, slots := #[.long (-80)], vm := .none },
  { cls := 7, slots := #[.long (-79)], vm := .none },
  { cls := 7, slots := #[.long (-78)], vm := .none },
  { cls := 7, slots := #[.long (-77)], vm := .none },
  { cls := 7, slots := #[.long (-76)], vm := .none },
  { cls := 7, slots := #[.long (-75)], vm := .none },
  { cls := 7, slots := #[.long (-74)], vm := .none },
  { cls := 7, slots := #[.long (-73)], vm := .none },
  { cls := 7, slots := #[.long (-72)], vm := .none },
  { cls := 7, slots := #[.long (-71)], vm := .none },
  { cls := 7, slots := #[.long (-70)], vm := .none },
  { cls := 7, slots := #[.long (-69)], vm := .none },
  { cls := 7, slots := #[.long (-68)], vm := .none },
  { cls := 7, slots := #[.long (-67)], vm := .none },
  { cls := 7, slots := #[.long (-66)], vm := .none },
  { cls := 7, slots := #[.long (-65)], vm := .none },
  { cls := 7, slots := #[.long (-64)], vm := .none },
  { cls := 7, slots := #[.long (-63)], vm := .none },
  { cls := 7, slots := #[.long (-62)], vm := .none },
  { cls := 7, slots := #[.long (-61)], vm := .none },
  { cls := 7, slots := #[.long (-60)], vm := .none },
  { cls := 7, slots := #[.long (-59)], vm := .none },
  { cls := 7, slots := #[.long (-58)], vm := .none },
  { cls := 7, slots := #[.long (-57)], vm := .none },
  { cls := 7, slots := #[.long (-56)], vm := .none },
  { cls := 7, slots := #[.long (-55)], vm := .none },
  { cls := 7, slots := #[.long (-54)], vm := .none },
  { cls := 7, slots := #[.long (-53)], vm := .none },
  { cls := 7, slots := #[.long (-52)], vm := .none },
  { cls := 7, slots := #[.long (-51)], vm := .none },
  { cls := 7, slots := #[.long (-50)], vm := .none },
  { cls := 7, slots := #[.long (-49)], vm := .none },
  { cls := 7, slots := #[.long (-48)], vm := .none },
  { cls := 7, slots := #[.long (-47)], vm := .none },
  { cls := 7, slots := #[.long (-46)], vm := .none },
  { cls := 7, slots := #[.long (-45)], vm := .none },
  { cls := 7, slots := #[.long (-44)], vm := .none },
  { cls := 7, slots := #[.long (-43)], vm := .none },
  { cls := 7, slots := #[.long (-42)], vm := .none },
  { cls := 7, slots := #[.long (-41)], vm := .none },
  { cls := 7, slots := #[.long (-40)], vm := .none },
  { cls := 7, slots := #[.long (-39)], vm := .none },
  { cls := 7, slots := #[.long (-38)], vm := .none },
  { cls := 7, slots := #[.long (-37)], vm := .none },
  { cls := 7, slots := #[.long (-36)], vm := .none },
  { cls := 7, slots := #[.long (-35)], vm := .none },
  { cls := 7, slots := #[.long (-34)], vm := .none },
  { cls := 7, slots := #[.long (-33)], vm := .none },
  { cls := 7, slots := #[.long (-32)], vm := .none },
  { cls := 7, slots := #[.long (-31)], vm := .none },
  { cls := 7, slots := #[.long (-30)], vm := .none },
  { cls := 7, slots := #[.long (-29)], vm := .none },
  { cls := 7, slots := #[.long (-28)], vm := .none },
  { cls := 7, slots := #[.long (-27)], vm := .none },
  { cls := 7, slots := #[.long (-26)], vm := .none },
  { cls := 7, slots := #[.long (-25)], vm := .none },
  { cls := 7, slots := #[.long (-24)], vm := .none },
  { cls := 7, slots := #[.long (-23)], vm := .none },
  { cls := 7, slots := #[.long (-22)], vm := .none },
  { cls := 7, slots := #[.long (-21)], vm := .none },
  { cls := 7, slots := #[.long (-20)], vm := .none },
  { cls := 7, slots := #[.long (-19)], vm := .none },
  { cls := 7, slots := #[.long (-18)], vm := .none },
  { cls := 7, slots := #[.long (-17)], vm := .none },
  { cls := 7, slots := #[.long (-16)], vm := .none },
  { cls := 7, slots := #[.long (-15)], vm := .none },
  { cls := 7, slots := #[.long (-14)], vm := .none },
  { cls := 7, slots := #[.long (-13)], vm := .none },
  { cls := 7, slots := #[.long (-12)], vm := .none },
  { cls := 7, slots := #[.long (-11)], vm := .none },
  { cls := 7, slots := #[.long (-10)], vm := .none },
  { cls := 7, slots := #[.long (-9)], vm := .none },
  { cls := 7, slots := #[.long (-8)], vm := .none },
  { cls := 7, slots := #[.long (-7)], vm := .none },
  { cls := 7, slots := #[.long (-6)], vm := .none },
  { cls := 7, slots := #[.long (-5)], vm := .none },
  { cls := 7, slots := #[.long (-4)], vm := .none },
  { cls := 7, slots := #[.long (-3)], vm := .none },
  { cls := 7, slots := #[.long (-2)], vm := .none },
  { cls := 7, slots := #[.long (-1)], vm := .none },
  { cls := 7, slots := #[.long 0], vm := .none },
  { cls := 7, slots := #[.long 1], vm := .none },
  { cls := 7, slots := #[.long 2], vm := .none },
  { cls := 7, slots := #[.long 3], vm := .none },
  { cls := 7, slots := #[.long 4], vm := .none },
  { cls := 7, slots := #[.long 5], vm := .none },
  { cls := 7, slots := #[.long 6], vm := .none },
  { cls := 7, slots := #[.long 7], vm := .none },
  { cls := 7, slots := #[.long 8], vm := .none },
  { cls := 7, slots := #[.long 9], vm := .none },
  { cls := 7, slots := #[.long 10], vm := .none },
  { cls := 7, slots := #[.long 11], vm := .none },
  { cls := 7, slots := #[.long 12], vm := .none },
  { cls := 7, slots := #[.long 13], vm := .none },
  { cls := 7, slots := #[.long 14], vm := .none },
  { cls := 7, slots := #[.long 15], vm := .none },
  { cls := 7, slots := #[.long 16], vm := .none },
  { cls := 7, slots := #[.long 17], vm := .none },
  { cls := 7, slots := #[.long 18], vm := .none },
  { cls := 7, slots := #[.long 19], vm := .none },
  { cls := 7, slots := #[.long 20], vm := .none },
  { cls := 7, slots := #[.long 21], vm := .none },
  { cls := 7, slots := #[.long 22], vm := .none },
  { cls := 7, slots := #[.long 23], vm := .none },
  { cls := 7, slots := #[.long 24], vm := .none },
  { cls := 7, slots := #[.long 25], vm := .none },
  { cls := 7, slots := #[.long 26], vm := .none },
  { cls := 7, slots := #[.long 27], vm := .none },
  { cls := 7, slots := #[.long 28], vm := .none },
  { cls := 7, slots := #[.long 29], vm := .none },
  { cls := 7, slots := #[.long 30], vm := .none },
  { cls := 7, slots := #[.long 31], vm := .none },
  { cls := 7, slots := #[.long 32], vm := .none },
  { cls := 7, slots := #[.long 33], vm := .none },
  { cls := 7, slots := #[.long 34], vm := .none },
  { cls := 7, slots := #[.long 35], vm := .none },
  { cls := 7, slots := #[.long 36], vm := .none },
  { cls := 7, slots := #[.long 37], vm := .none },
  { cls := 7, slots := #[.long 38], vm := .none },
  { cls := 7, slots := #[.long 39], vm := .none },
  { cls := 7, slots := #[.long 40], vm := .none },
  { cls := 7, slots := #[.long 41], vm := .none },
  { cls := 7, slots := #[.long 42], vm := .none },
  { cls := 7, slots := #[.long 43], vm := .none },
  { cls := 7, slots := #[.long 44], vm := .none },
  { cls := 7, slots := #[.long 45], vm := .none },
  { cls := 7, slots := #[.long 46], vm := .none },
  { cls := 7, slots := #[.long 47], vm := .none },
  { cls := 7, slots := #[.long 48], vm := .none },
  { cls := 7, slots := #[.long 49], vm := .none },
  { cls := 7, slots := #[.long 50], vm := .none },
  { cls := 7, slots := #[.long 51], vm := .none },
  { cls := 7, slots := #[.long 52], vm := .none },
  { cls := 7, slots := #[.long 53], vm := .none },
  { cls := 7, slots := #[.long 54], vm := .none },
  { cls := 7, slots := #[.long 55], vm := .none },
  { cls := 7, slots := #[.long 56], vm := .none },
  { cls := 7, slots := #[.long 57], vm := .none },
  { cls := 7, slots := #[.long 58], vm := .none },
  { cls := 7, slots := #[.long 59], vm := .none },
  { cls := 7, slots := #[.long 60], vm := .none },
  { cls := 7, slots := #[.long 61], vm := .none },
  { cls := 7, slots := #[.long 62], vm := .none },
  { cls := 7, slots := #[.long 63], vm := .none },
  { cls := 7, slots := #[.long 64], vm := .none },
  { cls := 7, slots := #[.long 65], vm := .none },
  { cls := 7, slots := #[.long 66], vm := .none },
  { cls := 7, slots := #[.long 67], vm := .none },
  { cls := 7, slots := #[.long 68], vm := .none },
  { cls := 7, slots := #[.long 69], vm := .none },
  { cls := 7, slots := #[.long 70], vm := .none },
  { cls := 7, slots := #[.long 71], vm := .none },
  { cls := 7, slots := #[.long 72], vm := .none },
  { cls := 7, slots := #[.long 73], vm := .none },
  { cls := 7, slots := #[.long 74], vm := .none },
  { cls := 7, slots := #[.long 75], vm := .none },
  { cls := 7, slots := #[.long 76], vm := .none },
  { cls := 7, slots := #[.long 77], vm := .none },
  { cls := 7, slots := #[.long 78], vm := .none },
  { cls := 7, slots := #[.long 79], vm := .none },
  { cls := 7, slots := #[.long 80], vm := .none },
  { cls := 7, slots := #[.long 81], vm := .none },
  { cls := 7, slots := #[.long 82], vm := .none },
  { cls := 7, slots := #[.long 83], vm := .none },
  { cls := 7, slots := #[.long 84], vm := .none },
  { cls := 7, slots := #[.long 85], vm := .none },
  { cls := 7, slots := #[.long 86], vm := .none },
  { cls := 7, slots := #[.long 87], vm := .none },
  { cls := 7, slots := #[.long 88], vm := .none },
  { cls := 7, slots := #[.long 89], vm := .none },
  { cls := 7, slots := #[.long 90], vm := .none },
  { cls := 7, slots := #[.long 91], vm := .none },
  { cls := 7, slots := #[.long 92], vm := .none },
  { cls := 7, slots := #[.long 93], vm := .none },
  { cls := 7, slots := #[.long 94], vm := .none },
  { cls := 7, slots := #[.long 95], vm := .none },
  { cls := 7, slots := #[.long 96], vm := .none },
  { cls := 7, slots := #[.long 97], vm := .none },
  { cls := 7, slots := #[.long 98], vm := .none },
  { cls := 7, slots := #[.long 99], vm := .none },
  { cls := 7, slots := #[.long 100], vm := .none },
  { cls := 7, slots := #[.long 101], vm := .none },
  { cls := 7, slots := #[.long 102], vm := .none },
  { cls := 7, slots := #[.long 103], vm := .none },
  { cls := 7, slots := #[.long 104], vm := .none },
  { cls := 7, slots := #[.long 105], vm := .none },
  { cls := 7, slots := #[.long 106], vm := .none },
  { cls := 7, slots := #[.long 107], vm := .none },
  { cls := 7, slots := #[.long 108], vm := .none },
  { cls := 7, slots := #[.long 109], vm := .none },
  { cls := 7, slots := #[.long 110], vm := .none },
  { cls := 7, slots := #[.long 111], vm := .none },
  { cls := 7, slots := #[.long 112], vm := .none },
  { cls := 7, slots := #[.long 113], vm := .none },
  { cls := 7, slots := #[.long 114], vm := .none },
  { cls := 7, slots := #[.long 115], vm := .none },
  { cls := 7, slots := #[.long 116], vm := .none },
  { cls := 7, slots := #[.long 117], vm := .none },
  { cls := 7, slots := #[.long 118], vm := .none },
  { cls := 7, slots := #[.long 119], vm := .none },
  { cls := 7, slots := #[.long 120], vm := .none },
  { cls := 7, slots := #[.long 121], vm := .none },
  { cls := 7, slots := #[.long 122], vm := .none },
  { cls := 7, slots := #[.long 123], vm := .none },
  { cls := 7, slots := #[.long 124], vm := .none },
  { cls := 7, slots := #[.long 125], vm := .none },
  { cls := 7, slots := #[.long 126], vm := .none },
  { cls := 7, slots := #[.long 127], vm := .none },
  { cls := 37, slots := #[], vm := .none },
  { cls := 37, slots := #[], vm := .none }]
def classes : Array Class := #[k0, k1, k2, k3, k4, k5, k6, k7, k8, k9, k10, k11, k12, k13, k14, k15, k16, k17, k18, k19, k20, k21, k22, k23, k24, k25, k26, k27, k28, k29, k30, k31, k32, k33, k34, k35, k36, k37]
def interned : List (Array UInt16 × Addr) := []
def slotsUsed : Nat := 1046
def theMethod : MethodId := ⟨1, 1⟩
def args0 : Array Value := #[.int 5, .long 9, .int 0]
def aboutOver (below : List Frame) : State where
  vm := { classes := classes, interned := interned.toArray }
  heap := heap
  slotsUsed := slotsUsed
  threads := #[{ frames := .invoking theMethod args0 :: below }]
def below0 : List Frame := [.native { method := ⟨0, 0⟩, args := #[] }]
def about1 : State := aboutOver below0
def p0 : Program := .bare "" "" ""
def e0 : Env := launch0.env 0 0 0
theorem w_frames : about1.frames = Frame.invoking theMethod args0 :: below0 := rfl
set_option maxRecDepth 65536 in
theorem w_args : argsFit about1.vm theMethod args0 = true := by decide +kernel
set_option maxRecDepth 65536 in
theorem w_heap : heapFits about1 = true := by decide +kernel
set_option maxRecDepth 65536 in
theorem w_runnable : about1.curStatus? = some .runnable := by decide +kernel
set_option maxRecDepth 65536 in
theorem w_alone : about1.alone = true := by decide +kernel
set_option maxRecDepth 65536 in
theorem w_named : about1.methodNamed? x = some theMethod := by decide +kernel
set_option maxRecDepth 65536 in
theorem w_hears : about1.hears theMethod below0 = true := by decide +kernel
set_option maxRecDepth 65536 in
theorem w_ripe : about1.ripe theMethod args0 below0 = true := by decide +kernel
theorem w_running : about1.status = .running := rfl
set_option maxRecDepth 65536 in
theorem w_room : about1.hasRoom e0.platform room_1 = true :=
  launch0.hasRoom_least _ room_1 (by decide +kernel) (by decide +kernel) (by decide +kernel) (by decide +kernel) (by decide +kernel) (by decide +kernel)
theorem allAtoms_all (ts : List Jvm.Cond) (a : Array Jvm.Value) (st : Jvm.State) : (allAtoms ts).before a st = ts.all (fun c => c.before a st) := by
  induction ts with
  | nil => rfl
  | cons c t ih =>
    show (Jvm.Cond.and c (allAtoms t)).before a st = _
    rw [Jvm.Cond.before_and, ih, List.all_cons]
def words1 : List Jvm.Cond := Jvm.Cond.code x code maxLocals ret :: tables_1
/-- a 'code' word, met by the world's own term for the bytes: nothing is compared byte by byte -/
theorem code_word {y : MethodName} {bytes : ByteArray} {mx : Nat} {rt : Option FieldType} {a : Array Value} {s : State} {m : MethodId} {meth : Method} {c : Code} (h1 : s.methodNamed? y = some m) (h2 : s.vm.method? m = some meth) (h3 : meth.code = some c) (h4 : c.code = bytes)
    (h5 : (c.maxLocals == mx && c.exceptionTable.isEmpty && decide (c.maxStack ≤ mostOperands) && decide (meth.sig.returnType = rt) && !meth.locks && decide (parseMethodDescriptor y.desc = some meth.sig)) = true) : (Jvm.Cond.code y bytes mx rt).before a s = true := by
  simp only [Bool.and_eq_true, beq_iff_eq, Bool.not_eq_true', decide_eq_true_eq] at h5
  obtain ⟨⟨⟨⟨⟨g1, g2⟩, g3⟩, g4⟩, g5⟩, g6⟩ := h5
  simp [Cond.before, Cond.holds, Cond.value, h1, h2, h3, h4, g1, g2, g3, g4, g5, g6]
def isCode : Jvm.Cond → Bool
  | .code _ _ _ _ => true
  | _ => false
theorem all_split {L : List Jvm.Cond} {P : Jvm.Cond → Bool} (h1 : L.all (fun c => isCode c || P c) = true) (h2 : ∀ c ∈ L.filter isCode, P c = true) : L.all P = true := by
  refine List.all_eq_true.mpr fun c hc => ?_
  have h := List.all_eq_true.mp h1 c hc
  rcases Bool.eq_false_or_eq_true (isCode c) with hi | hi
  · exact h2 c (List.mem_filter.mpr ⟨hc, hi⟩)
  · simpa [hi] using h
set_option maxRecDepth 65536 in
theorem w_c0 : (Jvm.Cond.code x code maxLocals ret).before args0 about1 = true := code_word (m := ⟨1, 1⟩) (meth := k1m1) (c := k1c1) (by decide +kernel) rfl rfl rfl (by decide +kernel)
set_option maxRecDepth 65536 in
theorem w_c1 : (Jvm.Cond.code ({ cls := "java/lang/Long", name := "valueOf", desc := "(J)Ljava/lang/Long;" } : Jvm.MethodName) jdk_35_method_24_code (3 : Nat) (Option.some (Jvm.ClassFile.FieldType.object "java/lang/Long"))).before args0 about1 = true := code_word (m := ⟨7, 0⟩) (meth := k7m0) (c := k7c0) (by decide +kernel) rfl rfl rfl (by decide +kernel)
set_option maxRecDepth 65536 in
theorem w_c2 : (Jvm.Cond.code ({ cls := "com/example/lease/lease/error/NoRouteException$PassedOver", name := "full", desc := "(Ljava/lang/Object;)Lcom/example/lease/lease/error/NoRouteException$PassedOver;" } : Jvm.MethodName) prog_10_method_2_code (1 : Nat) (Option.some (Jvm.ClassFile.FieldType.object "com/example/lease/lease/error/NoRouteException$PassedOver"))).before args0 about1 = true := code_word (m := ⟨9, 1⟩) (meth := k9m1) (c := k9c1) (by decide +kernel) rfl rfl rfl (by decide +kernel)
set_option maxRecDepth 65536 in
theorem w_c3 : (Jvm.Cond.code ({ cls := "java/util/Objects", name := "requireNonNull", desc := "(Ljava/lang/Object;Ljava/lang/String;)Ljava/lang/Object;" } : Jvm.MethodName) jdk_31_method_11_code (2 : Nat) (Option.some (Jvm.ClassFile.FieldType.object "java/lang/Object"))).before args0 about1 = true := code_word (m := ⟨12, 1⟩) (meth := k12m1) (c := k12c1) (by decide +kernel) rfl rfl rfl (by decide +kernel)
set_option maxRecDepth 65536 in
theorem w_c4 : (Jvm.Cond.code ({ cls := "com/example/lease/lease/error/NoRouteException$PassedOver", name := "<init>", desc := "(Ljava/lang/Object;Lcom/example/lease/lease/error/ConnectFailedException;)V" } : Jvm.MethodName) prog_10_method_1_code (3 : Nat) (Option.none : Option Jvm.ClassFile.FieldType)).before args0 about1 = true := code_word (m := ⟨9, 0⟩) (meth := k9m0) (c := k9c0) (by decide +kernel) rfl rfl rfl (by decide +kernel)
set_option maxRecDepth 65536 in
theorem w_c5 : (Jvm.Cond.code ({ cls := "java/lang/Object", name := "<init>", desc := "()V" } : Jvm.MethodName) object_method_1_code (1 : Nat) (Option.none : Option Jvm.ClassFile.FieldType)).before args0 about1 = true := code_word (m := ⟨0, 0⟩) (meth := k0m0) (c := k0c0) (by decide +kernel) rfl rfl rfl (by decide +kernel)
set_option maxRecDepth 65536 in
theorem w_c6 : (Jvm.Cond.code ({ cls := "com/example/lease/lease/error/NoRouteException$PassedOver", name := "route", desc := "()Ljava/lang/Object;" } : Jvm.MethodName) prog_10_method_4_code (1 : Nat) (Option.some (Jvm.ClassFile.FieldType.object "java/lang/Object"))).before args0 about1 = true := code_word (m := ⟨9, 2⟩) (meth := k9m2) (c := k9c2) (by decide +kernel) rfl rfl rfl (by decide +kernel)
set_option maxRecDepth 65536 in
theorem w_c7 : (Jvm.Cond.code ({ cls := "com/example/lease/lease/error/NoRouteException$PassedOver", name := "isFull", desc := "()Z" } : Jvm.MethodName) prog_10_method_5_code (1 : Nat) (Option.some Jvm.ClassFile.FieldType.boolean)).before args0 about1 = true := code_word (m := ⟨9, 3⟩) (meth := k9m3) (c := k9c3) (by decide +kernel) rfl rfl rfl (by decide +kernel)
set_option maxRecDepth 65536 in
theorem w_c8 : (Jvm.Cond.code ({ cls := "com/example/lease/lease/error/NoRouteException$PassedOver", name := "connectFailure", desc := "()Lcom/example/lease/lease/error/ConnectFailedException;" } : Jvm.MethodName) prog_10_method_6_code (1 : Nat) (Option.some (Jvm.ClassFile.FieldType.object "com/example/lease/lease/error/ConnectFailedException"))).before args0 about1 = true := code_word (m := ⟨9, 4⟩) (meth := k9m4) (c := k9c4) (by decide +kernel) rfl rfl rfl (by decide +kernel)
set_option maxRecDepth 65536 in
theorem w_c9 : (Jvm.Cond.code ({ cls := "java/lang/String", name := "<init>", desc := "([C)V" } : Jvm.MethodName) jdk_42_method_3_code (2 : Nat) (Option.none : Option Jvm.ClassFile.FieldType)).before args0 about1 = true := code_word (m := ⟨11, 1⟩) (meth := k11m1) (c := k11c1) (by decide +kernel) rfl rfl rfl (by decide +kernel)
set_option maxRecDepth 65536 in
theorem w_c10 : (Jvm.Cond.code ({ cls := "java/lang/String", name := "<init>", desc := "([CIILjava/lang/Void;)V" } : Jvm.MethodName) jdk_42_method_149_code (6 : Nat) (Option.none : Option Jvm.ClassFile.FieldType)).before args0 about1 = true := code_word (m := ⟨11, 2⟩) (meth := k11m2) (c := k11c2) (by decide +kernel) rfl rfl rfl (by decide +kernel)
set_option maxRecDepth 65536 in
theorem w_c11 : (Jvm.Cond.code ({ cls := "java/lang/StringUTF16", name := "compress", desc := "([CII)[B" } : Jvm.MethodName) jdk_52_method_16_code (6 : Nat) (Option.some (Jvm.ClassFile.FieldType.array Jvm.ClassFile.FieldType.byte))).before args0 about1 = true := code_word (m := ⟨13, 2⟩) (meth := k13m2) (c := k13c2) (by decide +kernel) rfl rfl rfl (by decide +kernel)
set_option maxRecDepth 65536 in
theorem w_c12 : (Jvm.Cond.code ({ cls := "java/lang/StringUTF16", name := "compress", desc := "([CI[BII)I" } : Jvm.MethodName) jdk_52_method_21_code (7 : Nat) (Option.some Jvm.ClassFile.FieldType.int)).before args0 about1 = true := code_word (m := ⟨13, 3⟩) (meth := k13m3) (c := k13c3) (by decide +kernel) rfl rfl rfl (by decide +kernel)
set_option maxRecDepth 65536 in
theorem w_c13 : (Jvm.Cond.code ({ cls := "java/lang/StringUTF16", name := "coderFromArrayLen", desc := "([BI)B" } : Jvm.MethodName) jdk_52_method_15_code (2 : Nat) (Option.some Jvm.ClassFile.FieldType.byte)).before args0 about1 = true := code_word (m := ⟨13, 1⟩) (meth := k13m1) (c := k13c1) (by decide +kernel) rfl rfl rfl (by decide +kernel)
set_option maxRecDepth 65536 in
theorem w_c14 : (Jvm.Cond.code ({ cls := "java/lang/Integer", name := "valueOf", desc := "(I)Ljava/lang/Integer;" } : Jvm.MethodName) jdk_33_method_22_code (1 : Nat) (Option.some (Jvm.ClassFile.FieldType.object "java/lang/Integer"))).before args0 about1 = true := code_word (m := ⟨14, 0⟩) (meth := k14m0) (c := k14c0) (by decide +kernel) rfl rfl rfl (by decide +kernel)
set_option maxRecDepth 65536 in
theorem w_c15 : (Jvm.Cond.code ({ cls := "java/lang/Integer", name := "<init>", desc := "(I)V" } : Jvm.MethodName) jdk_33_method_23_code (2 : Nat) (Option.none : Option Jvm.ClassFile.FieldType)).before args0 about1 = true := code_word (m := ⟨14, 1⟩) (meth := k14m1) (c := k14c1) (by decide +kernel) rfl rfl rfl (by decide +kernel)
set_option maxRecDepth 65536 in
theorem w_c16 : (Jvm.Cond.code ({ cls := "java/lang/Number", name := "<init>", desc := "()V" } : Jvm.MethodName) jdk_18_method_1_code (1 : Nat) (Option.none : Option Jvm.ClassFile.FieldType)).before args0 about1 = true := code_word (m := ⟨3, 0⟩) (meth := k3m0) (c := k3c0) (by decide +kernel) rfl rfl rfl (by decide +kernel)
set_option maxRecDepth 65536 in
theorem w_c17 : (Jvm.Cond.code ({ cls := "java/lang/Long", name := "<init>", desc := "(J)V" } : Jvm.MethodName) jdk_35_method_26_code (3 : Nat) (Option.none : Option Jvm.ClassFile.FieldType)).before args0 about1 = true := code_word (m := ⟨7, 1⟩) (meth := k7m1) (c := k7c1) (by decide +kernel) rfl rfl rfl (by decide +kernel)
set_option maxRecDepth 65536 in
theorem w_c18 : (Jvm.Cond.code ({ cls := "java/util/ArrayList", name := "<init>", desc := "()V" } : Jvm.MethodName) jdk_38_method_2_code (1 : Nat) (Option.none : Option Jvm.ClassFile.FieldType)).before args0 about1 = true := code_word (m := ⟨24, 0⟩) (meth := k24m0) (c := k24c0) (by decide +kernel) rfl rfl rfl (by decide +kernel)
set_option maxRecDepth 65536 in
theorem w_c19 : (Jvm.Cond.code ({ cls := "java/util/AbstractList", name := "<init>", desc := "()V" } : Jvm.MethodName) jdk_39_method_1_code (1 : Nat) (Option.none : Option Jvm.ClassFile.FieldType)).before args0 about1 = true := code_word (m := ⟨21, 0⟩) (meth := k21m0) (c := k21c0) (by decide +kernel) rfl rfl rfl (by decide +kernel)
set_option maxRecDepth 65536 in
theorem w_c20 : (Jvm.Cond.code ({ cls := "java/util/AbstractCollection", name := "<init>", desc := "()V" } : Jvm.MethodName) jdk_22_method_1_code (1 : Nat) (Option.none : Option Jvm.ClassFile.FieldType)).before args0 about1 = true := code_word (m := ⟨18, 0⟩) (meth := k18m0) (c := k18c0) (by decide +kernel) rfl rfl rfl (by decide +kernel)
set_option maxRecDepth 65536 in
theorem w_c21 : (Jvm.Cond.code ({ cls := "java/util/ArrayList", name := "add", desc := "(Ljava/lang/Object;)Z" } : Jvm.MethodName) jdk_38_method_25_code (2 : Nat) (Option.some Jvm.ClassFile.FieldType.boolean)).before args0 about1 = true := code_word (m := ⟨24, 4⟩) (meth := k24m4) (c := k24c4) (by decide +kernel) rfl rfl rfl (by decide +kernel)
set_option maxRecDepth 65536 in
theorem w_c22 : (Jvm.Cond.code ({ cls := "java/util/ArrayList", name := "add", desc := "(Ljava/lang/Object;[Ljava/lang/Object;I)V" } : Jvm.MethodName) jdk_38_method_24_code (4 : Nat) (Option.none : Option Jvm.ClassFile.FieldType)).before args0 about1 = true := code_word (m := ⟨24, 3⟩) (meth := k24m3) (c := k24c3) (by decide +kernel) rfl rfl rfl (by decide +kernel)
set_option maxRecDepth 65536 in
theorem w_c23 : (Jvm.Cond.code ({ cls := "java/util/ArrayList", name := "grow", desc := "()[Ljava/lang/Object;" } : Jvm.MethodName) jdk_38_method_7_code (1 : Nat) (Option.some (Jvm.ClassFile.FieldType.array (Jvm.ClassFile.FieldType.object "java/lang/Object")))).before args0 about1 = true := code_word (m := ⟨24, 2⟩) (meth := k24m2) (c := k24c2) (by decide +kernel) rfl rfl rfl (by decide +kernel)
set_option maxRecDepth 65536 in
theorem w_c24 : (Jvm.Cond.code ({ cls := "java/util/ArrayList", name := "grow", desc := "(I)[Ljava/lang/Object;" } : Jvm.MethodName) jdk_38_method_6_code (4 : Nat) (Option.some (Jvm.ClassFile.FieldType.array (Jvm.ClassFile.FieldType.object "java/lang/Object")))).before args0 about1 = true := code_word (m := ⟨24, 1⟩) (meth := k24m1) (c := k24c1) (by decide +kernel) rfl rfl rfl (by decide +kernel)
set_option maxRecDepth 65536 in
theorem w_c25 : (Jvm.Cond.code ({ cls := "java/lang/Math", name := "max", desc := "(II)I" } : Jvm.MethodName) jdk_29_method_65_code (2 : Nat) (Option.some Jvm.ClassFile.FieldType.int)).before args0 about1 = true := code_word (m := ⟨25, 1⟩) (meth := k25m1) (c := k25c1) (by decide +kernel) rfl rfl rfl (by decide +kernel)
def codes1 : List Jvm.Cond := [Jvm.Cond.code x code maxLocals ret, Jvm.Cond.code ({ cls := "java/lang/Long", name := "valueOf", desc := "(J)Ljava/lang/Long;" } : Jvm.MethodName) jdk_35_method_24_code (3 : Nat) (Option.some (Jvm.ClassFile.FieldType.object "java/lang/Long")), Jvm.Cond.code ({ cls := "com/example/lease/lease/error/NoRouteException$PassedOver", name := "full", desc := "(Ljava/lang/Object;)Lcom/example/lease/lease/error/NoRouteException$PassedOver;" } : Jvm.MethodName) prog_10_method_2_code (1 : Nat) (Option.some (Jvm.ClassFile.FieldType.object "com/example/lease/lease/error/NoRouteException$PassedOver")), Jvm.Cond.code ({ cls := "java/util/Objects", name := "requireNonNull", desc := "(Ljava/lang/Object;Ljava/lang/String;)Ljava/lang/Object;" } : Jvm.MethodName) jdk_31_method_11_code (2 : Nat) (Option.some (Jvm.ClassFile.FieldType.object "java/lang/Object")), Jvm.Cond.code ({ cls := "com/example/lease/lease/error/NoRouteException$PassedOver", name := "<init>", desc := "(Ljava/lang/Object;Lcom/example/lease/lease/error/ConnectFailedException;)V" } : Jvm.MethodName) prog_10_method_1_code (3 : Nat) (Option.none : Option Jvm.ClassFile.FieldType), Jvm.Cond.code ({ cls := "java/lang/Object", name := "<init>", desc := "()V" } : Jvm.MethodName) object_method_1_code (1 : Nat) (Option.none : Option Jvm.ClassFile.FieldType), Jvm.Cond.code ({ cls := "com/example/lease/lease/error/NoRouteException$PassedOver", name := "route", desc := "()Ljava/lang/Object;" } : Jvm.MethodName) prog_10_method_4_code (1 : Nat) (Option.some (Jvm.ClassFile.FieldType.object "java/lang/Object")), Jvm.Cond.code ({ cls := "com/example/lease/lease/error/NoRouteException$PassedOver", name := "isFull", desc := "()Z" } : Jvm.MethodName) prog_10_method_5_code (1 : Nat) (Option.some Jvm.ClassFile.FieldType.boolean), Jvm.Cond.code ({ cls := "com/example/lease/lease/error/NoRouteException$PassedOver", name := "connectFailure", desc := "()Lcom/example/lease/lease/error/ConnectFailedException;" } : Jvm.MethodName) prog_10_method_6_code (1 : Nat) (Option.some (Jvm.ClassFile.FieldType.object "com/example/lease/lease/error/ConnectFailedException")), Jvm.Cond.code ({ cls := "java/lang/String", name := "<init>", desc := "([C)V" } : Jvm.MethodName) jdk_42_method_3_code (2 : Nat) (Option.none : Option Jvm.ClassFile.FieldType), Jvm.Cond.code ({ cls := "java/lang/String", name := "<init>", desc := "([CIILjava/lang/Void;)V" } : Jvm.MethodName) jdk_42_method_149_code (6 : Nat) (Option.none : Option Jvm.ClassFile.FieldType), Jvm.Cond.code ({ cls := "java/lang/StringUTF16", name := "compress", desc := "([CII)[B" } : Jvm.MethodName) jdk_52_method_16_code (6 : Nat) (Option.some (Jvm.ClassFile.FieldType.array Jvm.ClassFile.FieldType.byte)), Jvm.Cond.code ({ cls := "java/lang/StringUTF16", name := "compress", desc := "([CI[BII)I" } : Jvm.MethodName) jdk_52_method_21_code (7 : Nat) (Option.some Jvm.ClassFile.FieldType.int), Jvm.Cond.code ({ cls := "java/lang/StringUTF16", name := "coderFromArrayLen", desc := "([BI)B" } : Jvm.MethodName) jdk_52_method_15_code (2 : Nat) (Option.some Jvm.ClassFile.FieldType.byte), Jvm.Cond.code ({ cls := "java/lang/Integer", name := "valueOf", desc := "(I)Ljava/lang/Integer;" } : Jvm.MethodName) jdk_33_method_22_code (1 : Nat) (Option.some (Jvm.ClassFile.FieldType.object "java/lang/Integer")), Jvm.Cond.code ({ cls := "java/lang/Integer", name := "<init>", desc := "(I)V" } : Jvm.MethodName) jdk_33_method_23_code (2 : Nat) (Option.none : Option Jvm.ClassFile.FieldType), Jvm.Cond.code ({ cls := "java/lang/Number", name := "<init>", desc := "()V" } : Jvm.MethodName) jdk_18_method_1_code (1 : Nat) (Option.none : Option Jvm.ClassFile.FieldType), Jvm.Cond.code ({ cls := "java/lang/Long", name := "<init>", desc := "(J)V" } : Jvm.MethodName) jdk_35_method_26_code (3 : Nat) (Option.none : Option Jvm.ClassFile.FieldType), Jvm.Cond.code ({ cls := "java/util/ArrayList", name := "<init>", desc := "()V" } : Jvm.MethodName) jdk_38_method_2_code (1 : Nat) (Option.none : Option Jvm.ClassFile.FieldType), Jvm.Cond.code ({ cls := "java/util/AbstractList", name := "<init>", desc := "()V" } : Jvm.MethodName) jdk_39_method_1_code (1 : Nat) (Option.none : Option Jvm.ClassFile.FieldType), Jvm.Cond.code ({ cls := "java/util/AbstractCollection", name := "<init>", desc := "()V" } : Jvm.MethodName) jdk_22_method_1_code (1 : Nat) (Option.none : Option Jvm.ClassFile.FieldType), Jvm.Cond.code ({ cls := "java/util/ArrayList", name := "add", desc := "(Ljava/lang/Object;)Z" } : Jvm.MethodName) jdk_38_method_25_code (2 : Nat) (Option.some Jvm.ClassFile.FieldType.boolean), Jvm.Cond.code ({ cls := "java/util/ArrayList", name := "add", desc := "(Ljava/lang/Object;[Ljava/lang/Object;I)V" } : Jvm.MethodName) jdk_38_method_24_code (4 : Nat) (Option.none : Option Jvm.ClassFile.FieldType), Jvm.Cond.code ({ cls := "java/util/ArrayList", name := "grow", desc := "()[Ljava/lang/Object;" } : Jvm.MethodName) jdk_38_method_7_code (1 : Nat) (Option.some (Jvm.ClassFile.FieldType.array (Jvm.ClassFile.FieldType.object "java/lang/Object"))), Jvm.Cond.code ({ cls := "java/util/ArrayList", name := "grow", desc := "(I)[Ljava/lang/Object;" } : Jvm.MethodName) jdk_38_method_6_code (4 : Nat) (Option.some (Jvm.ClassFile.FieldType.array (Jvm.ClassFile.FieldType.object "java/lang/Object"))), Jvm.Cond.code ({ cls := "java/lang/Math", name := "max", desc := "(II)I" } : Jvm.MethodName) jdk_29_method_65_code (2 : Nat) (Option.some Jvm.ClassFile.FieldType.int)]
set_option maxRecDepth 65536 in
theorem codes_eq : words1.filter isCode = codes1 := rfl
theorem w_codes : ∀ c ∈ words1.filter isCode, c.before args0 about1 = true := by
  rw [codes_eq]
  intro c hc
  simp only [codes1, List.mem_cons, List.not_mem_nil, or_false] at hc
  rcases hc with rfl | rfl | rfl | rfl | rfl | rfl | rfl | rfl | rfl | rfl | rfl | rfl | rfl | rfl | rfl | rfl | rfl | rfl | rfl | rfl | rfl | rfl | rfl | rfl | rfl | rfl
  · exact w_c0
  · exact w_c1
  · exact w_c2
  · exact w_c3
  · exact w_c4
  · exact w_c5
  · exact w_c6
  · exact w_c7
  · exact w_c8
  · exact w_c9
  · exact w_c10
  · exact w_c11
  · exact w_c12
  · exact w_c13
  · exact w_c14
  · exact w_c15
  · exact w_c16
  · exact w_c17
  · exact w_c18
  · exact w_c19
  · exact w_c20
  · exact w_c21
  · exact w_c22
  · exact w_c23
  · exact w_c24
  · exact w_c25
set_option maxRecDepth 65536 in
theorem w_t1 : (words1.take 24).all (fun c => isCode c || c.before args0 about1) = true := by decide +kernel
set_option maxRecDepth 65536 in
theorem w_t2 : ((words1.drop 24).take 24).all (fun c => isCode c || c.before args0 about1) = true := by decide +kernel
set_option maxRecDepth 65536 in
theorem w_t3 : (((words1.drop 24).drop 24).take 24).all (fun c => isCode c || c.before args0 about1) = true := by decide +kernel
set_option maxRecDepth 65536 in
theorem w_t4 : ((((words1.drop 24).drop 24).drop 24).take 24).all (fun c => isCode c || c.before args0 about1) = true := by decide +kernel
set_option maxRecDepth 65536 in
theorem w_t5 : (((((words1.drop 24).drop 24).drop 24).drop 24).take 24).all (fun c => isCode c || c.before args0 about1) = true := by decide +kernel
set_option maxRecDepth 65536 in
theorem w_t6 : ((((((words1.drop 24).drop 24).drop 24).drop 24).drop 24).take 24).all (fun c => isCode c || c.before args0 about1) = true := by decide +kernel
set_option maxRecDepth 65536 in
theorem w_t7 : ((((((words1.drop 24).drop 24).drop 24).drop 24).drop 24).drop 24).all (fun c => isCode c || c.before args0 about1) = true := by decide +kernel
theorem w_tables : (allAtoms (Jvm.Cond.code x code maxLocals ret :: tables_1)).before args0 about1 = true := by
  rw [allAtoms_all]
  show words1.all (fun c => c.before args0 about1) = true
  refine all_split ?_ w_codes
  rw [← List.take_append_drop 24 words1, List.all_append, w_t1, ← List.take_append_drop 24 (words1.drop 24), List.all_append, w_t2, ← List.take_append_drop 24 ((words1.drop 24).drop 24), List.all_append, w_t3, ← List.take_append_drop 24 (((words1.drop 24).drop 24).drop 24), List.all_append, w_t4, ← List.take_append_drop 24 ((((words1.drop 24).drop 24).drop 24).drop 24), List.all_append, w_t5, ← List.take_append_drop 24 (((((words1.drop 24).drop 24).drop 24).drop 24).drop 24), List.all_append, w_t6, w_t7]
  rfl
set_option maxRecDepth 65536 in
theorem w_rest : rest_1_c.before args0 about1 = true := by decide +kernel
set_option maxRecDepth 65536 in
theorem w_case : (Jvm.Cond.and given_1 narrow_1).before args0 about1 = true := by decide +kernel
theorem w_applies : (headSpec (Jvm.Cond.code x code maxLocals ret :: tables_1) room_1).applies x e0.platform about1 = true :=
  (Spec.applies_iff w_frames).mpr ⟨w_running, w_runnable, w_alone, w_named, w_hears, w_ripe, w_room, w_tables⟩
theorem atStart : AtStart classFile x code maxLocals ret World_1 tables_1 room_1 Calls_1 rest_1 Pre_1 launch0 p0 e0 about1 theMethod args0 below0 :=
  ⟨lists_1, trivial, launch0.admits_env _ _ _, launch0.least_env, fairChoices_fair.cas, fairChoices_fair.clock, w_frames, w_args, w_heap, w_applies, trivial, w_rest, w_case⟩
end start1
theorem witness_1 : WitnessClaimed_1 := ⟨start1.p0, start1.e0, start1.about1, start1.theMethod, start1.args0, start1.below0, start1.atStart⟩
end Jvm.Pilot.@@N@@
