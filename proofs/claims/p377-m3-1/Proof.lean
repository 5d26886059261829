import JvmDerived
import JvmDerived.Pilot.@@N@@Statement
import JvmDerived.Pilot.@@N@@Code
set_option linter.unusedVariables false
set_option linter.unusedSimpArgs false
/- laws to paste: Road.backV (cut by pick.py; bodies as the Statement names them) -/
namespace Jvm.Pilot.@@N@@
namespace StrChars
open Jvm Sem ClassFile Op Lib Jvm.Stand Jvm.Free.XT Jvm.Free.ALB Jvm.Free.JM Jvm.Free
open Jvm.Lib.Cold (StaticIs)
/-- a char array whose places are chars -/
def Ch (a : Addr) (A : Cell) (U : State) : Prop := Arr .char a A U ∧ Typed .char A
theorem Ch.mv {a : Addr} {A : Cell} {U U' : State} (h : Ch a A U) (hal : U.vm.Alike U'.vm) (hh : U'.heap = U.heap) : Ch a A U' := ⟨h.1.mv hal hh, h.2⟩
theorem Ch.keep {a : Addr} {A : Cell} {U U' : State} (h : Ch a A U) (hal : U.vm.Alike U'.vm) (hk : U'.heap[a]? = some A) : Ch a A U' := ⟨h.1.keep hal hk, h.2⟩
/-- what place i of a char[]'s cell holds -/
def cv (A : Cell) (i : Nat) : Int32 := match A.slots[i]? with | some (.int x) => x | _ => 0
theorem Ch.get {a : Addr} {A : Cell} {U : State} (h : Ch a A U) {i : Nat} (hi : i < A.slots.size) : A.slots[i]? = some (.int (cv A i)) := by
  have e := Array.getElem?_eq_getElem hi
  have f := h.2 i _ e
  unfold cv; rw [e]
  generalize A.slots[i] = v at f
  cases v <;> simp [fits] at f ⊢
/-- the byte that i2b leaves of a char -/
def lo8 (x : Int32) : Int32 := x.toInt8.toInt32
theorem fits_lo8 (y : Int32) : fits .byte (.int (lo8 y)) = true := by
  have h1 := y.toInt8.le_toInt
  have h2 := y.toInt8.toInt_lt
  simp only [lo8, fits, Bool.and_eq_true, decide_eq_true_eq, Int32.le_iff_toInt_le, Int8.toInt_toInt32, show (-128 : Int32).toInt = -128 from by decide, show (127 : Int32).toInt = 127 from by decide]
  omega
/-- A' is A but that each place j of lo .. hi - 1 holds f j -/
def Laid (A A' : Cell) (lo hi : Nat) (f : Nat → Value) : Prop := A'.cls = A.cls ∧ A'.vm = A.vm ∧ A'.slots.size = A.slots.size ∧ ∀ i, A'.slots[i]? = if lo ≤ i ∧ i < hi then some (f i) else A.slots[i]?
theorem Laid.zero (A : Cell) (lo : Nat) (f : Nat → Value) : Laid A A lo (lo + 0) f := ⟨rfl, rfl, rfl, fun i => by rw [if_neg (by omega)]⟩
theorem Laid.step {A Ak : Cell} {lo k : Nat} {f : Nat → Value} {v : Value} (h : Laid A Ak lo k f) (hlo : lo ≤ k) (hk : k < Ak.slots.size) (hv : v = f k) : Laid A (Ak.setSlot k v) lo (k + 1) f := by
  refine ⟨h.1, h.2.1, by simpa [Cell.setSlot] using h.2.2.1, fun i => ?_⟩
  by_cases e : k = i
  · subst e; rw [Cell.slots_setSlot_self v hk, if_pos (by omega), hv]
  · rw [Cell.slots_setSlot_ne v e, h.2.2.2 i]
    by_cases q : lo ≤ i ∧ i < k
    · rw [if_pos q, if_pos (by omega)]
    · rw [if_neg q, if_neg (by omega)]
def U16 : String := "java/lang/StringUTF16"
namespace Cmp5
def yN : MethodName := ⟨"java/lang/StringUTF16", "compress", "([CI[BII)I"⟩
abbrev yB : ByteArray := jdk_52_method_21_code
theorem d0 : decode yB 0 = .ok (.iconst 0, 1) := by decide +kernel
theorem d1 : decode yB 1 = .ok (.istore 5, 2) := by decide +kernel
theorem d3 : decode yB 3 = .ok (.iload 5, 2) := by decide +kernel
theorem d5 : decode yB 5 = .ok (.iload 4, 2) := by decide +kernel
theorem d7 : decode yB 7 = .ok (.if_icmp (.ge) 37, 3) := by decide +kernel
theorem d10 : decode yB 10 = .ok (.aload_n 0, 1) := by decide +kernel
theorem d11 : decode yB 11 = .ok (.iload_n 1, 1) := by decide +kernel
theorem d12 : decode yB 12 = .ok (.caload, 1) := by decide +kernel
theorem d13 : decode yB 13 = .ok (.istore 6, 2) := by decide +kernel
theorem d15 : decode yB 15 = .ok (.iload 6, 2) := by decide +kernel
theorem d17 : decode yB 17 = .ok (.sipush 255, 3) := by decide +kernel
theorem d20 : decode yB 20 = .ok (.if_icmp (.le) 6, 3) := by decide +kernel
theorem d26 : decode yB 26 = .ok (.aload_n 2, 1) := by decide +kernel
theorem d27 : decode yB 27 = .ok (.iload_n 3, 1) := by decide +kernel
theorem d28 : decode yB 28 = .ok (.iload 6, 2) := by decide +kernel
theorem d30 : decode yB 30 = .ok (.i2b, 1) := by decide +kernel
theorem d31 : decode yB 31 = .ok (.bastore, 1) := by decide +kernel
theorem d32 : decode yB 32 = .ok (.iinc 1 1, 3) := by decide +kernel
theorem d35 : decode yB 35 = .ok (.iinc 3 1, 3) := by decide +kernel
theorem d38 : decode yB 38 = .ok (.iinc 5 1, 3) := by decide +kernel
theorem d41 : decode yB 41 = .ok (.goto (-38), 3) := by decide +kernel
theorem d44 : decode yB 44 = .ok (.iload 4, 2) := by decide +kernel
theorem d46 : decode yB 46 = .ok (.ireturn, 1) := by decide +kernel
def site : List Cond := []
def tab : Cond := tabOf yN yB 7 (some .int) site
def P (b : Addr) (A : Cell) (d : Addr) (B : Cell) (o q len : Nat) (args : Array Value) (s : State) : Prop := args = #[.ref b, .int (Int32.ofNat o), .ref d, .int (Int32.ofNat q), .int (Int32.ofNat len)] ∧ Ch b A s ∧ Arr .byte d B s ∧ b ≠ d ∧ o + len ≤ A.slots.size ∧ q + len ≤ B.slots.size ∧ ∀ i, i < len → ¬ 255 < cv A (o + i)
def E (b : Addr) (A : Cell) (d : Addr) (B : Cell) (o q len : Nat) (r : Option Value) (s u : State) : Prop := r = some (.int (Int32.ofNat len)) ∧ ∃ B', Put d B' s u ∧ Laid B B' q (q + len) (fun j => Value.int (lo8 (cv A (o + (j - q)))))
/-- no char of the range above 255: len; the places written hold each char's low byte -/
theorem law (l : Launch) (b : Addr) (A : Cell) (d : Addr) (B : Cell) (o q len : Nat) : Law l yN 5 5 0 0 yB 7 (some .int) site (P b A d B o q len) (E b A d B o q len) (copyLocs d q len) 0 0 := by
  refine Law.of_walk (plainFor_of_name (by decide +kernel)) (by decide +kernel) (by decide +kernel) (by decide) (fun _ _ h => by rw [h.1]; rfl) (fun _ U U' hal hh h => ⟨h.1, h.2.1.mv hal hh, h.2.2.1.mv hal hh, h.2.2.2⟩) (fun r U U' V V' h1 hal h2 h => ⟨h.1, h.2.elim fun B' q => ⟨B', q.1.mv h1 h2, q.2⟩⟩) ?_
  intro p e s m args below meth c s₁ X0 hexec hbytes hml hret hlk hnm hown hh0 W hP
  obtain ⟨rfl, hA, hB, hne, l1, l2, hp⟩ := hP
  have c1 : Steps p.tables e below (s₁.setTop (entryFrame m #[.ref b, .int (Int32.ofNat o), .ref d, .int (Int32.ofNat q), .int (Int32.ofNat len)] 7)) (s₁.setTop (mkF m 0 #[.val (.ref b), .val (.int (Int32.ofNat o)), .val (.ref d), .val (.int (Int32.ofNat q)), .val (.int (Int32.ofNat len)), .unset, .unset] [])) := entry rfl
  have hA0 := hA.1.mv X0.warmed.alike hh0
  have hB0 := hB.mv X0.warmed.alike hh0
  have a31 := hA.1.2.2.2
  have c2 : Steps p.tables e below (s₁.setTop (entryFrame m #[.ref b, .int (Int32.ofNat o), .ref d, .int (Int32.ofNat q), .int (Int32.ofNat len)] 7)) (s₁.setTop (mkF m 3 #[.val (.ref b), .val (.int (Int32.ofNat o)), .val (.ref d), .val (.int (Int32.ofNat q)), .val (.int (Int32.ofNat len)), .val (.int 0), .unset] [])) := c1.trans (by
    refine iconstV X0.here hexec rfl 0 (hb hbytes d0) (by decide) ?_
    refine XS.istore X0.here hexec rfl (hb hbytes d1) rfl rfl ?_
    exact Steps.refl _)
  have loop : ∀ (r i : Nat), i + r = len → ∀ (z : Slot), (z = .unset ∨ ∃ w, z = .val w ∧ w.category = 1) → ∀ (Tl : State) (Bk : Cell), Stand p l e { frames := 0, locals := 0, cells := 0, slots := 0 } s m #[.ref b, .int (Int32.ofNat o), .ref d, .int (Int32.ofNat q), .int (Int32.ofNat len)] below meth c Tl ([] ++ copyLocs d q i) 0 0 → Put d Bk s₁ Tl → Laid B Bk q (q + i) (fun j => Value.int (lo8 (cv A (o + (j - q))))) →
      Steps p.tables e below (s₁.setTop (entryFrame m #[.ref b, .int (Int32.ofNat o), .ref d, .int (Int32.ofNat q), .int (Int32.ofNat len)] 7)) (Tl.setTop (mkF m 3 #[.val (.ref b), .val (.int (Int32.ofNat (o + i))), .val (.ref d), .val (.int (Int32.ofNat (q + i))), .val (.int (Int32.ofNat len)), .val (.int (Int32.ofNat i)), z] [])) → ∃ (T' : State) (B' : Cell) (z' : Slot), Stand p l e { frames := 0, locals := 0, cells := 0, slots := 0 } s m #[.ref b, .int (Int32.ofNat o), .ref d, .int (Int32.ofNat q), .int (Int32.ofNat len)] below meth c T' ([] ++ copyLocs d q len) 0 0 ∧ Put d B' s₁ T' ∧ Laid B B' q (q + len) (fun j => Value.int (lo8 (cv A (o + (j - q))))) ∧
      Steps p.tables e below (s₁.setTop (entryFrame m #[.ref b, .int (Int32.ofNat o), .ref d, .int (Int32.ofNat q), .int (Int32.ofNat len)] 7)) (T'.setTop (mkF m 3 #[.val (.ref b), .val (.int (Int32.ofNat (o + len))), .val (.ref d), .val (.int (Int32.ofNat (q + len))), .val (.int (Int32.ofNat len)), .val (.int (Int32.ofNat len)), z'] [])) := by
    intro r
    induction r with
    | zero =>
      intro i hi z hz Tl Bk Xl pl fl cl
      have hil : i = len := by omega
      rw [hil] at Xl fl cl
      exact ⟨Tl, Bk, z, Xl, pl, fl, cl⟩
    | succ r ih =>
      intro i hi z hz Tl Bk Xl pl fl cl
      have all := X0.warmed.alike.symm.trans Xl.warmed.alike
      have hAl := hA0.keep all (pl.other hne hA0.1)
      have hBk := hB0.like all pl.1 fl.1 fl.2.1 fl.2.2.1
      have hlt : q + i < Bk.slots.size := by rw [fl.2.2.1]; omega
      have c3 : Steps p.tables e below (s₁.setTop (entryFrame m #[.ref b, .int (Int32.ofNat o), .ref d, .int (Int32.ofNat q), .int (Int32.ofNat len)] 7)) (Tl.setTop (mkF m 12 #[.val (.ref b), .val (.int (Int32.ofNat (o + i))), .val (.ref d), .val (.int (Int32.ofNat (q + i))), .val (.int (Int32.ofNat len)), .val (.int (Int32.ofNat i)), z] [.int (Int32.ofNat (o + i)), .ref b])) := cl.trans (by
        refine XS.iload Xl.here hexec rfl (hb hbytes d3) rfl ?_
        refine XS.iload Xl.here hexec rfl (hb hbytes d5) rfl ?_
        refine XS.icmpNo Xl.here hexec rfl (hb hbytes d7) rfl (ii_ge_f (lt32 (by omega) (by omega))) ?_
        refine XS.aloadN Xl.here hexec rfl (hb hbytes d10) rfl rfl ?_
        refine XS.iloadN Xl.here hexec rfl (hb hbytes d11) rfl ?_
        exact Steps.refl _)
      have c4 : Steps p.tables e below (s₁.setTop (entryFrame m #[.ref b, .int (Int32.ofNat o), .ref d, .int (Int32.ofNat q), .int (Int32.ofNat len)] 7)) (Tl.setTop (mkF m 13 #[.val (.ref b), .val (.int (Int32.ofNat (o + i))), .val (.ref d), .val (.int (Int32.ofNat (q + i))), .val (.int (Int32.ofNat len)), .val (.int (Int32.ofNat i)), z] [.int (cv A (o + i))])) := c3.trans (by
        refine Xl.aget hexec hAl rfl (hA.get (i := o + i) (by omega)) rfl rfl (hb hbytes d12) ?_
        exact Steps.refl _)
      have c5 : Steps p.tables e below (s₁.setTop (entryFrame m #[.ref b, .int (Int32.ofNat o), .ref d, .int (Int32.ofNat q), .int (Int32.ofNat len)] 7)) (Tl.setTop (mkF m 15 #[.val (.ref b), .val (.int (Int32.ofNat (o + i))), .val (.ref d), .val (.int (Int32.ofNat (q + i))), .val (.int (Int32.ofNat len)), .val (.int (Int32.ofNat i)), .val (.int (cv A (o + i)))] [])) := c4.trans (by
        refine XS.istoreS Xl.here hexec rfl (hb hbytes d13) rfl rfl hz ?_
        exact Steps.refl _)
      have c6 : Steps p.tables e below (s₁.setTop (entryFrame m #[.ref b, .int (Int32.ofNat o), .ref d, .int (Int32.ofNat q), .int (Int32.ofNat len)] 7)) (Tl.setTop (mkF m 31 #[.val (.ref b), .val (.int (Int32.ofNat (o + i))), .val (.ref d), .val (.int (Int32.ofNat (q + i))), .val (.int (Int32.ofNat len)), .val (.int (Int32.ofNat i)), .val (.int (cv A (o + i)))] [.int (lo8 (cv A (o + i))), .int (Int32.ofNat (q + i)), .ref d])) := c5.trans (by
        refine XS.iload Xl.here hexec rfl (hb hbytes d15) rfl ?_
        refine sipushV Xl.here hexec rfl 255 (hb hbytes d17) (by decide) ?_
        refine XS.icmpYes Xl.here hexec rfl (pc0 := 20) rfl (hb hbytes d20) rfl (ii_le_t (hp i (by omega))) (by decide) rfl ?_
        refine XS.aloadN Xl.here hexec rfl (hb hbytes d26) rfl rfl ?_
        refine XS.iloadN Xl.here hexec rfl (hb hbytes d27) rfl ?_
        refine XS.iload Xl.here hexec rfl (hb hbytes d28) rfl ?_
        refine i2b Xl.here hexec rfl (hb hbytes d30) rfl ?_
        exact Steps.refl _)
      obtain ⟨T7, X7, p7, st7⟩ := Xl.aput hexec hBk rfl hlt rfl (fits_lo8 (cv A (o + i))) (g := (mkF m 31 #[.val (.ref b), .val (.int (Int32.ofNat (o + i))), .val (.ref d), .val (.int (Int32.ofNat (q + i))), .val (.int (Int32.ofNat len)), .val (.int (Int32.ofNat i)), .val (.int (cv A (o + i)))] [.int (lo8 (cv A (o + i))), .int (Int32.ofNat (q + i)), .ref d])) rfl (rest := []) rfl (hb hbytes d31)
      have c8 : Steps p.tables e below (s₁.setTop (entryFrame m #[.ref b, .int (Int32.ofNat o), .ref d, .int (Int32.ofNat q), .int (Int32.ofNat len)] 7)) (T7.setTop (mkF m 32 #[.val (.ref b), .val (.int (Int32.ofNat (o + i))), .val (.ref d), .val (.int (Int32.ofNat (q + i))), .val (.int (Int32.ofNat len)), .val (.int (Int32.ofNat i)), .val (.int (cv A (o + i)))] [])) := c6.trans (st7 _ (Steps.refl _))
      have c9 : Steps p.tables e below (s₁.setTop (entryFrame m #[.ref b, .int (Int32.ofNat o), .ref d, .int (Int32.ofNat q), .int (Int32.ofNat len)] 7)) (T7.setTop (mkF m 3 #[.val (.ref b), .val (.int (Int32.ofNat (o + i) + 1)), .val (.ref d), .val (.int (Int32.ofNat (q + i) + 1)), .val (.int (Int32.ofNat len)), .val (.int (Int32.ofNat i + 1)), .val (.int (cv A (o + i)))] [])) := c8.trans (by
        refine iincV X7.here hexec rfl 1 (hb hbytes d32) (by decide) rfl rfl ?_
        refine iincV X7.here hexec rfl 1 (hb hbytes d35) (by decide) rfl rfl ?_
        refine iincV X7.here hexec rfl 1 (hb hbytes d38) (by decide) rfl rfl ?_
        refine XS.goto X7.here hexec rfl (pc0 := 41) rfl (hb hbytes d41) (by decide) rfl ?_
        exact Steps.refl _)
      have c10 : Steps p.tables e below (s₁.setTop (entryFrame m #[.ref b, .int (Int32.ofNat o), .ref d, .int (Int32.ofNat q), .int (Int32.ofNat len)] 7)) (T7.setTop (mkF m 3 #[.val (.ref b), .val (.int (Int32.ofNat (o + (i + 1)))), .val (.ref d), .val (.int (Int32.ofNat (q + (i + 1)))), .val (.int (Int32.ofNat len)), .val (.int (Int32.ofNat (i + 1))), .val (.int (cv A (o + i)))] [])) := by
        have := c9
        rw [succ32, succ32, succ32] at this
        exact this
      exact ih (i + 1) (by omega) _ (Or.inr ⟨_, rfl, rfl⟩) T7 _ (by rw [copyLocs_step, ← List.append_assoc]; exact X7) (pl.trans p7) (fl.step (by omega) hlt (by simp)) c10
  obtain ⟨T9, B9, z9, X9, p9, f9, g9⟩ := loop len 0 (by omega) .unset (Or.inl rfl) s₁ B (by simpa [copyLocs] using X0) ⟨hB0.1, fun _ _ => rfl, rfl⟩ (Laid.zero _ _ _) c2
  have c11 : Steps p.tables e below (s₁.setTop (entryFrame m #[.ref b, .int (Int32.ofNat o), .ref d, .int (Int32.ofNat q), .int (Int32.ofNat len)] 7)) (T9.setTop (mkF m 46 #[.val (.ref b), .val (.int (Int32.ofNat (o + len))), .val (.ref d), .val (.int (Int32.ofNat (q + len))), .val (.int (Int32.ofNat len)), .val (.int (Int32.ofNat len)), z9] [.int (Int32.ofNat len)])) := g9.trans (by
    refine XS.iload X9.here hexec rfl (hb hbytes d3) rfl ?_
    refine XS.iload X9.here hexec rfl (hb hbytes d5) rfl ?_
    refine XS.icmpYes X9.here hexec rfl (pc0 := 7) rfl (hb hbytes d7) rfl (ii_ge_t (nlt32 (by omega) (Nat.le_refl _))) (by decide) rfl ?_
    refine XS.iload X9.here hexec rfl (hb hbytes d44) rfl ?_
    exact Steps.refl _)
  exact ⟨T9, some (.int (Int32.ofNat len)), _, _, _, X9, by simp, rfl, rfl, (fun h => by cases h), ⟨rfl, B9, p9.from hh0, f9⟩, fun fs hl => c11.trans (X9.ireturnOut hexec hret rfl (Or.inl rfl) (hb hbytes d46) hl)⟩
end Cmp5
namespace Cmp3
def yN : MethodName := ⟨"java/lang/StringUTF16", "compress", "([CII)[B"⟩
abbrev yB : ByteArray := jdk_52_method_16_code
theorem d0 : decode yB 0 = .ok (.iload_n 2, 1) := by decide +kernel
theorem d1 : decode yB 1 = .ok (.newarray .byte, 2) := by decide +kernel
theorem d3 : decode yB 3 = .ok (.astore_n 3, 1) := by decide +kernel
theorem d4 : decode yB 4 = .ok (.aload_n 0, 1) := by decide +kernel
theorem d5 : decode yB 5 = .ok (.iload_n 1, 1) := by decide +kernel
theorem d6 : decode yB 6 = .ok (.aload_n 3, 1) := by decide +kernel
theorem d7 : decode yB 7 = .ok (.iconst 0, 1) := by decide +kernel
theorem d8 : decode yB 8 = .ok (.iload_n 2, 1) := by decide +kernel
theorem d9 : decode yB 9 = .ok (.invokestatic 115, 3) := by decide +kernel
theorem d12 : decode yB 12 = .ok (.istore 4, 2) := by decide +kernel
theorem d14 : decode yB 14 = .ok (.iload 4, 2) := by decide +kernel
theorem d16 : decode yB 16 = .ok (.iload_n 2, 1) := by decide +kernel
theorem d17 : decode yB 17 = .ok (.if_icmp (.eq) 40, 3) := by decide +kernel
theorem d57 : decode yB 57 = .ok (.aload_n 3, 1) := by decide +kernel
theorem d58 : decode yB 58 = .ok (.areturn, 1) := by decide +kernel
def site : List Cond := [.arrayClass .byte, Cmp5.tab] ++ staticW U16 115 Cmp5.yN
def tab : Cond := tabOf yN yB 6 (some (.array .byte)) site
def P (b : Addr) (A : Cell) (o len : Nat) (args : Array Value) (s : State) : Prop := args = #[.ref b, .int (Int32.ofNat o), .int (Int32.ofNat len)] ∧ Ch b A s ∧ o + len ≤ A.slots.size ∧ len ≤ 536870912 ∧ ∀ i, i < len → ¬ 255 < cv A (o + i)
def E (b : Addr) (A : Cell) (o len : Nat) (r : Option Value) (s u : State) : Prop := NewArr .byte "[B" len (fun j => .int (lo8 (cv A (o + j)))) r s u ∧ u.heap.size = s.heap.size + 1
/-- no char of the range above 255: a new byte[] of their low bytes -/
theorem law (l : Launch) (b : Addr) (A : Cell) (o len : Nat) : Law l yN 3 3 1 18 yB 6 (some (.array .byte)) site (P b A o len) (E b A o len) [] 1 len := by
  refine Law.of_walk (plainFor_of_name (by decide +kernel)) (by decide +kernel) (by decide +kernel) (by decide) (fun _ _ h => by rw [h.1]; rfl) (fun _ U U' hal hh h => ⟨h.1, h.2.1.mv hal hh, h.2.2⟩) (fun r U U' V V' h1 hal h2 h => ⟨NewArr.mv r U U' V V' h1 hal h2 h.1, by rw [h1, h2]; exact h.2⟩) ?_
  intro p e s m args below meth c s₁ X0 hexec hbytes hml hret hlk hnm hown hh0 W hP
  obtain ⟨rfl, hA, l1, l2, hp⟩ := hP
  have a31 := hA.1.2.2.2
  have c1 : Steps p.tables e below (s₁.setTop (entryFrame m #[.ref b, .int (Int32.ofNat o), .int (Int32.ofNat len)] 6)) (s₁.setTop (mkF m 0 #[.val (.ref b), .val (.int (Int32.ofNat o)), .val (.int (Int32.ofNat len)), .unset, .unset, .unset] [])) := entry rfl
  have c2 : Steps p.tables e below (s₁.setTop (entryFrame m #[.ref b, .int (Int32.ofNat o), .int (Int32.ofNat len)] 6)) (s₁.setTop (mkF m 1 #[.val (.ref b), .val (.int (Int32.ofNat o)), .val (.int (Int32.ofNat len)), .unset, .unset, .unset] [.int (Int32.ofNat len)])) := c1.trans (by
    refine XS.iloadN X0.here hexec rfl (hb hbytes d0) rfl ?_
    exact Steps.refl _)
  obtain ⟨T3, B3, X3, ba3, bs3, bv3, bh3, bf3, st3⟩ := X0.anew hexec (atype := .byte) (wk W (.arrayClass .byte)) rfl (by show len * 1 ≤ _; omega) (by omega) (g := (mkF m 1 #[.val (.ref b), .val (.int (Int32.ofNat o)), .val (.int (Int32.ofNat len)), .unset, .unset, .unset] [.int (Int32.ofNat len)])) rfl (hb hbytes d1) (rest := []) rfl (Nat.le_refl _) (by show 0 + len ≤ len; omega)
  rw [hh0] at ba3 st3
  have kp3 : XT.Kept s T3 := (XT.Kept.of_eq hh0).push bh3
  have hA3 := hA.keep X3.warmed.alike (kp3 _ _ hA.1.1)
  have hne : b ≠ s.heap.size := hA.1.ne
  have c4 : Steps p.tables e below (s₁.setTop (entryFrame m #[.ref b, .int (Int32.ofNat o), .int (Int32.ofNat len)] 6)) (T3.setTop (mkF m 3 #[.val (.ref b), .val (.int (Int32.ofNat o)), .val (.int (Int32.ofNat len)), .unset, .unset, .unset] [.ref s.heap.size])) := c2.trans (st3 _ (Steps.refl _))
  have c5 : Steps p.tables e below (s₁.setTop (entryFrame m #[.ref b, .int (Int32.ofNat o), .int (Int32.ofNat len)] 6)) (T3.setTop (mkF m 9 #[.val (.ref b), .val (.int (Int32.ofNat o)), .val (.int (Int32.ofNat len)), .val (.ref s.heap.size), .unset, .unset] [.int (Int32.ofNat len), .int 0, .ref s.heap.size, .int (Int32.ofNat o), .ref b])) := c4.trans (by
    refine XS.astoreN X3.here hexec rfl (hb hbytes d3) rfl rfl rfl ?_
    refine XS.aloadN X3.here hexec rfl (hb hbytes d4) rfl rfl ?_
    refine XS.iloadN X3.here hexec rfl (hb hbytes d5) rfl ?_
    refine XS.aloadN X3.here hexec rfl (hb hbytes d6) rfl rfl ?_
    refine iconstV X3.here hexec rfl 0 (hb hbytes d7) (by decide) ?_
    refine XS.iloadN X3.here hexec rfl (hb hbytes d8) rfl ?_
    exact Steps.refl _)
  obtain ⟨v6, T6, X6, E6, g6⟩ := X3.callS hexec (Cmp5.law l b A s.heap.size B3 o 0 len) hown (wks W (staticW U16 115 Cmp5.yN)) (wk W Cmp5.tab) (W := 0) (Nat.le_of_ble_eq_true rfl) (Nat.le_of_ble_eq_true rfl) (Nat.le_refl _) (by show 0 + len + 0 ≤ len; omega) (g := (mkF m 9 #[.val (.ref b), .val (.int (Int32.ofNat o)), .val (.int (Int32.ofNat len)), .val (.ref s.heap.size), .unset, .unset] [.int (Int32.ofNat len), .int (Int32.ofNat 0), .ref s.heap.size, .int (Int32.ofNat o), .ref b])) rfl (by rw [hml]; rfl) c5 (argsL := [.ref b, .int (Int32.ofNat o), .ref s.heap.size, .int (Int32.ofNat 0), .int (Int32.ofNat len)]) (rest := []) rfl rfl (by show 2 * 0 + 0 ≤ _; decide) (hb hbytes d9) (⟨rfl, hA3, ba3, hne, l1, by rw [bs3]; simp, hp⟩)
  obtain ⟨rfl, B6, p6, f6⟩ := E6
  have c7 : Steps p.tables e below (s₁.setTop (entryFrame m #[.ref b, .int (Int32.ofNat o), .int (Int32.ofNat len)] 6)) (T6.setTop (mkF m 12 #[.val (.ref b), .val (.int (Int32.ofNat o)), .val (.int (Int32.ofNat len)), .val (.ref s.heap.size), .unset, .unset] [.int (Int32.ofNat len)])) := g6
  have c8 : Steps p.tables e below (s₁.setTop (entryFrame m #[.ref b, .int (Int32.ofNat o), .int (Int32.ofNat len)] 6)) (T6.setTop (mkF m 58 #[.val (.ref b), .val (.int (Int32.ofNat o)), .val (.int (Int32.ofNat len)), .val (.ref s.heap.size), .val (.int (Int32.ofNat len)), .unset] [.ref s.heap.size])) := c7.trans (by
    refine XS.istore X6.here hexec rfl (hb hbytes d12) rfl rfl ?_
    refine XS.iload X6.here hexec rfl (hb hbytes d14) rfl ?_
    refine XS.iloadN X6.here hexec rfl (hb hbytes d16) rfl ?_
    refine XS.icmpYes X6.here hexec rfl (pc0 := 17) rfl (hb hbytes d17) rfl (ii_eq_t rfl) (by decide) rfl ?_
    refine XS.aloadN X6.here hexec rfl (hb hbytes d57) rfl rfl ?_
    exact Steps.refl _)
  have X8 := X6.wide (L' := []) (cells' := 1) (slots' := len) (fun x hx hlt => by
    simp only [List.nil_append, copyLocs, List.mem_map, List.mem_range] at hx
    obtain ⟨i, -, rfl⟩ := hx
    exact absurd hlt (Nat.lt_irrefl _)) (Nat.le_refl _) (by omega)
  exact ⟨T6, some (.ref s.heap.size), _, _, _, X8, rfl, rfl, rfl, (fun h => by cases h), ⟨⟨rfl, B6, ba3.like (X3.warmed.alike.symm.trans X6.warmed.alike) p6.1 f6.1 f6.2.1 f6.2.2.1, f6.2.1.trans bv3, by rw [X6.warmed.alike.findClass, f6.1]; exact bf3, by rw [f6.2.2.1, bs3]; simp, fun j hj => by rw [f6.2.2.2 j, if_pos (by omega)]; rfl, kp3.put p6 (Nat.le_refl _)⟩, by rw [p6.2.2, bh3, hh0]; simp⟩, fun fs hl => c8.trans (X8.areturnOut hexec rfl hret rfl (hb hbytes d58) hl)⟩
end Cmp3
namespace CodL
def yN : MethodName := ⟨"java/lang/StringUTF16", "coderFromArrayLen", "([BI)B"⟩
abbrev yB : ByteArray := jdk_52_method_15_code
theorem d0 : decode yB 0 = .ok (.iload_n 1, 1) := by decide +kernel
theorem d1 : decode yB 1 = .ok (.aload_n 0, 1) := by decide +kernel
theorem d2 : decode yB 2 = .ok (.arraylength, 1) := by decide +kernel
theorem d3 : decode yB 3 = .ok (.isub, 1) := by decide +kernel
theorem d4 : decode yB 4 = .ok (.bipush 31, 2) := by decide +kernel
theorem d6 : decode yB 6 = .ok (.iushr, 1) := by decide +kernel
theorem d7 : decode yB 7 = .ok (.i2b, 1) := by decide +kernel
theorem d8 : decode yB 8 = .ok (.ireturn, 1) := by decide +kernel
def site : List Cond := []
def tab : Cond := tabOf yN yB 2 (some .byte) site
def P (d : Addr) (B : Cell) (args : Array Value) (s : State) : Prop := args = #[.ref d, .int (Int32.ofNat B.slots.size)] ∧ Arr .byte d B s
def E (r : Option Value) (s u : State) : Prop := XT.PureE (some (.int 0)) r s u
/-- an array as long as the number of chars: LATIN1 -/
theorem law (l : Launch) (d : Addr) (B : Cell) : Law l yN 2 2 0 0 yB 2 (some .byte) site (P d B) E [] 0 0 := by
  refine Law.of_walk (plainFor_of_name (by decide +kernel)) (by decide +kernel) (by decide +kernel) (by decide) (fun _ _ h => by rw [h.1]; rfl) (fun _ U U' hal hh h => ⟨h.1, h.2.mv hal hh⟩) (fun r U U' V V' h1 hal h2 h => XT.PureE.mv r U U' V V' h1 hal h2 h) ?_
  intro p e s m args below meth c s₁ X0 hexec hbytes hml hret hlk hnm hown hh0 W hP
  obtain ⟨rfl, hB⟩ := hP
  have hB0 := hB.mv X0.warmed.alike hh0
  have c1 : Steps p.tables e below (s₁.setTop (entryFrame m #[.ref d, .int (Int32.ofNat B.slots.size)] 2)) (s₁.setTop (mkF m 0 #[.val (.ref d), .val (.int (Int32.ofNat B.slots.size))] [])) := entry rfl
  have c2 : Steps p.tables e below (s₁.setTop (entryFrame m #[.ref d, .int (Int32.ofNat B.slots.size)] 2)) (s₁.setTop (mkF m 2 #[.val (.ref d), .val (.int (Int32.ofNat B.slots.size))] [.ref d, .int (Int32.ofNat B.slots.size)])) := c1.trans (by
    refine XS.iloadN X0.here hexec rfl (hb hbytes d0) rfl ?_
    refine XS.aloadN X0.here hexec rfl (hb hbytes d1) rfl rfl ?_
    exact Steps.refl _)
  have c3 : Steps p.tables e below (s₁.setTop (entryFrame m #[.ref d, .int (Int32.ofNat B.slots.size)] 2)) (s₁.setTop (mkF m 8 #[.val (.ref d), .val (.int (Int32.ofNat B.slots.size))] [.int (lo8 (ushr (Int32.ofNat B.slots.size - Int32.ofNat B.slots.size) 31))])) := c2.trans (by
    refine X0.alen hexec hB0 rfl rfl (hb hbytes d2) ?_
    refine XS.isub X0.here hexec rfl (hb hbytes d3) rfl ?_
    refine bipushV X0.here hexec rfl 31 (hb hbytes d4) (by decide) ?_
    refine iushr X0.here hexec rfl (hb hbytes d6) rfl ?_
    refine i2b X0.here hexec rfl (hb hbytes d7) rfl ?_
    exact Steps.refl _)
  have e0 : lo8 (ushr (Int32.ofNat B.slots.size - Int32.ofNat B.slots.size) 31) = 0 := by rw [Int32.sub_self]; decide
  rw [e0] at c3
  exact ⟨s₁, some (.int 0), _, _, _, X0, rfl, rfl, rfl, (fun h => by cases h), ⟨rfl, hh0⟩, fun fs hl => c3.trans (X0.ireturnOut hexec hret rfl (Or.inr (Or.inr (Or.inl rfl))) (hb hbytes d8) hl)⟩
end CodL
/-- the String at a is Latin-1 over a new byte[] (the heap's one new cell): the low bytes of the len chars of A from o on; every cell but a is kept -/
def Got (a : Addr) (D : Cell) (fV fC : Field) (A : Cell) (o len : Nat) (r : Option Value) (s u : State) : Prop := r = none ∧ ∃ D' V : Cell, Blank "java/lang/String" a D' u ∧ Same D D' [fV.slot, fC.slot] ∧ D'.slots[fV.slot]? = some (.ref s.heap.size) ∧ D'.slots[fC.slot]? = some (.int 0) ∧ Arr .byte s.heap.size V u ∧ V.vm = .none ∧ u.vm.findClass "[B" = some V.cls ∧ V.slots.size = len ∧ (∀ j, j < len → V.slots[j]? = some (.int (lo8 (cv A (o + j))))) ∧ (∀ (y : Addr) (c : Cell), y ≠ a → s.heap[y]? = some c → u.heap[y]? = some c) ∧ u.heap.size = s.heap.size + 1
theorem Got.mv {a : Addr} {D A : Cell} {fV fC : Field} {o len : Nat} : ∀ r (U U' V V' : State), U'.heap = U.heap → V.vm.Alike V'.vm → V'.heap = V.heap → Got a D fV fC A o len r U V → Got a D fV fC A o len r U' V' :=
  fun r U U' V V' h1 hal h2 ⟨e0, D', X, a1, a2, a3, a4, a5, a6, a7, a8, a9, a10, a11⟩ => ⟨e0, D', X, a1.mv hal h2, a2, by rw [h1]; exact a3, a4, by rw [h1]; exact a5.mv hal h2, a6, by rw [hal.findClass]; exact a7, a8, a9, by rw [h1, h2]; exact a10, by rw [h1, h2]; exact a11⟩
namespace New4
def yN : MethodName := ⟨"java/lang/String", "<init>", "([CIILjava/lang/Void;)V"⟩
abbrev yB : ByteArray := jdk_42_method_149_code
theorem d0 : decode yB 0 = .ok (.aload_n 0, 1) := by decide +kernel
theorem d1 : decode yB 1 = .ok (.invokespecial 1, 3) := by decide +kernel
theorem d4 : decode yB 4 = .ok (.iload_n 3, 1) := by decide +kernel
theorem d5 : decode yB 5 = .ok (.ifCond (.ne) 22, 3) := by decide +kernel
theorem d27 : decode yB 27 = .ok (.getstatic 38, 3) := by decide +kernel
theorem d30 : decode yB 30 = .ok (.ifCond (.eq) 28, 3) := by decide +kernel
theorem d33 : decode yB 33 = .ok (.aload_n 1, 1) := by decide +kernel
theorem d34 : decode yB 34 = .ok (.iload_n 2, 1) := by decide +kernel
theorem d35 : decode yB 35 = .ok (.iload_n 3, 1) := by decide +kernel
theorem d36 : decode yB 36 = .ok (.invokestatic 177, 3) := by decide +kernel
theorem d39 : decode yB 39 = .ok (.astore 5, 2) := by decide +kernel
theorem d41 : decode yB 41 = .ok (.aload_n 0, 1) := by decide +kernel
theorem d42 : decode yB 42 = .ok (.aload 5, 2) := by decide +kernel
theorem d44 : decode yB 44 = .ok (.iload_n 3, 1) := by decide +kernel
theorem d45 : decode yB 45 = .ok (.invokestatic 47, 3) := by decide +kernel
theorem d48 : decode yB 48 = .ok (.putfield 15, 3) := by decide +kernel
theorem d51 : decode yB 51 = .ok (.aload_n 0, 1) := by decide +kernel
theorem d52 : decode yB 52 = .ok (.aload 5, 2) := by decide +kernel
theorem d54 : decode yB 54 = .ok (.putfield 9, 3) := by decide +kernel
theorem d57 : decode yB 57 = .ok (.return_, 1) := by decide +kernel
def site : List Cond := [.fieldLink "java/lang/String" 38 "java/lang/String" "COMPACT_STRINGS" "Z", Cmp3.tab, CodL.tab, .laysFinal "java/lang/String" "java/lang/String" "value" "[B", .fieldLink "java/lang/String" 9 "java/lang/String" "value" "[B", .laysFinal "java/lang/String" "java/lang/String" "coder" "B", .fieldLink "java/lang/String" 15 "java/lang/String" "coder" "B"] ++ objW "java/lang/String" 1 ++ staticW "java/lang/String" 177 Cmp3.yN ++ staticW "java/lang/String" 47 CodL.yN
def tab : Cond := tabOf yN yB 6 none site
def P (a : Addr) (D : Cell) (fV fC : Field) (b : Addr) (A : Cell) (z : Int32) (o len : Nat) (args : Array Value) (s : State) : Prop := args = #[.ref a, .ref b, .int (Int32.ofNat o), .int (Int32.ofNat len), .null] ∧ Blank "java/lang/String" a D s ∧ Found "java/lang/String" "value" "[B" fV s ∧ Found "java/lang/String" "coder" "B" fC s ∧ Ch b A s ∧ StaticIs s "java/lang/String" "COMPACT_STRINGS" "Z" (.int z) ∧ ¬ z = 0 ∧ 0 < len ∧ o + len ≤ A.slots.size ∧ len ≤ 536870912 ∧ ∀ i, i < len → ¬ 255 < cv A (o + i)
def E (a : Addr) (D : Cell) (fV fC : Field) (A : Cell) (o len : Nat) (r : Option Value) (s u : State) : Prop := Got a D fV fC A o len r s u
/-- len > 0, no char of the range above 255: a Latin-1 String of their low bytes -/
theorem law (l : Launch) (a : Addr) (D : Cell) (fV fC : Field) (b : Addr) (A : Cell) (z : Int32) (o len : Nat) : Law l yN 5 4 2 35 yB 6 none site (P a D fV fC b A z o len) (E a D fV fC A o len) [⟨a, fC.slot⟩, ⟨a, fV.slot⟩] 1 len := by
  refine Law.of_walk (plainFor_of_name (by decide +kernel)) (by decide +kernel) (by decide +kernel) (by decide) (fun _ _ h => by rw [h.1]; rfl) (fun _ U U' hal hh h => ⟨h.1, h.2.1.mv hal hh, h.2.2.1.al hal, h.2.2.2.1.al hal, h.2.2.2.2.1.mv hal hh, h.2.2.2.2.2.1.there hal hh, h.2.2.2.2.2.2⟩) (fun r U U' V V' h1 hal h2 h => Got.mv r U U' V V' h1 hal h2 h) ?_
  intro p e s m args below meth c s₁ X0 hexec hbytes hml hret hlk hnm hown hh0 W hP
  obtain ⟨rfl, hB, f1, f2, hA, s1, hz, l0, l1, l2, hp⟩ := hP
  have a31 := hA.1.2.2.2
  have c1 : Steps p.tables e below (s₁.setTop (entryFrame m #[.ref a, .ref b, .int (Int32.ofNat o), .int (Int32.ofNat len), .null] 6)) (s₁.setTop (mkF m 0 #[.val (.ref a), .val (.ref b), .val (.int (Int32.ofNat o)), .val (.int (Int32.ofNat len)), .val .null, .unset] [])) := entry rfl
  have c2 : Steps p.tables e below (s₁.setTop (entryFrame m #[.ref a, .ref b, .int (Int32.ofNat o), .int (Int32.ofNat len), .null] 6)) (s₁.setTop (mkF m 1 #[.val (.ref a), .val (.ref b), .val (.int (Int32.ofNat o)), .val (.int (Int32.ofNat len)), .val .null, .unset] [.ref a])) := c1.trans (by
    refine XS.aloadN X0.here hexec rfl (hb hbytes d0) rfl rfl ?_
    exact Steps.refl _)
  obtain ⟨T3, X3, q3, st3⟩ := X0.oinit hexec hown (wks W (objW "java/lang/String" 1)) (g := (mkF m 1 #[.val (.ref a), .val (.ref b), .val (.int (Int32.ofNat o)), .val (.int (Int32.ofNat len)), .val .null, .unset] [.ref a])) rfl (by rw [hml]; rfl) (rest := []) rfl (hb hbytes d1) (W := 0) (by show 2 * 0 + 0 ≤ _; decide) (Nat.le_of_ble_eq_true rfl) (Nat.le_of_ble_eq_true rfl)
  have hh3 := q3.trans hh0
  have c4 : Steps p.tables e below (s₁.setTop (entryFrame m #[.ref a, .ref b, .int (Int32.ofNat o), .int (Int32.ofNat len), .null] 6)) (T3.setTop (mkF m 27 #[.val (.ref a), .val (.ref b), .val (.int (Int32.ofNat o)), .val (.int (Int32.ofNat len)), .val .null, .unset] [])) := (c2.trans (st3 _ (Steps.refl _))).trans (by
    refine XS.iloadN X3.here hexec rfl (hb hbytes d4) rfl ?_
    refine XS.ifYes X3.here hexec rfl (pc0 := 5) rfl (hb hbytes d5) rfl (i0_ne_t (nz32 (by omega) l0)) (by decide) rfl ?_
    exact Steps.refl _)
  obtain ⟨T5, X5, q5, st5⟩ := X3.sget hexec hown (wk W (.fieldLink "java/lang/String" 38 "java/lang/String" "COMPACT_STRINGS" "Z")) s1 (fun _ _ h => by rw [hh3]; exact h) (g := (mkF m 27 #[.val (.ref a), .val (.ref b), .val (.int (Int32.ofNat o)), .val (.int (Int32.ofNat len)), .val .null, .unset] [])) rfl (hb hbytes d27)
  have hh5 := q5.trans hh3
  have c6 : Steps p.tables e below (s₁.setTop (entryFrame m #[.ref a, .ref b, .int (Int32.ofNat o), .int (Int32.ofNat len), .null] 6)) (T5.setTop (mkF m 30 #[.val (.ref a), .val (.ref b), .val (.int (Int32.ofNat o)), .val (.int (Int32.ofNat len)), .val .null, .unset] [.int z])) := c4.trans (st5 _ (Steps.refl _))
  have c7 : Steps p.tables e below (s₁.setTop (entryFrame m #[.ref a, .ref b, .int (Int32.ofNat o), .int (Int32.ofNat len), .null] 6)) (T5.setTop (mkF m 36 #[.val (.ref a), .val (.ref b), .val (.int (Int32.ofNat o)), .val (.int (Int32.ofNat len)), .val .null, .unset] [.int (Int32.ofNat len), .int (Int32.ofNat o), .ref b])) := c6.trans (by
    refine XS.ifNo X5.here hexec rfl (hb hbytes d30) rfl (i0_eq_f hz) ?_
    refine XS.aloadN X5.here hexec rfl (hb hbytes d33) rfl rfl ?_
    refine XS.iloadN X5.here hexec rfl (hb hbytes d34) rfl ?_
    refine XS.iloadN X5.here hexec rfl (hb hbytes d35) rfl ?_
    exact Steps.refl _)
  obtain ⟨v8, T8, X8, E8, g8⟩ := X5.callS hexec (Cmp3.law l b A o len) hown (wks W (staticW "java/lang/String" 177 Cmp3.yN)) (wk W Cmp3.tab) (W := 0) (Nat.le_of_ble_eq_true rfl) (Nat.le_of_ble_eq_true rfl) (Nat.le_refl _) (by show 0 + len ≤ len; omega) (g := (mkF m 36 #[.val (.ref a), .val (.ref b), .val (.int (Int32.ofNat o)), .val (.int (Int32.ofNat len)), .val .null, .unset] [.int (Int32.ofNat len), .int (Int32.ofNat o), .ref b])) rfl (by rw [hml]; rfl) c7 (argsL := [.ref b, .int (Int32.ofNat o), .int (Int32.ofNat len)]) (rest := []) rfl rfl (by show 2 * 0 + 0 ≤ _; decide) (hb hbytes d36) (⟨rfl, hA.mv X5.warmed.alike hh5, l1, l2, hp⟩)
  obtain ⟨e8, z8⟩ := E8
  obtain ⟨rfl, N, n1, n2, n3, n4, n5, n6⟩ := NewArr.mv _ T5 s _ _ hh5.symm (Vm.Alike.refl _) rfl e8
  rw [hh5] at z8
  have hB1 := hB.keep X8.warmed.alike (n6 _ _ hB.1)
  have hne : s.heap.size ≠ a := (Nat.ne_of_lt (Array.getElem?_eq_some_iff.mp hB.1).1).symm
  have c9 : Steps p.tables e below (s₁.setTop (entryFrame m #[.ref a, .ref b, .int (Int32.ofNat o), .int (Int32.ofNat len), .null] 6)) (T8.setTop (mkF m 39 #[.val (.ref a), .val (.ref b), .val (.int (Int32.ofNat o)), .val (.int (Int32.ofNat len)), .val .null, .unset] [.ref s.heap.size])) := g8
  have c10 : Steps p.tables e below (s₁.setTop (entryFrame m #[.ref a, .ref b, .int (Int32.ofNat o), .int (Int32.ofNat len), .null] 6)) (T8.setTop (mkF m 45 #[.val (.ref a), .val (.ref b), .val (.int (Int32.ofNat o)), .val (.int (Int32.ofNat len)), .val .null, .val (.ref s.heap.size)] [.int (Int32.ofNat N.slots.size), .ref s.heap.size, .ref a])) := by
    have hc : Steps p.tables e below (s₁.setTop (entryFrame m #[.ref a, .ref b, .int (Int32.ofNat o), .int (Int32.ofNat len), .null] 6)) (T8.setTop (mkF m 45 #[.val (.ref a), .val (.ref b), .val (.int (Int32.ofNat o)), .val (.int (Int32.ofNat len)), .val .null, .val (.ref s.heap.size)] [.int (Int32.ofNat len), .ref s.heap.size, .ref a])) := c9.trans (by
      refine XS.astore X8.here hexec rfl (hb hbytes d39) rfl rfl rfl ?_
      refine XS.aloadN X8.here hexec rfl (hb hbytes d41) rfl rfl ?_
      refine XS.aload X8.here hexec rfl (hb hbytes d42) rfl rfl ?_
      refine XS.iloadN X8.here hexec rfl (hb hbytes d44) rfl ?_
      exact Steps.refl _)
    rw [n4]; exact hc
  obtain ⟨v11, T11, X11, E11, g11⟩ := X8.callS hexec (CodL.law l s.heap.size N) hown (wks W (staticW "java/lang/String" 47 CodL.yN)) (wk W CodL.tab) (W := 1) (Nat.le_of_ble_eq_true rfl) (Nat.le_of_ble_eq_true rfl) (Nat.le_refl _) (by show 0 + len + 0 ≤ len; omega) (g := (mkF m 45 #[.val (.ref a), .val (.ref b), .val (.int (Int32.ofNat o)), .val (.int (Int32.ofNat len)), .val .null, .val (.ref s.heap.size)] [.int (Int32.ofNat N.slots.size), .ref s.heap.size, .ref a])) rfl (by rw [hml]; rfl) c10 (argsL := [.ref s.heap.size, .int (Int32.ofNat N.slots.size)]) (rest := [.ref a]) rfl rfl (by show 2 * 0 + (1 + 0) ≤ _; decide) (hb hbytes d45) (⟨rfl, n1⟩)
  obtain ⟨rfl, q11⟩ := E11
  have hB11 := hB1.mv (X8.warmed.alike.symm.trans X11.warmed.alike) q11
  have c12 : Steps p.tables e below (s₁.setTop (entryFrame m #[.ref a, .ref b, .int (Int32.ofNat o), .int (Int32.ofNat len), .null] 6)) (T11.setTop (mkF m 48 #[.val (.ref a), .val (.ref b), .val (.int (Int32.ofNat o)), .val (.int (Int32.ofNat len)), .val .null, .val (.ref s.heap.size)] [.int 0, .ref a])) := g11
  obtain ⟨T13, X13, p13, bl13, sl13, st13⟩ := X11.finit hexec hown (wk W (.fieldLink "java/lang/String" 15 "java/lang/String" "coder" "B")) (Or.inr ⟨_, (wk W (.laysFinal "java/lang/String" "java/lang/String" "coder" "B"))⟩) (Or.inl ⟨rfl, hnm⟩) f2 (Or.inl rfl) hB11 (t := .byte) (by decide +kernel) rfl (g := (mkF m 48 #[.val (.ref a), .val (.ref b), .val (.int (Int32.ofNat o)), .val (.int (Int32.ofNat len)), .val .null, .val (.ref s.heap.size)] [.int 0, .ref a])) rfl (rest := []) rfl (hb hbytes d48)
  have c14 : Steps p.tables e below (s₁.setTop (entryFrame m #[.ref a, .ref b, .int (Int32.ofNat o), .int (Int32.ofNat len), .null] 6)) (T13.setTop (mkF m 54 #[.val (.ref a), .val (.ref b), .val (.int (Int32.ofNat o)), .val (.int (Int32.ofNat len)), .val .null, .val (.ref s.heap.size)] [.ref s.heap.size, .ref a])) := (c12.trans (st13 _ (Steps.refl _))).trans (by
    refine XS.aloadN X13.here hexec rfl (hb hbytes d51) rfl rfl ?_
    refine XS.aload X13.here hexec rfl (hb hbytes d52) rfl rfl ?_
    exact Steps.refl _)
  obtain ⟨T15, X15, p15, bl15, sl15, st15⟩ := X13.finit hexec hown (wk W (.fieldLink "java/lang/String" 9 "java/lang/String" "value" "[B")) (Or.inr ⟨_, (wk W (.laysFinal "java/lang/String" "java/lang/String" "value" "[B"))⟩) (Or.inl ⟨rfl, hnm⟩) f1 (Or.inl rfl) bl13 (t := (.array .byte)) (by decide +kernel) rfl (g := (mkF m 54 #[.val (.ref a), .val (.ref b), .val (.int (Int32.ofNat o)), .val (.int (Int32.ofNat len)), .val .null, .val (.ref s.heap.size)] [.ref s.heap.size, .ref a])) rfl (rest := []) rfl (hb hbytes d54)
  have c16 : Steps p.tables e below (s₁.setTop (entryFrame m #[.ref a, .ref b, .int (Int32.ofNat o), .int (Int32.ofNat len), .null] 6)) (T15.setTop (mkF m 57 #[.val (.ref a), .val (.ref b), .val (.int (Int32.ofNat o)), .val (.int (Int32.ofNat len)), .val .null, .val (.ref s.heap.size)] [])) := c14.trans (st15 _ (Steps.refl _))
  have ap := apart (Or.inr ⟨_, (wk W (.laysFinal "java/lang/String" "java/lang/String" "value" "[B"))⟩) (Or.inr ⟨_, (wk W (.laysFinal "java/lang/String" "java/lang/String" "coder" "B"))⟩) f1 f2 (t₁ := .array .byte) (t₂ := .byte) (by decide +kernel) (by decide +kernel) (by decide)
  have al := X8.warmed.alike.symm.trans X15.warmed.alike
  have n7 : T11.heap[s.heap.size]? = some N := by rw [q11]; exact n1.1
  exact ⟨T15, none, _, _, _, X15, by simp, rfl, by omega, (fun _ => rfl), ⟨rfl, _, N, bl15, ((Same.refl D _).set _ (by simp)).set _ (by simp), sl15, (Cell.slots_setSlot_ne _ ap).trans sl13, n1.keep al (p15.other hne (p13.other hne n7)), n2, by rw [al.findClass]; exact n3, n4, n5, fun y c h1 h2 => p15.other h1 (p13.other h1 (by rw [q11]; exact n6 y c h2)), by rw [p15.2.2, p13.2.2, q11]; exact z8⟩, fun fs hl => c16.trans (X15.returnOut hexec hret (hb hbytes d57) hl)⟩
end New4
namespace New1
def yN : MethodName := ⟨"java/lang/String", "<init>", "([C)V"⟩
abbrev yB : ByteArray := jdk_42_method_3_code
theorem d0 : decode yB 0 = .ok (.aload_n 0, 1) := by decide +kernel
theorem d1 : decode yB 1 = .ok (.aload_n 1, 1) := by decide +kernel
theorem d2 : decode yB 2 = .ok (.iconst 0, 1) := by decide +kernel
theorem d3 : decode yB 3 = .ok (.aload_n 1, 1) := by decide +kernel
theorem d4 : decode yB 4 = .ok (.arraylength, 1) := by decide +kernel
theorem d5 : decode yB 5 = .ok (.aconst_null, 1) := by decide +kernel
theorem d6 : decode yB 6 = .ok (.invokespecial 27, 3) := by decide +kernel
theorem d9 : decode yB 9 = .ok (.return_, 1) := by decide +kernel
def site : List Cond := [New4.tab] ++ initW "java/lang/String" 27 New4.yN
def tab : Cond := tabOf yN yB 2 none site
def P (a : Addr) (D : Cell) (fV fC : Field) (b : Addr) (A : Cell) (z : Int32) (args : Array Value) (s : State) : Prop := args = #[.ref a, .ref b] ∧ Blank "java/lang/String" a D s ∧ Found "java/lang/String" "value" "[B" fV s ∧ Found "java/lang/String" "coder" "B" fC s ∧ Ch b A s ∧ StaticIs s "java/lang/String" "COMPACT_STRINGS" "Z" (.int z) ∧ ¬ z = 0 ∧ 0 < A.slots.size ∧ A.slots.size ≤ 536870912 ∧ ∀ i, i < A.slots.size → ¬ 255 < cv A i
def E (a : Addr) (D : Cell) (fV fC : Field) (A : Cell) (r : Option Value) (s u : State) : Prop := Got a D fV fC A 0 A.slots.size r s u
/-- new String(chars), not empty, no char above 255: a Latin-1 String of their low bytes -/
theorem law (l : Launch) (a : Addr) (D : Cell) (fV fC : Field) (b : Addr) (A : Cell) (z : Int32) : Law l yN 2 1 3 52 yB 2 none site (P a D fV fC b A z) (E a D fV fC A) [⟨a, fC.slot⟩, ⟨a, fV.slot⟩] 1 A.slots.size := by
  refine Law.of_walk (plainFor_of_name (by decide +kernel)) (by decide +kernel) (by decide +kernel) (by decide) (fun _ _ h => by rw [h.1]; rfl) (fun _ U U' hal hh h => ⟨h.1, h.2.1.mv hal hh, h.2.2.1.al hal, h.2.2.2.1.al hal, h.2.2.2.2.1.mv hal hh, h.2.2.2.2.2.1.there hal hh, h.2.2.2.2.2.2⟩) (fun r U U' V V' h1 hal h2 h => Got.mv r U U' V V' h1 hal h2 h) ?_
  intro p e s m args below meth c s₁ X0 hexec hbytes hml hret hlk hnm hown hh0 W hP
  obtain ⟨rfl, hB, f1, f2, hA, s1, hz, l0, l2, hp⟩ := hP
  have c1 : Steps p.tables e below (s₁.setTop (entryFrame m #[.ref a, .ref b] 2)) (s₁.setTop (mkF m 0 #[.val (.ref a), .val (.ref b)] [])) := entry rfl
  have c2 : Steps p.tables e below (s₁.setTop (entryFrame m #[.ref a, .ref b] 2)) (s₁.setTop (mkF m 6 #[.val (.ref a), .val (.ref b)] [.null, .int (Int32.ofNat A.slots.size), .int 0, .ref b, .ref a])) := c1.trans (by
    refine XS.aloadN X0.here hexec rfl (hb hbytes d0) rfl rfl ?_
    refine XS.aloadN X0.here hexec rfl (hb hbytes d1) rfl rfl ?_
    refine iconstV X0.here hexec rfl 0 (hb hbytes d2) (by decide) ?_
    refine XS.aloadN X0.here hexec rfl (hb hbytes d3) rfl rfl ?_
    refine X0.alen hexec (hA.1.mv X0.warmed.alike hh0) rfl rfl (hb hbytes d4) ?_
    refine XS.aconstNull X0.here hexec rfl (hb hbytes d5) ?_
    exact Steps.refl _)
  obtain ⟨v3, T3, X3, E3, g3⟩ := X0.callN hexec (New4.law l a D fV fC b A z 0 A.slots.size) rfl hown (wks W (initW "java/lang/String" 27 New4.yN)) (W New4.tab (by simp only [site, List.mem_cons, List.mem_append, true_or, or_true])) (W := 0) (Nat.le_of_ble_eq_true rfl) (Nat.le_of_ble_eq_true rfl) (Nat.le_refl _) (by show 0 + A.slots.size ≤ A.slots.size; omega) (g := (mkF m 6 #[.val (.ref a), .val (.ref b)] [.null, .int (Int32.ofNat A.slots.size), .int (Int32.ofNat 0), .ref b, .ref a])) rfl (by rw [hml]; rfl) c2 (argsL := [.ref b, .int (Int32.ofNat 0), .int (Int32.ofNat A.slots.size), .null]) (rest := []) rfl rfl (by show 2 * 0 + 0 ≤ _; decide) (hb hbytes d6) (⟨rfl, hB.mv X0.warmed.alike hh0, f1.al X0.warmed.alike, f2.al X0.warmed.alike, hA.mv X0.warmed.alike hh0, s1.there X0.warmed.alike hh0, hz, l0, by omega, l2, fun i hi => by rw [Nat.zero_add]; exact hp i hi⟩)
  have e0 := Got.mv _ s₁ s _ _ hh0.symm (Vm.Alike.refl _) rfl E3
  obtain rfl := e0.1
  have c4 : Steps p.tables e below (s₁.setTop (entryFrame m #[.ref a, .ref b] 2)) (T3.setTop (mkF m 9 #[.val (.ref a), .val (.ref b)] [])) := g3
  exact ⟨T3, none, _, _, _, X3, by simp, rfl, by omega, (fun _ => rfl), e0, fun fs hl => c4.trans (X3.returnOut hexec hret (hb hbytes d9) hl)⟩
theorem pays {l : Launch} {R : Room} {p : Program} {e : Env} {below : List Frame} {s : State} {sargs : Array Value} {len W : Nat} (a : Addr) (D : Cell) (fV fC : Field) (b : Addr) (A : Cell) (z : Int32) (htab : tab.before sargs s = true) (hfr : 4 ≤ R.frames) (hlo : W + 65 ≤ R.locals) :
    Back l R p e below s sargs yN len W (fun A₁ a₁ => A₁.cells + 1 ≤ R.cells ∧ A₁.slots + A.slots.size ≤ R.slots ∧ P a D fV fC b A z a₁ A₁.U) (fun A₁ _ v₁ B₁ => E a D fV fC A v₁ A₁.U B₁.U ∧ B₁.locs = A₁.locs ++ [⟨a, fC.slot⟩, ⟨a, fV.slot⟩] ∧ B₁.cells = A₁.cells + 1 ∧ B₁.slots = A₁.slots + A.slots.size) :=
  (law l a D fV fC b A z).pays htab hfr (by omega)
end New1
end StrChars
namespace StrChars.Road
open Jvm Sem ClassFile Op Lib Jvm.Stand Jvm.Free Jvm.Free.XT
open Jvm.Lib.Cold (StaticIs)
abbrev ST : String := "java/lang/String"
/-- every table word that New1's law asks, flat -/
abbrev words : List Jvm.Cond := [.code New1.yN New1.yB 2 none, .initialized ST, .methodLink ST 27 New4.yN, .instanceMethod New4.yN,
  .code New4.yN New4.yB 6 none, .fieldLink ST 38 ST "COMPACT_STRINGS" "Z", .laysFinal ST ST "value" "[B", .fieldLink ST 9 ST "value" "[B", .laysFinal ST ST "coder" "B", .fieldLink ST 15 ST "coder" "B",
  .methodLink ST 1 Lib.objectInit, .instanceMethod Lib.objectInit, .code Lib.objectInit ⟨#[0xb1]⟩ 1 none, .methodLink ST 177 Cmp3.yN, .static Cmp3.yN, .methodLink ST 47 CodL.yN, .static CodL.yN,
  .code Cmp3.yN Cmp3.yB 6 (some (.array .byte)), .initialized U16, .arrayClass .byte, .methodLink U16 115 Cmp5.yN, .static Cmp5.yN, .code Cmp5.yN Cmp5.yB 7 (some .int), .code CodL.yN CodL.yB 2 (some .byte)]
theorem tab_of {a : Array Value} {s : State} (h : ∀ w ∈ words, w.before a s = true) : New1.tab.before a s = true := by
  have h5 : Cmp5.tab.before a s = true := unparts (wk h (.code Cmp5.yN Cmp5.yB 7 (some .int))) (wks h (.initialized Cmp5.yN.cls :: Cmp5.site))
  have hc : CodL.tab.before a s = true := unparts (wk h (.code CodL.yN CodL.yB 2 (some .byte))) (wks h (.initialized CodL.yN.cls :: CodL.site))
  have q5 : ∀ w ∈ Cmp5.tab :: words, w.before a s = true := fun w hw => (List.mem_cons.mp hw).elim (fun e => e ▸ h5) (h w)
  have h3 : Cmp3.tab.before a s = true := unparts (wk q5 (.code Cmp3.yN Cmp3.yB 6 (some (.array .byte)))) (wks q5 (.initialized Cmp3.yN.cls :: Cmp3.site))
  have q3 : ∀ w ∈ Cmp3.tab :: CodL.tab :: words, w.before a s = true := fun w hw => (List.mem_cons.mp hw).elim (fun e => e ▸ h3) fun hw => (List.mem_cons.mp hw).elim (fun e => e ▸ hc) (h w)
  have h4 : New4.tab.before a s = true := unparts (wk q3 (.code New4.yN New4.yB 6 none)) (wks q3 (.initialized New4.yN.cls :: New4.site))
  have q4 : ∀ w ∈ New4.tab :: words, w.before a s = true := fun w hw => (List.mem_cons.mp hw).elim (fun e => e ▸ h4) (h w)
  exact unparts (wk q4 (.code New1.yN New1.yB 2 none)) (wks q4 (.initialized New1.yN.cls :: New1.site))
/-- the words ride from the start Z to the walk's own state -/
theorem moved {Z s : State} {a0 args : Array Value} (hZ : Z.Warmed39 s.vm) (hw : ∀ d ∈ words, d.before a0 Z = true) : ∀ d ∈ words, d.before args s = true := fun d hd => by
  have q := hw d hd
  have t : ∀ d ∈ words, d = .arrayClass .byte ∨ (d.onTables && d.keepsFace) = true := by decide +kernel
  rcases t d hd with rfl | t
  · exact RoadKit.mvA hZ q
  · exact RoadKit.mv hZ q t
/-- WHAT COMES BACK, over the tables of the start Z: h the heap at the call, h' behind it -/
def Q (Z : State) (x : Addr) (A : Cell) (h : Heap) (v : Option Value) (h' : Heap) (L : List Loc) : Prop := v = none ∧ (∀ y ∈ L, y.base = x) ∧ RoadKit.Keep h h' [x] ∧ h'.size = h.size + 1 ∧ RoadKit.Exa Z h' x ST ∧ RoadKit.Fld Z h' x ST "value" "[B" (.ref h.size) ∧ RoadKit.Fld Z h' x ST "coder" "B" (.int 0) ∧
  (∃ V : Cell, RoadKit.Arr Z h' h.size V .byte ∧ V.vm = .none ∧ Z.vm.findClass "[B" = some V.cls ∧ V.slots.size = A.slots.size ∧ ∀ j, j < A.slots.size → V.slots[j]? = some (.int (lo8 (cv A j)))) ∧
  ∀ (O n d : String) (w : Value), RoadKit.Fld Z h x O n d w → RoadKit.slotOf Z O n d ≠ RoadKit.slotOf Z ST "value" "[B" → RoadKit.slotOf Z O n d ≠ RoadKit.slotOf Z ST "coder" "B" → RoadKit.Fld Z h' x O n d w
/-- **new String(chars) AT A CALL, IN THE ROAD'S FORM**: for specialBack behind newO: x the fresh String, b the char[] with the cell A -/
theorem back {p : Program} {l : Launch} {e : Env} {R : Room} {s : State} {args : Array Value} {below : List Frame} {len W : Nat} {Z : State} {a0 : Array Value} {h : Heap} (hZ : Z.Warmed39 s.vm) (hw : ∀ d ∈ words, d.before a0 Z = true) {kI : Nat} (wi : (Jvm.Cond.instantiable ST kI).before a0 Z = true)
    {x b : Addr} {A : Cell} {z : Int32} {v0 c0 : Value} (E : RoadKit.Exa Z h x ST) (V : RoadKit.Fld Z h x ST "value" "[B" v0) (C : RoadKit.Fld Z h x ST "coder" "B" c0) (K : RoadKit.Arr Z h b A .char) (hty : Typed .char A) (S : RoadKit.Sta Z h ST "COMPACT_STRINGS" "Z" (.int z)) (hz : ¬ z = 0)
    (l0 : 0 < A.slots.size) (l2 : A.slots.size ≤ 536870912) (hp : ∀ i, i < A.slots.size → ¬ 255 < cv A i) (hfr : 4 ≤ R.frames) (hlo : W + 65 ≤ R.locals) :
    Back l R p e below s args New1.yN len W (fun P a => a = #[.ref x, .ref b] ∧ P.U.heap = h ∧ P.cells + 1 ≤ R.cells ∧ P.slots + A.slots.size ≤ R.slots)
      (fun P _ v B => ∃ L, Q Z x A h v B.U.heap L ∧ B.locs = P.locs ++ L ∧ B.cells = P.cells + 1 ∧ B.slots = P.slots + A.slots.size) := by
  intro m meth c P g ig mk a X hg hsize hdg hW hn hp'
  obtain ⟨rfl, rfl, r1, r2⟩ := hp'
  have al : Z.vm.Alike P.U.vm := hZ.alike.trans X.warmed.alike
  obtain ⟨D, cfV, kV, iV, fV, hD, gV, stV, knV, obV, asV, slV⟩ := id V
  obtain ⟨D', cfC, kC, iC, fC, hD', gC, stC, -, -, asC, slC⟩ := id C
  cases hD.symm.trans hD'
  obtain ⟨D2, kD, e1, e2, e3, e4, e5⟩ := id E
  cases hD.symm.trans e1
  obtain ⟨c2, k2, i1, i2, i3, -⟩ := Cond.instantiable_spec wi
  cases e2.symm.trans i1
  cases e3.symm.trans i2
  obtain ⟨kU, u1, u2⟩ := al.2.2 _ _ e3
  have hB : Blank ST x D P.U := ⟨hD, ⟨knV, fun q hq => by rw [hq] at obV; cases obV⟩, by rw [al.findClass]; exact e2, kU, u1, by rw [u2]; exact i3, by rw [u2]; exact e5 i3⟩
  have F1 : Found ST "value" "[B" fV P.U := ⟨SBG.found_only al ⟨cfV, kV, iV, gV⟩, stV⟩
  have F2 : Found ST "coder" "B" fC P.U := ⟨SBG.found_only al ⟨cfC, kC, iC, gC⟩, stC⟩
  have hA : Ch b A P.U := ⟨⟨K.1, State.isArrayOf_alike al K.2.1, K.2.2, by omega⟩, hty⟩
  have hS : StaticIs P.U ST "COMPACT_STRINGS" "Z" (.int z) := by
    obtain ⟨cfS, iS, kS, fS, st, cS, t1, t2, t3, t4, t5, t6, t7⟩ := S
    exact StaticIs.there (s := { Z with heap := P.U.heap }) ⟨cfS, iS, kS, fS, st, cS, t1, t2, t3, t4, t5, (fun q => by rw [q] at t6; cases t6), t7⟩ al rfl
  obtain ⟨v, B, X', ⟨⟨hv, E', V', q1, q2, q3, q4, q5, q6, q7, q8, q9, q10, q11⟩, hl, hc, hs⟩, st⟩ := New1.pays x D fV fC b A z (tab_of (moved hZ hw)) hfr hlo m meth c P g ig mk _ X hg hsize hdg hW hn ⟨r1, r2, rfl, hB, F1, F2, hA, hS, hz, l0, l2, hp⟩
  have al' : Z.vm.Alike B.U.vm := hZ.alike.trans X'.warmed.alike
  have hsz : E'.slots.size = D.slots.size := by
    obtain ⟨-, -, -, kB, w1, w2, w3⟩ := q1
    obtain ⟨kB', y1, y2⟩ := al'.2.2 _ _ e3
    rw [q2.2.1] at w1
    cases w1.symm.trans y1
    rw [w3, e5 i3, y2]
  refine ⟨v, B, X', ⟨_, ⟨hv, ?_, ⟨by omega, fun y cy hy hn' => q10 y cy (by simpa using hn') hy, fun y cy hy => ?_⟩, q11, ⟨E', _, q1.1, by rw [q2.2.1]; exact e2, by rw [q2.2.1]; exact e3, by rw [q2.1]; exact obV, fun _ => by rw [hsz]; exact e5 i3⟩,
    ⟨E', cfV, kV, iV, fV, q1.1, gV, stV, by rw [q2.1]; exact knV, by rw [q2.1]; exact obV, by rw [q2.2.1]; exact asV, q3⟩, ⟨E', cfC, kC, iC, fC, q1.1, gC, stC, by rw [q2.1]; exact knV, by rw [q2.1]; exact obV, by rw [q2.2.1]; exact asC, q4⟩,
    ⟨V', ⟨q5.1, State.isArrayOf_alike al'.symm q5.2.1, q5.2.2.1⟩, q6, by rw [← al'.findClass]; exact q7, q8, fun j hj => by have := q9 j hj; rwa [Nat.zero_add] at this⟩, fun O n d w F n1 n2 => ?_⟩, hl, hc, hs⟩, st⟩
  · intro y hy
    simp only [List.mem_cons, List.not_mem_nil, or_false] at hy
    rcases hy with rfl | rfl <;> rfl
  · by_cases q : y = x
    · subst q
      cases hD.symm.trans hy
      exact ⟨E', q1.1, q2.2.1, q2.1, hsz⟩
    · exact ⟨cy, q10 y cy q hy, rfl, rfl, rfl⟩
  · obtain ⟨D3, cf, k, i, f, g1, g2, g3, g4, g5, g6, g7⟩ := F
    cases hD.symm.trans g1
    simp only [RoadKit.slotOf, g2, gV, gC, Option.map_some, Option.getD_some] at n1 n2
    exact ⟨E', cf, k, i, f, q1.1, g2, g3, by rw [q2.1]; exact g4, by rw [q2.1]; exact g5, by rw [q2.2.1]; exact g6, by rw [q2.2.2 f.slot (by simp [n1, n2])]; exact g7⟩
end StrChars.Road
namespace StrChars.Road
open Jvm Sem ClassFile Op Lib Jvm.Stand Jvm.Free Jvm.Free.XT
/-- WHAT COMES BACK, the byte[] as a list of values -/
def QA (Z : State) (x : Addr) (zn : Int32) (cs : List Int32) (h : Heap) (v : Option Value) (h' : Heap) (L : List Loc) : Prop := v = none ∧ (∀ y ∈ L, y.base = x) ∧ RoadKit.Keep h h' [x] ∧ h'.size = h.size + 1 ∧ RoadKit.Exa Z h' x ST ∧ RoadKit.Fld Z h' x ST "value" "[B" (.ref h.size) ∧ RoadKit.Fld Z h' x ST "coder" "B" (.int 0) ∧
  (∃ kb, Z.vm.findClass "[B" = some kb ∧ RoadKit.Arv Z h' h.size kb .byte zn (cs.map fun c => .int (lo8 c)) (.int 0)) ∧
  ∀ (O n d : String) (w : Value), RoadKit.Fld Z h x O n d w → RoadKit.slotOf Z O n d ≠ RoadKit.slotOf Z ST "value" "[B" → RoadKit.slotOf Z O n d ≠ RoadKit.slotOf Z ST "coder" "B" → RoadKit.Fld Z h' x O n d w
/-- **new String(chars) AT A CALL, THE ARRAYS AS LISTS**: the char[] at b holds cs, not empty, no char above 255 -/
theorem backArv {p : Program} {l : Launch} {e : Env} {R : Room} {s : State} {args : Array Value} {below : List Frame} {len W : Nat} {Z : State} {a0 : Array Value} {h : Heap} (hZ : Z.Warmed39 s.vm) (hw : ∀ d ∈ words, d.before a0 Z = true) {kI : Nat} (wi : (Jvm.Cond.instantiable ST kI).before a0 Z = true)
    {x b : Addr} {k : ClassId} {zn z : Int32} {cs : List Int32} {dv v0 c0 : Value} (E : RoadKit.Exa Z h x ST) (V : RoadKit.Fld Z h x ST "value" "[B" v0) (C : RoadKit.Fld Z h x ST "coder" "B" c0) (K : RoadKit.Arv Z h b k .char zn (cs.map Value.int) dv) (S : RoadKit.Sta Z h ST "COMPACT_STRINGS" "Z" (.int z)) (hz : ¬ z = 0)
    (hlen : zn.toNatClampNeg = cs.length) (h0 : 0 < cs.length) (hbig : cs.length ≤ 536870912) (hall : ∀ c ∈ cs, ¬ 255 < c) (hfr : 4 ≤ R.frames) (hlo : W + 65 ≤ R.locals) :
    Back l R p e below s args New1.yN len W (fun P a => a = #[.ref x, .ref b] ∧ P.U.heap = h ∧ P.cells + 1 ≤ R.cells ∧ P.slots + cs.length ≤ R.slots)
      (fun P _ v B => ∃ L, QA Z x zn cs h v B.U.heap L ∧ B.locs = P.locs ++ L ∧ B.cells = P.cells + 1 ∧ B.slots = P.slots + cs.length) := by
  obtain ⟨A, K1, K2, K3, K4, K5, K6⟩ := K
  have e : A.slots.size = cs.length := K3.trans hlen
  have hat : ∀ (i : Nat) (hi : i < cs.length), A.slots[i]? = some (.int cs[i]) := fun i hi => by rw [K5 i (by omega)]; simp [List.getD_eq_getElem?_getD, hi]
  have hcv : ∀ (i : Nat) (hi : i < cs.length), cv A i = cs[i] := fun i hi => by unfold cv; rw [hat i hi]
  have hty : Typed .char A := fun i v hv => by
    have hi : i < A.slots.size := (Array.getElem?_eq_some_iff.mp hv).1
    have q := K5 i hi
    rw [hv] at q
    rw [Option.some.inj q]
    exact K6 i hi
  refine Back.mono (back hZ hw wi E V C K1 hty S hz (by omega) (by omega) (fun i hi => by rw [hcv i (by omega)]; exact hall _ (List.getElem_mem _)) hfr hlo) (fun P a hp => ⟨hp.1, hp.2.1, hp.2.2.1, by rw [e]; exact hp.2.2.2⟩) (fun P a v B hp hq => ?_)
  obtain ⟨L, ⟨q1, q2, q3, q4, q5, q6, q7, ⟨V', v1, v2, v3, v4, v5⟩, q9⟩, hl, hc, hs⟩ := hq
  refine ⟨L, ⟨q1, q2, q3, q4, q5, q6, q7, ⟨V'.cls, v3, V', v1, rfl, by rw [v4, e, hlen], K4, fun i hi => ?_, fun i hi => ?_⟩, q9⟩, hl, hc, by rw [hs, e]⟩
  · have hi' : i < cs.length := by omega
    rw [v5 i (by omega), hcv i hi']; simp [List.getD_eq_getElem?_getD, hi']
  · have hi' : i < cs.length := by omega
    simp only [List.getD_eq_getElem?_getD, List.getElem?_map, List.getElem?_eq_getElem hi', Option.map_some, Option.getD_some]
    exact fits_lo8 _
end StrChars.Road
namespace StrChars.Road
open Jvm Sem ClassFile Op Lib Jvm.Stand Jvm.Free Jvm.Free.XT
/-- WHAT COMES BACK, in the writer's own shape -/
def QV (Z : State) (x : Addr) (N : Int32) (bs : List Int32) (h : Heap) (n0 : Nat) (v : Option Value) (h' : Heap) (L : List Loc) : Prop := v = none ∧ RoadKit.Fr n0 L ∧ RoadKit.Keep h h' [x] ∧ RoadKit.Exa Z h' x ST ∧ RoadKit.Fld Z h' x ST "coder" "B" (.int 0) ∧
  ∃ (t : Addr) (kb : ClassId), n0 ≤ t ∧ h.size ≤ t ∧ ¬ t = x ∧ RoadKit.Fld Z h' x ST "value" "[B" (.ref t) ∧ RoadKit.Arv Z h' t kb .byte N (bs.map Value.int) (.int 0)
/-- **new String(chars) AT A CALL, FOR THE WRITER**: a char[] of n known ints, each 0 to 255 -/
theorem backV {p : Program} {l : Launch} {e : Env} {R : Room} {s : State} {args : Array Value} {below : List Frame} {len W : Nat} {Z : State} {a0 : Array Value} {h : Heap} (hZ : Z.Warmed39 s.vm) (hw : ∀ d ∈ words, d.before a0 Z = true) {kI : Nat} (wi : (Jvm.Cond.instantiable ST kI).before a0 Z = true)
    {x b : Addr} {kC : ClassId} {cs bs : List Int32} {d v0 c0 : Value} {z N : Int32} {n n0 : Nat} (hx0 : n0 ≤ x) (hh0 : n0 ≤ h.size) (E : RoadKit.Exa Z h x ST) (V : RoadKit.Fld Z h x ST "value" "[B" v0) (C : RoadKit.Fld Z h x ST "coder" "B" c0) (K : RoadKit.Arv Z h b kC .char N (cs.map Value.int) d) (S : RoadKit.Sta Z h ST "COMPACT_STRINGS" "Z" (.int z)) (hz : ¬ z = 0)
    (hn : cs.length = n) (hN : N = Int32.ofNat n) (l0 : 0 < n) (l2 : n ≤ 4000) (hp : ∀ c ∈ cs, ¬ c < 0 ∧ ¬ (255 : Int32) < c) (hb : bs = cs.map (fun c => c.toInt8.toInt32)) (hfr : 4 ≤ R.frames) (hlo : W + 65 ≤ R.locals) :
    Back l R p e below s args (⟨"java/lang/String", "<init>", "([C)V"⟩ : MethodName) len W (fun P a => a = #[.ref x, .ref b] ∧ P.U.heap = h ∧ P.cells + 1 ≤ R.cells ∧ P.slots + n ≤ R.slots)
      (fun P _ v B => ∃ L, QV Z x N bs h n0 v B.U.heap L ∧ B.locs = P.locs ++ L ∧ B.cells = P.cells + 1 ∧ B.slots = P.slots + n) := by
  subst hn hN hb
  refine Back.mono (backArv hZ hw wi E V C K S hz (n32 (by omega)) l0 (by omega) (fun c hc => (hp c hc).2) hfr hlo) (fun P a hp => hp) (fun P a v B hp hq => ?_)
  obtain ⟨L, ⟨q1, q2, q3, q4, q5, q6, q7, ⟨kb, v1, v2⟩, q9⟩, hl, hc, hs⟩ := hq
  exact ⟨L, ⟨q1, fun y hy => by rw [q2 y hy]; exact hx0, q3, q5, q7, h.size, kb, hh0, Nat.le_refl _, Nat.ne_of_gt E.lt, q6, by rw [List.map_map]; exact v2⟩, hl, hc, hs⟩
end StrChars.Road
end Jvm.Pilot.@@N@@
namespace Jvm.Pilot.@@N@@
open Jvm Jvm.ClassFile Sem Op Lib Jvm.Free Jvm.Stand Jvm.LawKit Jvm.RoadKit Bundle Jvm.Pilot.@@N@@.Jvm.D

section OwnKit
variable {p : Program} {l : Launch} {e : Env} {R : Room} {s : State} {m : MethodId} {args : Array Value} {below : List Frame} {meth : Method} {c : Code} {T : State} {locs : List Loc} {cells slots : Nat} {Q : Option Value → Heap → List Loc → Prop} {kc kn : Nat} {h : Heap}
/-- from T, with the frame g on top, the body comes to its end, and the end is as Q says -/
def own_Fin (p : Program) (e : Env) (s : State) (below : List Frame) (Q : Option Value → Heap → List Loc → Prop) (kc kn : Nat) (T : State) (g : JFrame) : Prop :=
  ∃ s₂ o, Steps p.tables e below (T.setTop g) s₂ ∧ s₂.status = .running ∧ Ended s₂ below o ∧ ∃ v L, o = .returned v ∧ Q v s₂.heap L ∧ FrameEnd s o s₂ L kc kn
theorem own_via {T' : State} {g g' : JFrame} (k : ∀ t, Steps p.tables e below (T'.setTop g') t → Steps p.tables e below (T.setTop g) t) (hf : own_Fin p e s below Q kc kn T' g') : own_Fin p e s below Q kc kn T g := by
  obtain ⟨s2, o, h1, r⟩ := hf
  exact ⟨s2, o, k _ h1, r⟩
theorem own_ret0 (X : Stand p l e R s m args below meth c T locs cells slots) (hx : p.tables.exec = Jvm.exec) (hret : meth.sig.returnType = none) (hlk : meth.locks = false) {pc : Nat} {Ls : Array Slot} (hd : decode c.code pc = .ok (.return_, 1)) (eT : T.heap = h) (hq : Q none h locs) (hc : cells ≤ kc) (hs : slots ≤ kn) : own_Fin p e s below Q kc kn T (mkF m pc Ls []) := by
  obtain ⟨fs, hr, hrun, hended, hW, hsame⟩ := X.leave (v := none) (fun _ => rfl) hlk
  exact ⟨_, _, X.returnOut hx hret hd hr, hrun, hended, none, locs, rfl, by subst eT; exact hq, ⟨_, rfl⟩, hW, hsame.mono hc hs⟩
theorem own_retN (X : Stand p l e R s m args below meth c T locs cells slots) (hx : p.tables.exec = Jvm.exec) {t : FieldType} (hret : meth.sig.returnType = some t) (hlk : meth.locks = false) (ht : t = .boolean ∨ t = .byte ∨ t = .char ∨ t = .short) {pc : Nat} {Ls : Array Slot} {z r : Int32} {rest : List Value} (hd : decode c.code pc = .ok (.ireturn, 1)) (eT : T.heap = h) (hv : nar t z = r) (hq : Q (some (.int r)) h locs) (hc : cells ≤ kc) (hs : slots ≤ kn) : own_Fin p e s below Q kc kn T (mkF m pc Ls (.int z :: rest)) := by
  obtain ⟨fs, hr, hrun, hended, hW, hsame⟩ := X.leave (v := some (.int (nar t z))) (fun h => by rw [hret] at h; cases h) hlk
  exact ⟨_, _, retN X hx hret ht hd hr, hrun, hended, _, locs, rfl, by subst eT; rw [hv]; exact hq, ⟨_, rfl⟩, hW, hsame.mono hc hs⟩
theorem own_retI (X : Stand p l e R s m args below meth c T locs cells slots) (hx : p.tables.exec = Jvm.exec) (hret : meth.sig.returnType = some .int) (hlk : meth.locks = false) {pc : Nat} {Ls : Array Slot} {z r : Int32} {rest : List Value} (hd : decode c.code pc = .ok (.ireturn, 1)) (eT : T.heap = h) (hv : z = r) (hq : Q (some (.int r)) h locs) (hc : cells ≤ kc) (hs : slots ≤ kn) : own_Fin p e s below Q kc kn T (mkF m pc Ls (.int z :: rest)) := by
  subst hv
  obtain ⟨fs, hr, hrun, hended, hW, hsame⟩ := X.leave (v := some (.int z)) (fun h => by rw [hret] at h; cases h) hlk
  exact ⟨_, _, retOut X hx hret rfl (Or.inl ⟨rfl, Or.inl rfl, z, rfl⟩) hd hr, hrun, hended, _, locs, rfl, by subst eT; exact hq, ⟨_, rfl⟩, hW, hsame.mono hc hs⟩
theorem own_retJ (X : Stand p l e R s m args below meth c T locs cells slots) (hx : p.tables.exec = Jvm.exec) (hret : meth.sig.returnType = some .long) (hlk : meth.locks = false) {pc : Nat} {Ls : Array Slot} {z r : Int64} {rest : List Value} (hd : decode c.code pc = .ok (.lreturn, 1)) (eT : T.heap = h) (hv : z = r) (hq : Q (some (.long r)) h locs) (hc : cells ≤ kc) (hs : slots ≤ kn) : own_Fin p e s below Q kc kn T (mkF m pc Ls (.long z :: rest)) := by
  subst hv
  obtain ⟨fs, hr, hrun, hended, hW, hsame⟩ := X.leave (v := some (.long z)) (fun h => by rw [hret] at h; cases h) hlk
  exact ⟨_, _, retOut X hx hret rfl (Or.inr (Or.inl ⟨rfl, rfl, z, rfl⟩)) hd hr, hrun, hended, _, locs, rfl, by subst eT; exact hq, ⟨_, rfl⟩, hW, hsame.mono hc hs⟩
theorem own_retD (X : Stand p l e R s m args below meth c T locs cells slots) (hx : p.tables.exec = Jvm.exec) (hret : meth.sig.returnType = some .double) (hlk : meth.locks = false) {pc : Nat} {Ls : Array Slot} {z r : UInt64} {rest : List Value} (hd : decode c.code pc = .ok (.dreturn, 1)) (eT : T.heap = h) (hv : z = r) (hq : Q (some (.double r)) h locs) (hc : cells ≤ kc) (hs : slots ≤ kn) : own_Fin p e s below Q kc kn T (mkF m pc Ls (.double z :: rest)) := by
  subst hv
  obtain ⟨fs, hr, hrun, hended, hW, hsame⟩ := X.leave (v := some (.double z)) (fun h => by rw [hret] at h; cases h) hlk
  exact ⟨_, _, retOut X hx hret rfl (Or.inr (Or.inr (Or.inl ⟨rfl, rfl, z, rfl⟩))) hd hr, hrun, hended, _, locs, rfl, by subst eT; exact hq, ⟨_, rfl⟩, hW, hsame.mono hc hs⟩
theorem own_retA (X : Stand p l e R s m args below meth c T locs cells slots) (hx : p.tables.exec = Jvm.exec) {t : FieldType} (hret : meth.sig.returnType = some t) (hlk : meth.locks = false) (ht : t.isReference = true) {pc : Nat} {Ls : Array Slot} {w : Value} {rest : List Value} (hw : w.isRef = true) (hd : decode c.code pc = .ok (.areturn, 1)) (eT : T.heap = h) (hq : Q (some w) h locs) (hc : cells ≤ kc) (hs : slots ≤ kn) : own_Fin p e s below Q kc kn T (mkF m pc Ls (w :: rest)) := by
  obtain ⟨fs, hr, hrun, hended, hW, hsame⟩ := X.leave (v := some w) (fun h => by rw [hret] at h; cases h) hlk
  have hn : narrow t w = w := by
    cases t <;> first | (cases ht; done) | rfl
  exact ⟨_, _, retOut X hx hret hn (Or.inr (Or.inr (Or.inr (Or.inr ⟨rfl, ht, hw⟩)))) hd hr, hrun, hended, _, locs, rfl, by subst eT; exact hq, ⟨_, rfl⟩, hW, hsame.mono hc hs⟩
end OwnKit

section OwnKitH
variable {p : Program} {l : Launch} {e : Env} {R : Room} {s : State} {m : MethodId} {args : Array Value} {below : List Frame} {meth : Method} {c : Code} {T : State} {locs : List Loc} {cells slots : Nat} {Q : Option Value → Heap → List Loc → Prop} {kc kn : Nat} {h h0 : Heap} {Z : State} {a0 : Array Value} {EL : List (String × Nat)} {vm : Vm} {k0 : Nat}
/-- own_Fin of a body that may load String constants -/
def own_FinH (p : Program) (e : Env) (s : State) (below : List Frame) (Z : State) (EL : List (String × Nat)) (Q : Option Value → Heap → List Loc → Prop) (kc kn : Nat) (T : State) (g : JFrame) : Prop :=
  ∃ s₂ o, Steps p.tables e below (T.setTop g) s₂ ∧ s₂.status = .running ∧ Ended s₂ below o ∧ ∃ v L, o = .returned v ∧ Q v s₂.heap L ∧ CHr Z EL s.vm s.heap s₂.vm s₂.heap ∧ ReturnedEndW s o s₂ L kc kn
theorem own_viaH {T' : State} {g g' : JFrame} (k : ∀ t, Steps p.tables e below (T'.setTop g') t → Steps p.tables e below (T.setTop g) t) (hf : own_FinH p e s below Z EL Q kc kn T' g') : own_FinH p e s below Z EL Q kc kn T g := by
  obtain ⟨s2, o, h1, r⟩ := hf
  exact ⟨s2, o, k _ h1, r⟩
theorem own_endH (X : Stand p l e R (s.setVm vm) m args below meth c T locs cells slots) (hlk : meth.locks = false) (hEL : EW Z a0 EL) (hZ : Z.Warmed39 vm) (hS : s.Since vm k0) (hk : k0 ≤ h.size) (hh : s.heap = h0) (C : CHr Z EL s.vm h0 vm h) (eT : T.heap = h) {v : Option Value} (hv : meth.sig.returnType = none → v = none) {g : JFrame}
    (st : ∀ fs : List Frame, (∀ (f : JFrame) (acts : List Action), f.method = m → f.locked = none → f.entered = [] → (doReturn e (T.setTop f) acts v).1 = T.setFrames fs) → Steps p.tables e below (T.setTop g) (T.setFrames fs)) (hq : Q v h locs) (hc : cells ≤ kc) (hs : slots ≤ kn) : own_FinH p e s below Z EL Q kc kn T g := by
  obtain ⟨fs, hr, hrun, hended, w1, w2, w3, w4⟩ := X.leaveW hS (by rw [eT]; exact hk) hv hlk
  subst eT hh
  have K : CHr Z EL vm T.heap T.vm T.heap := CHv.at X hZ hEL C.1
  exact ⟨_, _, st fs hr, hrun, hended, v, locs, rfl, hq, C.trans K, w1, w2, w3, w4.mono hc hs⟩
theorem own_ret0H (X : Stand p l e R (s.setVm vm) m args below meth c T locs cells slots) (hx : p.tables.exec = Jvm.exec) (hret : meth.sig.returnType = none) (hlk : meth.locks = false) (hEL : EW Z a0 EL) (hZ : Z.Warmed39 vm) (hS : s.Since vm k0) (hk : k0 ≤ h.size) (hh : s.heap = h0) (C : CHr Z EL s.vm h0 vm h) {pc : Nat} {Ls : Array Slot} (hd : decode c.code pc = .ok (.return_, 1)) (eT : T.heap = h) (hq : Q none h locs) (hc : cells ≤ kc) (hs : slots ≤ kn) : own_FinH p e s below Z EL Q kc kn T (mkF m pc Ls []) :=
  own_endH X hlk hEL hZ hS hk hh C eT (fun _ => rfl) (fun fs hr => X.returnOut hx hret hd hr) hq hc hs
theorem own_retNH (X : Stand p l e R (s.setVm vm) m args below meth c T locs cells slots) (hx : p.tables.exec = Jvm.exec) {t : FieldType} (hret : meth.sig.returnType = some t) (hlk : meth.locks = false) (hEL : EW Z a0 EL) (hZ : Z.Warmed39 vm) (hS : s.Since vm k0) (hk : k0 ≤ h.size) (hh : s.heap = h0) (C : CHr Z EL s.vm h0 vm h) (ht : t = .boolean ∨ t = .byte ∨ t = .char ∨ t = .short) {pc : Nat} {Ls : Array Slot} {z r : Int32} {rest : List Value} (hd : decode c.code pc = .ok (.ireturn, 1)) (eT : T.heap = h) (hv : nar t z = r) (hq : Q (some (.int r)) h locs) (hc : cells ≤ kc) (hs : slots ≤ kn) : own_FinH p e s below Z EL Q kc kn T (mkF m pc Ls (.int z :: rest)) := by
  subst hv
  exact own_endH X hlk hEL hZ hS hk hh C eT (fun q => by rw [hret] at q; cases q) (fun fs hr => retN X hx hret ht hd hr) hq hc hs
theorem own_retIH (X : Stand p l e R (s.setVm vm) m args below meth c T locs cells slots) (hx : p.tables.exec = Jvm.exec) (hret : meth.sig.returnType = some .int) (hlk : meth.locks = false) (hEL : EW Z a0 EL) (hZ : Z.Warmed39 vm) (hS : s.Since vm k0) (hk : k0 ≤ h.size) (hh : s.heap = h0) (C : CHr Z EL s.vm h0 vm h) {pc : Nat} {Ls : Array Slot} {z r : Int32} {rest : List Value} (hd : decode c.code pc = .ok (.ireturn, 1)) (eT : T.heap = h) (hv : z = r) (hq : Q (some (.int r)) h locs) (hc : cells ≤ kc) (hs : slots ≤ kn) : own_FinH p e s below Z EL Q kc kn T (mkF m pc Ls (.int z :: rest)) := by
  subst hv
  exact own_endH X hlk hEL hZ hS hk hh C eT (fun q => by rw [hret] at q; cases q) (fun fs hr => retOut X hx hret rfl (Or.inl ⟨rfl, Or.inl rfl, z, rfl⟩) hd hr) hq hc hs
theorem own_retAH (X : Stand p l e R (s.setVm vm) m args below meth c T locs cells slots) (hx : p.tables.exec = Jvm.exec) {t : FieldType} (hret : meth.sig.returnType = some t) (hlk : meth.locks = false) (hEL : EW Z a0 EL) (hZ : Z.Warmed39 vm) (hS : s.Since vm k0) (hk : k0 ≤ h.size) (hh : s.heap = h0) (C : CHr Z EL s.vm h0 vm h) (ht : t.isReference = true) {pc : Nat} {Ls : Array Slot} {w : Value} {rest : List Value} (hw : w.isRef = true) (hd : decode c.code pc = .ok (.areturn, 1)) (eT : T.heap = h) (hq : Q (some w) h locs) (hc : cells ≤ kc) (hs : slots ≤ kn) : own_FinH p e s below Z EL Q kc kn T (mkF m pc Ls (w :: rest)) := by
  have hn : narrow t w = w := by
    cases t <;> first | (cases ht; done) | rfl
  exact own_endH X hlk hEL hZ hS hk hh C eT (fun q => by rw [hret] at q; cases q) (fun fs hr => retOut X hx hret hn (Or.inr (Or.inr (Or.inr (Or.inr ⟨rfl, ht, hw⟩)))) hd hr) hq hc hs
/-- a String whose value is still null is no booked one -/
theorem own_safe_null {x : Addr} (hal : Z.vm.Alike vm) (E : Exa Z h x "java/lang/String") (F : Fld Z h x "java/lang/String" "value" "[B" .null) : Safe Z EL vm h x := fun B => by
  obtain ⟨p1, -, u, a, -, q, -, G, rfl | rfl⟩ := B
  · obtain ⟨cell, cf, k, i, f, h1, h2, h3, -, -, -, h7⟩ := F
    obtain ⟨cS, ⟨⟨s1, s2, s3, ⟨c', k', i', s4, s4'⟩, s5, s6, s7, s8, -⟩, -, -⟩, -⟩ := G
    cases (show h[q.sa]? = some q.sC from s1).symm.trans h1
    obtain ⟨k2, z4⟩ := ff_back (U := Wst Z vm h) hal s4
    cases h2.symm.trans z4
    rw [h7] at s8
    cases s8
  · obtain ⟨cell, k, e1, e2, e3, -⟩ := E
    cases (show h[q.sd]? = some q.SA from G.hd).symm.trans e1
    obtain ⟨cS, -, -, f, -⟩ := G
    have f' : vm.findClass "[B" = some q.SA.cls := f
    rw [hal.findClass] at f'
    obtain ⟨k1, q1, q2⟩ := Vm.findClass_spec f'
    obtain ⟨k2, q3, q4⟩ := Vm.findClass_spec e2
    cases q1.symm.trans q3
    exact absurd (q2.symm.trans q4) (by decide)
end OwnKitH

theorem own_lt32 {a b : Int32} : a < b ↔ a.toInt < b.toInt := Int32.lt_iff_toInt_lt
theorem own_shr0 (N : Int32) : N >>> ((0 : Int32) &&& 31) = N := Int32.toInt_inj.mp (by rw [c_ishr N 0 0 (by decide)]; simp)
theorem own_getD {ds : List Int32} {k : Nat} : (ds.map Value.int).getD k (.int 0) = .int (ds.getD k 0) := by
  simp only [List.getD_eq_getElem?_getD, List.getElem?_map]
  cases ds[k]? <;> rfl
theorem own_toI {i : Nat} (hi : i ≤ 5000) : (Int32.ofNat i).toInt = (i : Int) := Int32.toInt_ofNat_of_lt (by omega)
theorem own_jI {i : Nat} {j : Int32} (hj : j = Int32.ofNat i) (hi : i ≤ 5000) : j.toInt = (i : Int) := by rw [hj]; exact own_toI hi
theorem own_clamp {i : Nat} {j : Int32} (hj : j = Int32.ofNat i) (hi : i ≤ 5000) : j.toNatClampNeg = i := by
  show j.toInt.toNat = i
  rw [own_jI hj hi]; exact Int.toNat_natCast i
theorem own_el {ds : List Int32} {i : Nat} {j : Int32} (hj : j = Int32.ofNat i) (hi : i ≤ 5000) : (ds.map Value.int).getD j.toNatClampNeg (.int 0) = .int (ds.getD i 0) := by rw [own_clamp hj hi]; exact own_getD
theorem own_ltN {i n : Nat} {j N : Int32} (hj : j = Int32.ofNat i) (hN : N = Int32.ofNat n) (hi : i ≤ 5000) (hn : n ≤ 5000) : j < N ↔ i < n := by
  rw [own_lt32, own_jI hj hi, own_jI hN hn]; omega
theorem own_nneg {i : Nat} {j : Int32} (hj : j = Int32.ofNat i) (hi : i ≤ 5000) : ¬ j < 0 := by
  have e : (0 : Int32).toInt = 0 := rfl
  rw [own_lt32, own_jI hj hi, e]; omega
theorem own_inb {i n : Nat} {j N : Int32} (hj : j = Int32.ofNat i) (hN : N = Int32.ofNat n) (hi : i < n) (hn : n ≤ 5000) : ¬ j < 0 ∧ j < N := ⟨own_nneg hj (by omega), (own_ltN hj hN (by omega) hn).mpr hi⟩
theorem own_succ {i : Nat} {j : Int32} (hj : j = Int32.ofNat i) : j + (1 : Int32) = Int32.ofNat (i + 1) := by rw [hj, Int32.ofNat_add]; rfl
theorem own_next {P : Nat → Prop} {i : Nat} (h : ∀ q, q < i → ¬ P q) (hi : ¬ P i) : ∀ q, q < i + 1 → ¬ P q := fun q hq => by
  rcases Nat.lt_succ_iff_lt_or_eq.mp hq with z | rfl
  · exact h q z
  · exact hi
def own_has (ds : List Int32) (n : Nat) (r : Int32) : Prop := (r < 0 ∧ ∀ q, q < n → ¬ ds.getD q 0 = (46 : Int32)) ∨ (¬ r < 0 ∧ ∃ q, q < n ∧ ds.getD q 0 = (46 : Int32))
def own_pair (ds : List Int32) (n q : Nat) : Prop := q + 1 < n ∧ ds.getD q 0 = (46 : Int32) ∧ ds.getD (q + 1) 0 = (46 : Int32)
def own_fnd (ds : List Int32) (n : Nat) (r : Int32) : Prop := (r < 0 ∧ ∀ q, ¬ own_pair ds n q) ∨ (¬ r < 0 ∧ ∃ q, own_pair ds n q)
def own_two01 (ds : List Int32) (n : Nat) (r : Int32) : Prop := (r = (1 : Int32) ∧ ∃ q, own_pair ds n q) ∨ (r = (0 : Int32) ∧ ∀ q, ¬ own_pair ds n q)
def own_good (ds : List Int32) (n : Nat) : Prop := 0 < n ∧ ¬ ds.getD 0 0 = (46 : Int32) ∧ ¬ ds.getD (n - 1) 0 = (46 : Int32) ∧ ∀ q, ¬ own_pair ds n q
theorem own_nopair {ds : List Int32} {n i : Nat} (h : ∀ q, q < i → ¬ own_pair ds n q) (hi : n < i + 2) : ∀ q, ¬ own_pair ds n q := fun q hp => by
  have := hp.1
  exact h q (by omega) hp
theorem own_good_no {ds : List Int32} {n : Nat} (hp0 : 0 < n) (h : ∀ q, q < n → ¬ ds.getD q 0 = (46 : Int32)) : own_good ds n := ⟨hp0, h 0 hp0, h (n - 1) (by omega), fun q hp => h q (by have := hp.1; omega) hp.2.1⟩
theorem own_one {z : Int32} : One (.val (.int z)) := Or.inr ⟨_, rfl, rfl⟩
theorem own_subI {x y : Int32} {a b : Int} (hx : x.toInt = a) (hy : y.toInt = b) (h1 : -2147483648 ≤ a - b) (h2 : a - b < 2147483648) : (x - y).toInt = a - b := by
  have e := c_isub x y
  have r := rng32 (x - y)
  omega
theorem own_addI {x y : Int32} {a b : Int} (hx : x.toInt = a) (hy : y.toInt = b) (h1 : -2147483648 ≤ a + b) (h2 : a + b < 2147483648) : (x + y).toInt = a + b := by
  have e := c_iadd x y
  have r := rng32 (x + y)
  omega
theorem own_gtM {i n : Nat} {j N : Int32} (hj : j = Int32.ofNat i) (hN : N = Int32.ofNat n) (hi : i ≤ 5000) (hn : n ≤ 4000) : N - (2 : Int32) < j ↔ n < i + 2 := by
  rw [own_lt32, own_jI hj hi, own_subI (own_jI hN (by omega)) (show (2 : Int32).toInt = 2 from rfl) (by omega) (by omega)]; omega
section
variable {i : Nat} {j : Int32}
theorem own_j1 (hj : j = Int32.ofNat i) (hi : i ≤ 4000) : (j + (1 : Int32)).toInt = (i : Int) + 1 := own_addI (own_jI hj (by omega)) rfl (by omega) (by omega)
theorem own_j9 (hj : j = Int32.ofNat i) (hi : i ≤ 4000) : (((j + (1 : Int32)) + (2 : Int32)) - (1 : Int32)).toInt = (i : Int) + 1 + 2 - 1 := own_subI (own_addI (own_j1 hj hi) rfl (by omega) (by omega)) rfl (by omega) (by omega)
theorem own_j2 (hj : j = Int32.ofNat i) (hi : i ≤ 4000) : ((j + (1 : Int32)) + (1 : Int32)).toInt = (i : Int) + 1 + 1 := own_addI (own_j1 hj hi) rfl (by omega) (by omega)
theorem own_t1 (hj : j = Int32.ofNat i) (hi : i ≤ 4000) : (j + (1 : Int32)) < (((j + (1 : Int32)) + (2 : Int32)) - (1 : Int32)) := by rw [own_lt32, own_j1 hj hi, own_j9 hj hi]; omega
theorem own_t2 (hj : j = Int32.ofNat i) (hi : i ≤ 4000) : ¬ ((j + (1 : Int32)) + (1 : Int32)) < (((j + (1 : Int32)) + (2 : Int32)) - (1 : Int32)) := by rw [own_lt32, own_j2 hj hi, own_j9 hj hi]; omega
theorem own_t3 (hj : j = Int32.ofNat i) (hi : i ≤ 4000) : ((j + (1 : Int32)) + (1 : Int32)) = (((j + (1 : Int32)) + (2 : Int32)) - (1 : Int32)) := Int32.toInt_inj.mp (by rw [own_j2 hj hi, own_j9 hj hi]; omega)
theorem own_t4 (hj : j = Int32.ofNat i) (hi : i ≤ 4000) : ¬ (j + (1 : Int32)) = (((j + (1 : Int32)) + (2 : Int32)) - (1 : Int32)) := fun q => by
  have := congrArg Int32.toInt q
  rw [own_j1 hj hi, own_j9 hj hi] at this
  omega
end
theorem own_nz {n : Nat} {N : Int32} (hN : N = Int32.ofNat n) (hp0 : 0 < n) (hn : n ≤ 4000) : ¬ N = (0 : Int32) := fun q => by
  have e := own_jI hN (by omega)
  rw [q] at e
  have e2 : (0 : Int32).toInt = 0 := rfl
  omega
theorem own_pos {n : Nat} {N : Int32} (hN : N = Int32.ofNat n) (hp0 : 0 < n) (hn : n ≤ 4000) : (0 : Int32) < N := by
  have e2 : (0 : Int32).toInt = 0 := rfl
  rw [own_lt32, own_jI hN (by omega), e2]; omega
theorem own_m1 {n : Nat} {N : Int32} (hN : N = Int32.ofNat n) (hp0 : 0 < n) (hn : n ≤ 4000) : ¬ (N - (1 : Int32)) < 0 ∧ (N - (1 : Int32)) < N ∧ (N - (1 : Int32)).toNatClampNeg = n - 1 := by
  have e := own_subI (own_jI hN (by omega)) (show (1 : Int32).toInt = 1 from rfl) (by omega) (by omega)
  have e2 : (0 : Int32).toInt = 0 := rfl
  refine ⟨?_, ?_, ?_⟩
  · rw [own_lt32, e, e2]; omega
  · rw [own_lt32, e, own_jI hN (by omega)]; omega
  · show (N - (1 : Int32)).toInt.toNat = _
    rw [e]; omega
theorem own_i2c {x : Int32} (hp0 : 0 ≤ x.toInt) (h1 : x.toInt < 65536) : x.toUInt32.toUInt16.toUInt32.toInt32 = x := Int32.toInt_inj.mp (by have := c_i2c x; omega)
def own_lat (x : Int32) : Prop := 0 ≤ x.toInt ∧ x.toInt ≤ 255
theorem own_m255 (x : Int32) : own_lat (x &&& (255 : Int32)) := c_and x (255 : Int32) (by decide)
theorem own_narc {x : Int32} (h : own_lat x) : nar .char x = x := by
  obtain ⟨h1, h2⟩ := h
  show x.toUInt32.toUInt16.toUInt32.toInt32 = _
  rw [own_i2c (by omega) (by omega)]
theorem own_nar1 (x : Int32) : nar .char (x &&& (255 : Int32)) = x &&& (255 : Int32) := own_narc (own_m255 x)
theorem own_dbl (x : Int32) : nar .char (x &&& (255 : Int32)).toUInt32.toUInt16.toUInt32.toInt32 = x &&& (255 : Int32) := by
  have := own_m255 x
  obtain ⟨h1, h2⟩ := this
  show ((x &&& (255 : Int32)).toUInt32.toUInt16.toUInt32.toInt32).toUInt32.toUInt16.toUInt32.toInt32 = _
  have q := own_i2c (x := x &&& (255 : Int32)) (by omega) (by omega)
  rw [q, q]
theorem own_latZ {x : Int32} (h : own_lat x) : ¬ x < 0 ∧ ¬ (255 : Int32) < x := by
  obtain ⟨h1, h2⟩ := h
  have e : (255 : Int32).toInt = 255 := rfl
  have e0 : (0 : Int32).toInt = 0 := rfl
  rw [own_lt32, own_lt32]
  omega
def own_byte (b : Int32) : Prop := -128 ≤ b.toInt ∧ b.toInt ≤ 127
theorem own_lo (c : Int32) : own_byte c.toInt8.toInt32 ∧ (c.toInt8.toInt32.toInt - c.toInt) % 256 = 0 := by
  have h1 : (c.toInt8.toInt32).toInt = c.toInt8.toInt := Int8.toInt_toInt32 _
  have h2 := c.toInt8.toInt_lt
  have h3 := c.toInt8.le_toInt
  have h4 : c.toInt8.toInt = c.toInt.bmod 256 := Int32.toInt_toInt8 c
  refine ⟨⟨by omega, by omega⟩, ?_⟩
  rw [h1, h4, Int.bmod_def]
  split <;> omega
theorem own_lo46 {c : Int32} (h : own_lat c) : c.toInt8.toInt32 = (46 : Int32) ↔ c = (46 : Int32) := by
  obtain ⟨⟨h1, h2⟩, h3⟩ := own_lo c
  obtain ⟨h4, h5⟩ := h
  have e : (46 : Int32).toInt = 46 := rfl
  constructor <;> intro q <;> apply Int32.toInt_inj.mp
  · rw [q] at h3; omega
  · rw [q] at h1 h2 h3; rw [q]; omega
theorem own_ch46 {b : Int32} (h : own_byte b) : b &&& (255 : Int32) = (46 : Int32) ↔ b = (46 : Int32) := by
  obtain ⟨h1, h2⟩ := h
  have e : (46 : Int32).toInt = 46 := rfl
  have q := c_mask b (255 : Int32) 8 (by decide) (by decide)
  constructor <;> intro z
  · rw [z] at q
    apply Int32.toInt_inj.mp
    omega
  · rw [z]; decide
theorem own_bytes (cs : List Int32) : ∀ q, own_byte ((cs.map fun c => c.toInt8.toInt32).getD q 0) := fun q => by
  simp only [List.getD_eq_getElem?_getD, List.getElem?_map]
  cases cs[q]? with
  | none => unfold own_byte; decide
  | some c => exact (own_lo c).1
def own_06 (x : Int32) : Prop := x = (0 : Int32) ∨ x = (1 : Int32) ∨ x = (2 : Int32) ∨ x = (3 : Int32) ∨ x = (4 : Int32) ∨ x = (5 : Int32)
theorem own_n06 (p1 : Int32) : own_06 ((p1 &&& (7 : Int32)) % (6 : Int32)) := by
  have r := c_and p1 (7 : Int32) (by decide)
  have e := (c_irem (p1 &&& (7 : Int32)) (6 : Int32) 6 rfl).1 r.1
  have e7 : (7 : Int32).toInt = 7 := rfl
  have v : ∀ k : Nat, k < 6 → ((p1 &&& (7 : Int32)) % (6 : Int32)).toInt = (k : Int) → (p1 &&& (7 : Int32)) % (6 : Int32) = Int32.ofNat k := fun k hk h => Int32.toInt_inj.mp (by rw [h, own_toI (by omega)])
  have b1 : 0 ≤ ((p1 &&& (7 : Int32)) % (6 : Int32)).toInt := by omega
  have b2 : ((p1 &&& (7 : Int32)) % (6 : Int32)).toInt < 6 := by omega
  have := v ((p1 &&& (7 : Int32)) % (6 : Int32)).toInt.toNat (by omega) (by omega)
  unfold own_06
  rcases (show ((p1 &&& (7 : Int32)) % (6 : Int32)).toInt.toNat = 0 ∨ ((p1 &&& (7 : Int32)) % (6 : Int32)).toInt.toNat = 1 ∨ ((p1 &&& (7 : Int32)) % (6 : Int32)).toInt.toNat = 2 ∨ ((p1 &&& (7 : Int32)) % (6 : Int32)).toInt.toNat = 3 ∨ ((p1 &&& (7 : Int32)) % (6 : Int32)).toInt.toNat = 4 ∨ ((p1 &&& (7 : Int32)) % (6 : Int32)).toInt.toNat = 5 by omega) with q | q | q | q | q | q <;> rw [q] at this <;> rw [this] <;> decide
theorem own_lats1 {c1 : Int32} (hc1 : own_lat c1) : ∀ c ∈ [c1], ¬ c < 0 ∧ ¬ (255 : Int32) < c := by
  intro c hc
  simp only [List.mem_cons, List.not_mem_nil, or_false] at hc
  rcases hc with rfl
  · exact own_latZ hc1
theorem own_good_1 {c1 : Int32} (hc1 : own_lat c1) : own_good [c1.toInt8.toInt32] 1 ↔ (¬ c1 = (46 : Int32) ∧ ¬ c1 = (46 : Int32) ∧ ¬ (False)) := by
  have ec1 := own_lo46 hc1
  constructor
  · rintro ⟨-, a, b, d⟩
    refine ⟨fun q => a (ec1.mpr q), fun q => b (ec1.mpr q), fun q => ?_⟩
    exact q
  · rintro ⟨a, b, d⟩
    refine ⟨by decide, fun q => a (ec1.mp q), fun q => b (ec1.mp q), fun q hq => ?_⟩
    obtain ⟨q0, q1, q2⟩ := hq
    omega
theorem own_lats2 {c1 c2 : Int32} (hc1 : own_lat c1) (hc2 : own_lat c2) : ∀ c ∈ [c1, c2], ¬ c < 0 ∧ ¬ (255 : Int32) < c := by
  intro c hc
  simp only [List.mem_cons, List.not_mem_nil, or_false] at hc
  rcases hc with rfl | rfl
  · exact own_latZ hc1
  · exact own_latZ hc2
theorem own_good_2 {c1 c2 : Int32} (hc1 : own_lat c1) (hc2 : own_lat c2) : own_good [c1.toInt8.toInt32, c2.toInt8.toInt32] 2 ↔ (¬ c1 = (46 : Int32) ∧ ¬ c2 = (46 : Int32) ∧ ¬ ((c1 = (46 : Int32) ∧ c2 = (46 : Int32)))) := by
  have ec1 := own_lo46 hc1
  have ec2 := own_lo46 hc2
  constructor
  · rintro ⟨-, a, b, d⟩
    refine ⟨fun q => a (ec1.mpr q), fun q => b (ec2.mpr q), fun q => ?_⟩
    rcases q with ⟨q1, q2⟩
    · exact d 0 ⟨by decide, ec1.mpr q1, ec2.mpr q2⟩
  · rintro ⟨a, b, d⟩
    refine ⟨by decide, fun q => a (ec1.mp q), fun q => b (ec2.mp q), fun q hq => ?_⟩
    obtain ⟨q0, q1, q2⟩ := hq
    rcases q with _ | q
    · exact d (⟨ec1.mp q1, ec2.mp q2⟩)
    omega
theorem own_lats3 {c1 c2 c3 : Int32} (hc1 : own_lat c1) (hc2 : own_lat c2) (hc3 : own_lat c3) : ∀ c ∈ [c1, c2, c3], ¬ c < 0 ∧ ¬ (255 : Int32) < c := by
  intro c hc
  simp only [List.mem_cons, List.not_mem_nil, or_false] at hc
  rcases hc with rfl | rfl | rfl
  · exact own_latZ hc1
  · exact own_latZ hc2
  · exact own_latZ hc3
theorem own_good_3 {c1 c2 c3 : Int32} (hc1 : own_lat c1) (hc2 : own_lat c2) (hc3 : own_lat c3) : own_good [c1.toInt8.toInt32, c2.toInt8.toInt32, c3.toInt8.toInt32] 3 ↔ (¬ c1 = (46 : Int32) ∧ ¬ c3 = (46 : Int32) ∧ ¬ ((c1 = (46 : Int32) ∧ c2 = (46 : Int32)) ∨ (c2 = (46 : Int32) ∧ c3 = (46 : Int32)))) := by
  have ec1 := own_lo46 hc1
  have ec2 := own_lo46 hc2
  have ec3 := own_lo46 hc3
  constructor
  · rintro ⟨-, a, b, d⟩
    refine ⟨fun q => a (ec1.mpr q), fun q => b (ec3.mpr q), fun q => ?_⟩
    rcases q with ⟨q1, q2⟩ | ⟨q1, q2⟩
    · exact d 0 ⟨by decide, ec1.mpr q1, ec2.mpr q2⟩
    · exact d 1 ⟨by decide, ec2.mpr q1, ec3.mpr q2⟩
  · rintro ⟨a, b, d⟩
    refine ⟨by decide, fun q => a (ec1.mp q), fun q => b (ec3.mp q), fun q hq => ?_⟩
    obtain ⟨q0, q1, q2⟩ := hq
    rcases q with _ | q
    · exact d (Or.inl (⟨ec1.mp q1, ec2.mp q2⟩))
    rcases q with _ | q
    · exact d (Or.inr (⟨ec2.mp q1, ec3.mp q2⟩))
    omega
theorem own_lats4 {c1 c2 c3 c4 : Int32} (hc1 : own_lat c1) (hc2 : own_lat c2) (hc3 : own_lat c3) (hc4 : own_lat c4) : ∀ c ∈ [c1, c2, c3, c4], ¬ c < 0 ∧ ¬ (255 : Int32) < c := by
  intro c hc
  simp only [List.mem_cons, List.not_mem_nil, or_false] at hc
  rcases hc with rfl | rfl | rfl | rfl
  · exact own_latZ hc1
  · exact own_latZ hc2
  · exact own_latZ hc3
  · exact own_latZ hc4
theorem own_good_4 {c1 c2 c3 c4 : Int32} (hc1 : own_lat c1) (hc2 : own_lat c2) (hc3 : own_lat c3) (hc4 : own_lat c4) : own_good [c1.toInt8.toInt32, c2.toInt8.toInt32, c3.toInt8.toInt32, c4.toInt8.toInt32] 4 ↔ (¬ c1 = (46 : Int32) ∧ ¬ c4 = (46 : Int32) ∧ ¬ ((c1 = (46 : Int32) ∧ c2 = (46 : Int32)) ∨ (c2 = (46 : Int32) ∧ c3 = (46 : Int32)) ∨ (c3 = (46 : Int32) ∧ c4 = (46 : Int32)))) := by
  have ec1 := own_lo46 hc1
  have ec2 := own_lo46 hc2
  have ec3 := own_lo46 hc3
  have ec4 := own_lo46 hc4
  constructor
  · rintro ⟨-, a, b, d⟩
    refine ⟨fun q => a (ec1.mpr q), fun q => b (ec4.mpr q), fun q => ?_⟩
    rcases q with ⟨q1, q2⟩ | ⟨q1, q2⟩ | ⟨q1, q2⟩
    · exact d 0 ⟨by decide, ec1.mpr q1, ec2.mpr q2⟩
    · exact d 1 ⟨by decide, ec2.mpr q1, ec3.mpr q2⟩
    · exact d 2 ⟨by decide, ec3.mpr q1, ec4.mpr q2⟩
  · rintro ⟨a, b, d⟩
    refine ⟨by decide, fun q => a (ec1.mp q), fun q => b (ec4.mp q), fun q hq => ?_⟩
    obtain ⟨q0, q1, q2⟩ := hq
    rcases q with _ | q
    · exact d (Or.inl (⟨ec1.mp q1, ec2.mp q2⟩))
    rcases q with _ | q
    · exact d (Or.inr (Or.inl (⟨ec2.mp q1, ec3.mp q2⟩)))
    rcases q with _ | q
    · exact d (Or.inr (Or.inr (⟨ec3.mp q1, ec4.mp q2⟩)))
    omega
theorem own_lats5 {c1 c2 c3 c4 c5 : Int32} (hc1 : own_lat c1) (hc2 : own_lat c2) (hc3 : own_lat c3) (hc4 : own_lat c4) (hc5 : own_lat c5) : ∀ c ∈ [c1, c2, c3, c4, c5], ¬ c < 0 ∧ ¬ (255 : Int32) < c := by
  intro c hc
  simp only [List.mem_cons, List.not_mem_nil, or_false] at hc
  rcases hc with rfl | rfl | rfl | rfl | rfl
  · exact own_latZ hc1
  · exact own_latZ hc2
  · exact own_latZ hc3
  · exact own_latZ hc4
  · exact own_latZ hc5
theorem own_good_5 {c1 c2 c3 c4 c5 : Int32} (hc1 : own_lat c1) (hc2 : own_lat c2) (hc3 : own_lat c3) (hc4 : own_lat c4) (hc5 : own_lat c5) : own_good [c1.toInt8.toInt32, c2.toInt8.toInt32, c3.toInt8.toInt32, c4.toInt8.toInt32, c5.toInt8.toInt32] 5 ↔ (¬ c1 = (46 : Int32) ∧ ¬ c5 = (46 : Int32) ∧ ¬ ((c1 = (46 : Int32) ∧ c2 = (46 : Int32)) ∨ (c2 = (46 : Int32) ∧ c3 = (46 : Int32)) ∨ (c3 = (46 : Int32) ∧ c4 = (46 : Int32)) ∨ (c4 = (46 : Int32) ∧ c5 = (46 : Int32)))) := by
  have ec1 := own_lo46 hc1
  have ec2 := own_lo46 hc2
  have ec3 := own_lo46 hc3
  have ec4 := own_lo46 hc4
  have ec5 := own_lo46 hc5
  constructor
  · rintro ⟨-, a, b, d⟩
    refine ⟨fun q => a (ec1.mpr q), fun q => b (ec5.mpr q), fun q => ?_⟩
    rcases q with ⟨q1, q2⟩ | ⟨q1, q2⟩ | ⟨q1, q2⟩ | ⟨q1, q2⟩
    · exact d 0 ⟨by decide, ec1.mpr q1, ec2.mpr q2⟩
    · exact d 1 ⟨by decide, ec2.mpr q1, ec3.mpr q2⟩
    · exact d 2 ⟨by decide, ec3.mpr q1, ec4.mpr q2⟩
    · exact d 3 ⟨by decide, ec4.mpr q1, ec5.mpr q2⟩
  · rintro ⟨a, b, d⟩
    refine ⟨by decide, fun q => a (ec1.mp q), fun q => b (ec5.mp q), fun q hq => ?_⟩
    obtain ⟨q0, q1, q2⟩ := hq
    rcases q with _ | q
    · exact d (Or.inl (⟨ec1.mp q1, ec2.mp q2⟩))
    rcases q with _ | q
    · exact d (Or.inr (Or.inl (⟨ec2.mp q1, ec3.mp q2⟩)))
    rcases q with _ | q
    · exact d (Or.inr (Or.inr (Or.inl (⟨ec3.mp q1, ec4.mp q2⟩))))
    rcases q with _ | q
    · exact d (Or.inr (Or.inr (Or.inr (⟨ec4.mp q1, ec5.mp q2⟩))))
    omega
def own_EL : List (String × Nat) := [("com/example/dependency_container/dependencycontainer/BeanDefinition", 158), ("java/lang/String", 7)]
theorem own_ew {Z : State} {a0 : Array Value} (hw : ∀ d ∈ tables_1, d.before a0 Z = true) : EW Z a0 own_EL := (EW.cons (hw _ (List.mem_of_getElem? (i := 108) rfl)) (by decide) (EW.cons (hw _ (List.mem_of_getElem? (i := 21) rfl)) (by decide) EW.nil))
theorem own_atoms {Z : State} {a0 : Array Value} (hw : ∀ d ∈ tables_1, d.before a0 Z = true) : ∀ a ∈ Bundle.stringAtoms, a.before a0 Z = true := fun d hd => hw d ((by decide +kernel : ∀ d ∈ Bundle.stringAtoms, d ∈ tables_1) d hd)
theorem own_d_jdk_42_152_0 : decode jdk_42_method_152_code 0 = .ok (.getstatic 38, 3) := by decide +kernel
theorem own_d_jdk_42_152_3 : decode jdk_42_method_152_code 3 = .ok (.ifCond .eq 10, 3) := by decide +kernel
theorem own_d_jdk_42_152_6 : decode jdk_42_method_152_code 6 = .ok (.aload_n 0, 1) := by decide +kernel
theorem own_d_jdk_42_152_7 : decode jdk_42_method_152_code 7 = .ok (.getfield 15, 3) := by decide +kernel
theorem own_d_jdk_42_152_10 : decode jdk_42_method_152_code 10 = .ok (.goto 4, 3) := by decide +kernel
theorem own_d_jdk_42_152_14 : decode jdk_42_method_152_code 14 = .ok (.ireturn, 1) := by decide +kernel
theorem own_pn0 : plainName "java/lang/String" = true := by first | (simp [plainName, overriddenIn]; done) | decide +kernel
theorem own_ef_coder (m : MethodId) (a1 : Addr) : entryFrame m #[(.ref a1)] 1 = mkF m 0 #[.val (.ref a1)] [] := by (first | (simp [entryFrame, mkF, argsToLocals, Value.category]; done) | rfl)
def own_Q_coder (Z : State) (a1 : Addr) (cz : Int32) (h0 : Heap) (n0 : Nat) (vq : Option Value) (h : Heap) (Lq : List Loc) : Prop := (vq = some (.int (0 : Int32))) ∧ (Fr n0 Lq) ∧ (h = h0)
set_option maxRecDepth 65536 in
set_option maxHeartbeats 40000000 in
theorem own_rm_coder (l : Launch) (Z : State) (a0 : Array Value) (hw : ∀ d ∈ tables_1, d.before a0 Z = true) (ws : List Jvm.Cond) (a1 : Addr) (cz : Int32) (h0 : Heap) (n0 : Nat) (Z0 : n0 ≤ h0.size) (O0 : Old Z n0 h0) (S1 : Sta Z Z.heap "java/lang/String" "COMPACT_STRINGS" "Z" (.int cz)) (P5 : ¬ cz = (0 : Int32)) (F1 : Fld Z h0 a1 "java/lang/String" "coder" "B" (.int (0 : Int32))) :
    MetFree l (⟨"java/lang/String", "coder", "()B"⟩ : MethodName) (head1 (Jvm.Cond.code (⟨"java/lang/String", "coder", "()B"⟩ : MethodName) jdk_42_method_152_code 1 (some .byte) :: ws) ({ frames := 0, cells := 0, slots := 0, locals := 0 } : Room)) (fun aq Uq => aq = #[(.ref a1)] ∧ Z.Warmed39 Uq.vm ∧ Uq.heap = h0) (fun _ _ _ _ _ => True) (fun _ Uq oq Uq' => ∃ vq Lq, oq = .returned vq ∧ own_Q_coder Z a1 cz h0 n0 vq Uq'.heap Lq ∧ FrameEnd Uq oq Uq' Lq ({ frames := 0, cells := 0, slots := 0, locals := 0 } : Room).cells ({ frames := 0, cells := 0, slots := 0, locals := 0 } : Room).slots) := by
  refine MetFree.of_bodySF (plainFor_of_name own_pn0) hisR ?_
  intro p e s m args below meth cde s₁ Bd hml0 hP hK
  obtain ⟨rfl, hZ, hh⟩ := hP
  have hx := Bd.exec
  have hby := Bd.bytes
  have hml : cde.maxLocals = 1 := hml0
  have hown : s.vm.findClass "java/lang/String" = some m.cls := findClass_of_methodNamed Bd.named
  have hnm := (name_of_methodNamed Bd.named Bd.method).1
  have X0 : Stand p l e ({ frames := 0, cells := 0, slots := 0, locals := 0 } : Room) s m #[(.ref a1)] below meth cde s₁ [] 0 0 := Stand.of_body Bd
  have e0 : s₁.heap = h0 := by rw [← hh, Bd.state]; rfl
  have N0 := Fr.nil n0
  show own_Fin p e s below (own_Q_coder Z a1 cz h0 n0) ({ frames := 0, cells := 0, slots := 0, locals := 0 } : Room).cells ({ frames := 0, cells := 0, slots := 0, locals := 0 } : Room).slots s₁ (entryFrame m #[(.ref a1)] 1)
  rw [own_ef_coder m a1]
  obtain ⟨T1_, X1_, e1_, st1_⟩ := getS2 X0 hx hZ hown (host := "") (Or.inl (hw _ (List.mem_of_getElem? (i := 38) rfl))) Via.refl e0 (S1.ext O0.2) (g := (mkF m 0 #[.val (.ref a1)] [])) rfl (hb hby own_d_jdk_42_152_0)
  refine own_via (fun _ k => st1_ _ k) ?_
  show own_Fin _ _ _ _ _ _ _ T1_ (mkF m 3 #[.val (.ref a1)] [(.int cz)])
  refine own_via (fun _ k => XS.ifNo X1_.here hx rfl (hb hby own_d_jdk_42_152_3) rfl ((if0 _ _).trans (feq P5).1) k) ?_
  show own_Fin _ _ _ _ _ _ _ T1_ (mkF m 6 #[.val (.ref a1)] [])
  refine own_via (fun _ k => XS.aloadN X1_.here hx rfl (hb hby own_d_jdk_42_152_6) rfl rfl k) ?_
  show own_Fin _ _ _ _ _ _ _ T1_ (mkF m 7 #[.val (.ref a1)] [(.ref a1)])
  obtain ⟨T2_, X2_, e2_, st2_⟩ := getF X1_ hx hZ hown (host := "") (Or.inl (hw _ (List.mem_of_getElem? (i := 28) rfl))) Via.refl e1_ F1 (g := (mkF m 7 #[.val (.ref a1)] [(.ref a1)])) rfl rfl (hb hby own_d_jdk_42_152_7)
  refine own_via (fun _ k => st2_ _ k) ?_
  show own_Fin _ _ _ _ _ _ _ T2_ (mkF m 10 #[.val (.ref a1)] [(.int (0 : Int32))])
  refine own_via (fun _ k => XS.goto X2_.here hx rfl (pc0 := 10) (pc' := 14) rfl (hb hby own_d_jdk_42_152_10) (by decide) (by decide) k) ?_
  show own_Fin _ _ _ _ _ _ _ T2_ (mkF m 14 #[.val (.ref a1)] [(.int (0 : Int32))])
  exact own_retN X2_ hx (t := .byte) Bd.returns Bd.notSynchronized (by simp) (hb hby own_d_jdk_42_152_14) e2_ rfl ⟨rfl, N0, rfl⟩ (by decide) (by decide)
theorem own_d_jdk_42_154_0 : decode jdk_42_method_154_code 0 = .ok (.getstatic 38, 3) := by decide +kernel
theorem own_d_jdk_42_154_3 : decode jdk_42_method_154_code 3 = .ok (.ifCond .eq 14, 3) := by decide +kernel
theorem own_d_jdk_42_154_6 : decode jdk_42_method_154_code 6 = .ok (.aload_n 0, 1) := by decide +kernel
theorem own_d_jdk_42_154_7 : decode jdk_42_method_154_code 7 = .ok (.getfield 15, 3) := by decide +kernel
theorem own_d_jdk_42_154_10 : decode jdk_42_method_154_code 10 = .ok (.ifCond .ne 7, 3) := by decide +kernel
theorem own_d_jdk_42_154_13 : decode jdk_42_method_154_code 13 = .ok (.iconst 1, 1) := by decide +kernel
theorem own_d_jdk_42_154_14 : decode jdk_42_method_154_code 14 = .ok (.goto 4, 3) := by decide +kernel
theorem own_d_jdk_42_154_18 : decode jdk_42_method_154_code 18 = .ok (.ireturn, 1) := by decide +kernel
theorem own_ef_isLat (m : MethodId) (a1 : Addr) : entryFrame m #[(.ref a1)] 1 = mkF m 0 #[.val (.ref a1)] [] := by (first | (simp [entryFrame, mkF, argsToLocals, Value.category]; done) | rfl)
def own_Q_isLat (Z : State) (a1 : Addr) (cz : Int32) (h0 : Heap) (n0 : Nat) (vq : Option Value) (h : Heap) (Lq : List Loc) : Prop := (vq = some (.int (1 : Int32))) ∧ (Fr n0 Lq) ∧ (h = h0)
set_option maxRecDepth 65536 in
set_option maxHeartbeats 40000000 in
theorem own_rm_isLat (l : Launch) (Z : State) (a0 : Array Value) (hw : ∀ d ∈ tables_1, d.before a0 Z = true) (ws : List Jvm.Cond) (a1 : Addr) (cz : Int32) (h0 : Heap) (n0 : Nat) (Z0 : n0 ≤ h0.size) (O0 : Old Z n0 h0) (S1 : Sta Z Z.heap "java/lang/String" "COMPACT_STRINGS" "Z" (.int cz)) (P5 : ¬ cz = (0 : Int32)) (F1 : Fld Z h0 a1 "java/lang/String" "coder" "B" (.int (0 : Int32))) :
    MetFree l (⟨"java/lang/String", "isLatin1", "()Z"⟩ : MethodName) (head1 (Jvm.Cond.code (⟨"java/lang/String", "isLatin1", "()Z"⟩ : MethodName) jdk_42_method_154_code 1 (some .boolean) :: ws) ({ frames := 0, cells := 0, slots := 0, locals := 0 } : Room)) (fun aq Uq => aq = #[(.ref a1)] ∧ Z.Warmed39 Uq.vm ∧ Uq.heap = h0) (fun _ _ _ _ _ => True) (fun _ Uq oq Uq' => ∃ vq Lq, oq = .returned vq ∧ own_Q_isLat Z a1 cz h0 n0 vq Uq'.heap Lq ∧ FrameEnd Uq oq Uq' Lq ({ frames := 0, cells := 0, slots := 0, locals := 0 } : Room).cells ({ frames := 0, cells := 0, slots := 0, locals := 0 } : Room).slots) := by
  refine MetFree.of_bodySF (plainFor_of_name own_pn0) hisR ?_
  intro p e s m args below meth cde s₁ Bd hml0 hP hK
  obtain ⟨rfl, hZ, hh⟩ := hP
  have hx := Bd.exec
  have hby := Bd.bytes
  have hml : cde.maxLocals = 1 := hml0
  have hown : s.vm.findClass "java/lang/String" = some m.cls := findClass_of_methodNamed Bd.named
  have hnm := (name_of_methodNamed Bd.named Bd.method).1
  have X0 : Stand p l e ({ frames := 0, cells := 0, slots := 0, locals := 0 } : Room) s m #[(.ref a1)] below meth cde s₁ [] 0 0 := Stand.of_body Bd
  have e0 : s₁.heap = h0 := by rw [← hh, Bd.state]; rfl
  have N0 := Fr.nil n0
  show own_Fin p e s below (own_Q_isLat Z a1 cz h0 n0) ({ frames := 0, cells := 0, slots := 0, locals := 0 } : Room).cells ({ frames := 0, cells := 0, slots := 0, locals := 0 } : Room).slots s₁ (entryFrame m #[(.ref a1)] 1)
  rw [own_ef_isLat m a1]
  obtain ⟨T1_, X1_, e1_, st1_⟩ := getS2 X0 hx hZ hown (host := "") (Or.inl (hw _ (List.mem_of_getElem? (i := 38) rfl))) Via.refl e0 (S1.ext O0.2) (g := (mkF m 0 #[.val (.ref a1)] [])) rfl (hb hby own_d_jdk_42_154_0)
  refine own_via (fun _ k => st1_ _ k) ?_
  show own_Fin _ _ _ _ _ _ _ T1_ (mkF m 3 #[.val (.ref a1)] [(.int cz)])
  refine own_via (fun _ k => XS.ifNo X1_.here hx rfl (hb hby own_d_jdk_42_154_3) rfl ((if0 _ _).trans (feq P5).1) k) ?_
  show own_Fin _ _ _ _ _ _ _ T1_ (mkF m 6 #[.val (.ref a1)] [])
  refine own_via (fun _ k => XS.aloadN X1_.here hx rfl (hb hby own_d_jdk_42_154_6) rfl rfl k) ?_
  show own_Fin _ _ _ _ _ _ _ T1_ (mkF m 7 #[.val (.ref a1)] [(.ref a1)])
  obtain ⟨T2_, X2_, e2_, st2_⟩ := getF X1_ hx hZ hown (host := "") (Or.inl (hw _ (List.mem_of_getElem? (i := 28) rfl))) Via.refl e1_ F1 (g := (mkF m 7 #[.val (.ref a1)] [(.ref a1)])) rfl rfl (hb hby own_d_jdk_42_154_7)
  refine own_via (fun _ k => st2_ _ k) ?_
  show own_Fin _ _ _ _ _ _ _ T2_ (mkF m 10 #[.val (.ref a1)] [(.int (0 : Int32))])
  refine own_via (fun _ k => XS.ifNo X2_.here hx rfl (hb hby own_d_jdk_42_154_10) rfl ((if0 _ _).trans (teq rfl).2) k) ?_
  show own_Fin _ _ _ _ _ _ _ T2_ (mkF m 13 #[.val (.ref a1)] [])
  refine own_via (fun _ k => XS.iconst X2_.here hx rfl (hb hby own_d_jdk_42_154_13) k) ?_
  show own_Fin _ _ _ _ _ _ _ T2_ (mkF m 14 #[.val (.ref a1)] [(.int (1 : Int32))])
  refine own_via (fun _ k => XS.goto X2_.here hx rfl (pc0 := 14) (pc' := 18) rfl (hb hby own_d_jdk_42_154_14) (by decide) (by decide) k) ?_
  show own_Fin _ _ _ _ _ _ _ T2_ (mkF m 18 #[.val (.ref a1)] [(.int (1 : Int32))])
  exact own_retN X2_ hx (t := .boolean) Bd.returns Bd.notSynchronized (by simp) (hb hby own_d_jdk_42_154_18) e2_ rfl ⟨rfl, N0, rfl⟩ (by decide) (by decide)
theorem own_d_jdk_42_54_0 : decode jdk_42_method_54_code 0 = .ok (.aload_n 0, 1) := by decide +kernel
theorem own_d_jdk_42_54_1 : decode jdk_42_method_54_code 1 = .ok (.getfield 9, 3) := by decide +kernel
theorem own_d_jdk_42_54_4 : decode jdk_42_method_54_code 4 = .ok (.arraylength, 1) := by decide +kernel
theorem own_d_jdk_42_54_5 : decode jdk_42_method_54_code 5 = .ok (.aload_n 0, 1) := by decide +kernel
theorem own_d_jdk_42_54_6 : decode jdk_42_method_54_code 6 = .ok (.invokevirtual 335, 3) := by decide +kernel
theorem own_pd0 : parseMethodDescriptor "()B" = some ⟨[], some .byte⟩ := by decide +kernel
theorem own_d_jdk_42_54_9 : decode jdk_42_method_54_code 9 = .ok (.ishr, 1) := by decide +kernel
theorem own_d_jdk_42_54_10 : decode jdk_42_method_54_code 10 = .ok (.ireturn, 1) := by decide +kernel
theorem own_ef_len (m : MethodId) (a1 : Addr) : entryFrame m #[(.ref a1)] 1 = mkF m 0 #[.val (.ref a1)] [] := by (first | (simp [entryFrame, mkF, argsToLocals, Value.category]; done) | rfl)
def own_Q_len (Z : State) (a1 : Addr) (cz : Int32) (t : Addr) (kt : ClassId) (N : Int32) (ds : List Int32) (h0 : Heap) (n0 : Nat) (vq : Option Value) (h : Heap) (Lq : List Loc) : Prop := (vq = some (.int N)) ∧ (Fr n0 Lq) ∧ (h = h0)
set_option maxRecDepth 65536 in
set_option maxHeartbeats 40000000 in
theorem own_rm_len (l : Launch) (Z : State) (a0 : Array Value) (hw : ∀ d ∈ tables_1, d.before a0 Z = true) (ws : List Jvm.Cond) (a1 : Addr) (cz : Int32) (t : Addr) (kt : ClassId) (N : Int32) (ds : List Int32) (h0 : Heap) (n0 : Nat) (Z0 : n0 ≤ h0.size) (O0 : Old Z n0 h0) (S1 : Sta Z Z.heap "java/lang/String" "COMPACT_STRINGS" "Z" (.int cz)) (P5 : ¬ cz = (0 : Int32)) (E1 : Exa Z h0 a1 "java/lang/String") (F1 : Fld Z h0 a1 "java/lang/String" "coder" "B" (.int (0 : Int32))) (F2 : Fld Z h0 a1 "java/lang/String" "value" "[B" (.ref t)) (Va : Arv Z h0 t kt .byte N (ds.map Value.int) (.int 0)) :
    MetFree l (⟨"java/lang/String", "length", "()I"⟩ : MethodName) (head1 (Jvm.Cond.code (⟨"java/lang/String", "length", "()I"⟩ : MethodName) jdk_42_method_54_code 1 (some .int) :: ws) ({ frames := 1, cells := 0, slots := 0, locals := 13 } : Room)) (fun aq Uq => aq = #[(.ref a1)] ∧ Z.Warmed39 Uq.vm ∧ Uq.heap = h0) (fun _ _ _ _ _ => True) (fun _ Uq oq Uq' => ∃ vq Lq, oq = .returned vq ∧ own_Q_len Z a1 cz t kt N ds h0 n0 vq Uq'.heap Lq ∧ FrameEnd Uq oq Uq' Lq ({ frames := 1, cells := 0, slots := 0, locals := 13 } : Room).cells ({ frames := 1, cells := 0, slots := 0, locals := 13 } : Room).slots) := by
  refine MetFree.of_bodySF (plainFor_of_name own_pn0) hisR ?_
  intro p e s m args below meth cde s₁ Bd hml0 hP hK
  obtain ⟨rfl, hZ, hh⟩ := hP
  have hx := Bd.exec
  have hby := Bd.bytes
  have hml : cde.maxLocals = 1 := hml0
  have hown : s.vm.findClass "java/lang/String" = some m.cls := findClass_of_methodNamed Bd.named
  have hnm := (name_of_methodNamed Bd.named Bd.method).1
  have X0 : Stand p l e ({ frames := 1, cells := 0, slots := 0, locals := 13 } : Room) s m #[(.ref a1)] below meth cde s₁ [] 0 0 := Stand.of_body Bd
  have e0 : s₁.heap = h0 := by rw [← hh, Bd.state]; rfl
  have N0 := Fr.nil n0
  show own_Fin p e s below (own_Q_len Z a1 cz t kt N ds h0 n0) ({ frames := 1, cells := 0, slots := 0, locals := 13 } : Room).cells ({ frames := 1, cells := 0, slots := 0, locals := 13 } : Room).slots s₁ (entryFrame m #[(.ref a1)] 1)
  rw [own_ef_len m a1]
  refine own_via (fun _ k => XS.aloadN X0.here hx rfl (hb hby own_d_jdk_42_54_0) rfl rfl k) ?_
  show own_Fin _ _ _ _ _ _ _ s₁ (mkF m 1 #[.val (.ref a1)] [(.ref a1)])
  obtain ⟨T1_, X1_, e1_, st1_⟩ := getF X0 hx hZ hown (host := "") (Or.inl (hw _ (List.mem_of_getElem? (i := 27) rfl))) Via.refl e0 F2 (g := (mkF m 1 #[.val (.ref a1)] [(.ref a1)])) rfl rfl (hb hby own_d_jdk_42_54_1)
  refine own_via (fun _ k => st1_ _ k) ?_
  show own_Fin _ _ _ _ _ _ _ T1_ (mkF m 4 #[.val (.ref a1)] [(.ref t)])
  obtain ⟨c2_, Ar2_, -, S2_, M2_, -, -⟩ := (id Va)
  refine own_via (fun _ k => X1_.arraylength hx (by rw [e1_]; exact Ar2_.1) (State.isArrayOf_alike hZ.alike Ar2_.2.1) (g := (mkF m 4 #[.val (.ref a1)] [(.ref t)])) rfl rfl (hb hby own_d_jdk_42_54_4) _ (by rw [len_of S2_ M2_]; exact k)) ?_
  show own_Fin _ _ _ _ _ _ _ T1_ (mkF m 5 #[.val (.ref a1)] [(.int N)])
  refine own_via (fun _ k => XS.aloadN X1_.here hx rfl (hb hby own_d_jdk_42_54_5) rfl rfl k) ?_
  show own_Fin _ _ _ _ _ _ _ T1_ (mkF m 6 #[.val (.ref a1)] [(.ref a1), (.int N)])
  obtain ⟨cq3_, kq3_, q3_a, q3_b, q3_c⟩ := isOf hZ e1_ E1
  obtain ⟨_, _, ⟨T3_, L3_, k3_, n3_⟩, -, X3_, ⟨Lc3_, hQ3_, l3_, y3_, z3_⟩, st3_⟩ := X1_.virtualBack hx (y := (⟨"java/lang/String", "coder", "()B"⟩ : MethodName)) (z := (⟨"java/lang/String", "coder", "()B"⟩ : MethodName)) hown (mvT hZ (hw _ (List.mem_of_getElem? (i := 69) rfl))) (mvT hZ (hw _ (List.mem_of_getElem? (i := 70) rfl))) (notFace_of_selects (args := #[]) (mvT hZ (hw _ (List.mem_of_getElem? (i := 72) rfl)))) (mvT hZ (hw _ (List.mem_of_getElem? (i := 72) rfl))) (mvT hZ (hw _ (List.mem_of_getElem? (i := 71) rfl))) (by decide) (backOf (W := 1) (own_rm_coder l Z a0 hw [] a1 cz h0 n0 Z0 O0 S1 (by first | assumption | decide) F1) hZ (hw _ (List.mem_of_getElem? (i := 73) rfl)) (hw _ (List.mem_of_getElem? (i := 9) rfl)) (by decide) (by decide)) q3_a q3_c (g := (mkF m 6 #[.val (.ref a1)] [(.ref a1), (.int N)])) rfl (by rw [hml]; rfl) (Steps.refl _) (argsL := []) (rest := [(.int N)]) (lenOf own_pd0 rfl) rfl (by show 2 * 0 + _ ≤ _; exact Nat.le_of_eq rfl) (hb hby own_d_jdk_42_54_6) (fun _ _ => ⟨rfl, e1_, (by decide : 0 + 0 ≤ _), (by decide : 0 + 0 ≤ _)⟩)
  dsimp only [Pt.U, Pt.locs, Pt.cells, Pt.slots] at X3_ l3_ y3_ z3_ st3_ hQ3_
  subst l3_ y3_ z3_
  obtain ⟨rfl, Nq3_, hh3_⟩ := hQ3_
  have N3_ := Fr.app N0 Nq3_
  refine own_via (fun _ k => st3_.trans k) ?_
  show own_Fin _ _ _ _ _ _ _ T3_ (mkF m 9 #[.val (.ref a1)] [(.int (0 : Int32)), (.int N)])
  refine own_via (fun _ k => XS.ishr X3_.here hx rfl (hb hby own_d_jdk_42_54_9) rfl k) ?_
  show own_Fin _ _ _ _ _ _ _ T3_ (mkF m 10 #[.val (.ref a1)] [(.int (N >>> ((0 : Int32) &&& 31)))])
  exact own_retI X3_ hx Bd.returns Bd.notSynchronized (hb hby own_d_jdk_42_54_10) hh3_ (own_shr0 _) ⟨rfl, N3_, rfl⟩ (by decide) (by decide)
theorem own_d_jdk_42_55_0 : decode jdk_42_method_55_code 0 = .ok (.aload_n 0, 1) := by decide +kernel
theorem own_d_jdk_42_55_1 : decode jdk_42_method_55_code 1 = .ok (.getfield 9, 3) := by decide +kernel
theorem own_d_jdk_42_55_4 : decode jdk_42_method_55_code 4 = .ok (.arraylength, 1) := by decide +kernel
theorem own_d_jdk_42_55_5 : decode jdk_42_method_55_code 5 = .ok (.ifCond .ne 7, 3) := by decide +kernel
theorem own_d_jdk_42_55_12 : decode jdk_42_method_55_code 12 = .ok (.iconst 0, 1) := by decide +kernel
theorem own_d_jdk_42_55_13 : decode jdk_42_method_55_code 13 = .ok (.ireturn, 1) := by decide +kernel
theorem own_ef_emp (m : MethodId) (a1 : Addr) : entryFrame m #[(.ref a1)] 1 = mkF m 0 #[.val (.ref a1)] [] := by (first | (simp [entryFrame, mkF, argsToLocals, Value.category]; done) | rfl)
def own_Q_emp (Z : State) (a1 : Addr) (t : Addr) (kt : ClassId) (N : Int32) (ds : List Int32) (h0 : Heap) (n0 : Nat) (vq : Option Value) (h : Heap) (Lq : List Loc) : Prop := (vq = some (.int (0 : Int32))) ∧ (Fr n0 Lq) ∧ (h = h0)
set_option maxRecDepth 65536 in
set_option maxHeartbeats 40000000 in
theorem own_rm_emp (l : Launch) (Z : State) (a0 : Array Value) (hw : ∀ d ∈ tables_1, d.before a0 Z = true) (ws : List Jvm.Cond) (a1 : Addr) (t : Addr) (kt : ClassId) (N : Int32) (ds : List Int32) (h0 : Heap) (n0 : Nat) (Z0 : n0 ≤ h0.size) (F2 : Fld Z h0 a1 "java/lang/String" "value" "[B" (.ref t)) (Va : Arv Z h0 t kt .byte N (ds.map Value.int) (.int 0)) (hz : ¬ N = (0 : Int32)) :
    MetFree l (⟨"java/lang/String", "isEmpty", "()Z"⟩ : MethodName) (head1 (Jvm.Cond.code (⟨"java/lang/String", "isEmpty", "()Z"⟩ : MethodName) jdk_42_method_55_code 1 (some .boolean) :: ws) ({ frames := 0, cells := 0, slots := 0, locals := 0 } : Room)) (fun aq Uq => aq = #[(.ref a1)] ∧ Z.Warmed39 Uq.vm ∧ Uq.heap = h0) (fun _ _ _ _ _ => True) (fun _ Uq oq Uq' => ∃ vq Lq, oq = .returned vq ∧ own_Q_emp Z a1 t kt N ds h0 n0 vq Uq'.heap Lq ∧ FrameEnd Uq oq Uq' Lq ({ frames := 0, cells := 0, slots := 0, locals := 0 } : Room).cells ({ frames := 0, cells := 0, slots := 0, locals := 0 } : Room).slots) := by
  refine MetFree.of_bodySF (plainFor_of_name own_pn0) hisR ?_
  intro p e s m args below meth cde s₁ Bd hml0 hP hK
  obtain ⟨rfl, hZ, hh⟩ := hP
  have hx := Bd.exec
  have hby := Bd.bytes
  have hml : cde.maxLocals = 1 := hml0
  have hown : s.vm.findClass "java/lang/String" = some m.cls := findClass_of_methodNamed Bd.named
  have hnm := (name_of_methodNamed Bd.named Bd.method).1
  have X0 : Stand p l e ({ frames := 0, cells := 0, slots := 0, locals := 0 } : Room) s m #[(.ref a1)] below meth cde s₁ [] 0 0 := Stand.of_body Bd
  have e0 : s₁.heap = h0 := by rw [← hh, Bd.state]; rfl
  have N0 := Fr.nil n0
  show own_Fin p e s below (own_Q_emp Z a1 t kt N ds h0 n0) ({ frames := 0, cells := 0, slots := 0, locals := 0 } : Room).cells ({ frames := 0, cells := 0, slots := 0, locals := 0 } : Room).slots s₁ (entryFrame m #[(.ref a1)] 1)
  rw [own_ef_emp m a1]
  refine own_via (fun _ k => XS.aloadN X0.here hx rfl (hb hby own_d_jdk_42_55_0) rfl rfl k) ?_
  show own_Fin _ _ _ _ _ _ _ s₁ (mkF m 1 #[.val (.ref a1)] [(.ref a1)])
  obtain ⟨T1_, X1_, e1_, st1_⟩ := getF X0 hx hZ hown (host := "") (Or.inl (hw _ (List.mem_of_getElem? (i := 27) rfl))) Via.refl e0 F2 (g := (mkF m 1 #[.val (.ref a1)] [(.ref a1)])) rfl rfl (hb hby own_d_jdk_42_55_1)
  refine own_via (fun _ k => st1_ _ k) ?_
  show own_Fin _ _ _ _ _ _ _ T1_ (mkF m 4 #[.val (.ref a1)] [(.ref t)])
  obtain ⟨c2_, Ar2_, -, S2_, M2_, -, -⟩ := (id Va)
  refine own_via (fun _ k => X1_.arraylength hx (by rw [e1_]; exact Ar2_.1) (State.isArrayOf_alike hZ.alike Ar2_.2.1) (g := (mkF m 4 #[.val (.ref a1)] [(.ref t)])) rfl rfl (hb hby own_d_jdk_42_55_4) _ (by rw [len_of S2_ M2_]; exact k)) ?_
  show own_Fin _ _ _ _ _ _ _ T1_ (mkF m 5 #[.val (.ref a1)] [(.int N)])
  refine own_via (fun _ k => XS.ifYes X1_.here hx rfl (pc0 := 5) (pc' := 12) rfl (hb hby own_d_jdk_42_55_5) rfl ((if0 _ _).trans (feq hz).2) (by decide) (by decide) k) ?_
  show own_Fin _ _ _ _ _ _ _ T1_ (mkF m 12 #[.val (.ref a1)] [])
  refine own_via (fun _ k => XS.iconst X1_.here hx rfl (hb hby own_d_jdk_42_55_12) k) ?_
  show own_Fin _ _ _ _ _ _ _ T1_ (mkF m 13 #[.val (.ref a1)] [(.int (0 : Int32))])
  exact own_retN X1_ hx (t := .boolean) Bd.returns Bd.notSynchronized (by simp) (hb hby own_d_jdk_42_55_13) e1_ rfl ⟨rfl, N0, rfl⟩ (by decide) (by decide)
theorem own_d_jdk_42_55_8 : decode jdk_42_method_55_code 8 = .ok (.iconst 1, 1) := by decide +kernel
theorem own_d_jdk_42_55_9 : decode jdk_42_method_55_code 9 = .ok (.goto 4, 3) := by decide +kernel
theorem own_ef_emp0 (m : MethodId) (a1 : Addr) : entryFrame m #[(.ref a1)] 1 = mkF m 0 #[.val (.ref a1)] [] := by (first | (simp [entryFrame, mkF, argsToLocals, Value.category]; done) | rfl)
def own_Q_emp0 (Z : State) (a1 : Addr) (t : Addr) (kt : ClassId) (h0 : Heap) (n0 : Nat) (vq : Option Value) (h : Heap) (Lq : List Loc) : Prop := (vq = some (.int (1 : Int32))) ∧ (Fr n0 Lq) ∧ (h = h0)
set_option maxRecDepth 65536 in
set_option maxHeartbeats 40000000 in
theorem own_rm_emp0 (l : Launch) (Z : State) (a0 : Array Value) (hw : ∀ d ∈ tables_1, d.before a0 Z = true) (ws : List Jvm.Cond) (a1 : Addr) (t : Addr) (kt : ClassId) (h0 : Heap) (n0 : Nat) (Z0 : n0 ≤ h0.size) (F2 : Fld Z h0 a1 "java/lang/String" "value" "[B" (.ref t)) (Va : Arv Z h0 t kt .byte (0 : Int32) ([]) (.int 0)) :
    MetFree l (⟨"java/lang/String", "isEmpty", "()Z"⟩ : MethodName) (head1 (Jvm.Cond.code (⟨"java/lang/String", "isEmpty", "()Z"⟩ : MethodName) jdk_42_method_55_code 1 (some .boolean) :: ws) ({ frames := 0, cells := 0, slots := 0, locals := 0 } : Room)) (fun aq Uq => aq = #[(.ref a1)] ∧ Z.Warmed39 Uq.vm ∧ Uq.heap = h0) (fun _ _ _ _ _ => True) (fun _ Uq oq Uq' => ∃ vq Lq, oq = .returned vq ∧ own_Q_emp0 Z a1 t kt h0 n0 vq Uq'.heap Lq ∧ FrameEnd Uq oq Uq' Lq ({ frames := 0, cells := 0, slots := 0, locals := 0 } : Room).cells ({ frames := 0, cells := 0, slots := 0, locals := 0 } : Room).slots) := by
  refine MetFree.of_bodySF (plainFor_of_name own_pn0) hisR ?_
  intro p e s m args below meth cde s₁ Bd hml0 hP hK
  obtain ⟨rfl, hZ, hh⟩ := hP
  have hx := Bd.exec
  have hby := Bd.bytes
  have hml : cde.maxLocals = 1 := hml0
  have hown : s.vm.findClass "java/lang/String" = some m.cls := findClass_of_methodNamed Bd.named
  have hnm := (name_of_methodNamed Bd.named Bd.method).1
  have X0 : Stand p l e ({ frames := 0, cells := 0, slots := 0, locals := 0 } : Room) s m #[(.ref a1)] below meth cde s₁ [] 0 0 := Stand.of_body Bd
  have e0 : s₁.heap = h0 := by rw [← hh, Bd.state]; rfl
  have N0 := Fr.nil n0
  show own_Fin p e s below (own_Q_emp0 Z a1 t kt h0 n0) ({ frames := 0, cells := 0, slots := 0, locals := 0 } : Room).cells ({ frames := 0, cells := 0, slots := 0, locals := 0 } : Room).slots s₁ (entryFrame m #[(.ref a1)] 1)
  rw [own_ef_emp0 m a1]
  refine own_via (fun _ k => XS.aloadN X0.here hx rfl (hb hby own_d_jdk_42_55_0) rfl rfl k) ?_
  show own_Fin _ _ _ _ _ _ _ s₁ (mkF m 1 #[.val (.ref a1)] [(.ref a1)])
  obtain ⟨T1_, X1_, e1_, st1_⟩ := getF X0 hx hZ hown (host := "") (Or.inl (hw _ (List.mem_of_getElem? (i := 27) rfl))) Via.refl e0 F2 (g := (mkF m 1 #[.val (.ref a1)] [(.ref a1)])) rfl rfl (hb hby own_d_jdk_42_55_1)
  refine own_via (fun _ k => st1_ _ k) ?_
  show own_Fin _ _ _ _ _ _ _ T1_ (mkF m 4 #[.val (.ref a1)] [(.ref t)])
  obtain ⟨c2_, Ar2_, -, S2_, M2_, -, -⟩ := (id Va)
  refine own_via (fun _ k => X1_.arraylength hx (by rw [e1_]; exact Ar2_.1) (State.isArrayOf_alike hZ.alike Ar2_.2.1) (g := (mkF m 4 #[.val (.ref a1)] [(.ref t)])) rfl rfl (hb hby own_d_jdk_42_55_4) _ (by rw [len_of S2_ M2_]; exact k)) ?_
  show own_Fin _ _ _ _ _ _ _ T1_ (mkF m 5 #[.val (.ref a1)] [(.int (0 : Int32))])
  refine own_via (fun _ k => XS.ifNo X1_.here hx rfl (hb hby own_d_jdk_42_55_5) rfl ((if0 _ _).trans (teq rfl).2) k) ?_
  show own_Fin _ _ _ _ _ _ _ T1_ (mkF m 8 #[.val (.ref a1)] [])
  refine own_via (fun _ k => XS.iconst X1_.here hx rfl (hb hby own_d_jdk_42_55_8) k) ?_
  show own_Fin _ _ _ _ _ _ _ T1_ (mkF m 9 #[.val (.ref a1)] [(.int (1 : Int32))])
  refine own_via (fun _ k => XS.goto X1_.here hx rfl (pc0 := 9) (pc' := 13) rfl (hb hby own_d_jdk_42_55_9) (by decide) (by decide) k) ?_
  show own_Fin _ _ _ _ _ _ _ T1_ (mkF m 13 #[.val (.ref a1)] [(.int (1 : Int32))])
  exact own_retN X1_ hx (t := .boolean) Bd.returns Bd.notSynchronized (by simp) (hb hby own_d_jdk_42_55_13) e1_ rfl ⟨rfl, N0, rfl⟩ (by decide) (by decide)
theorem own_d_jdk_41_11_0 : decode jdk_41_method_11_code 0 = .ok (.iload_n 0, 1) := by decide +kernel
theorem own_d_jdk_41_11_1 : decode jdk_41_method_11_code 1 = .ok (.ifCond .lt 8, 3) := by decide +kernel
theorem own_d_jdk_41_11_4 : decode jdk_41_method_11_code 4 = .ok (.iload_n 0, 1) := by decide +kernel
theorem own_d_jdk_41_11_5 : decode jdk_41_method_11_code 5 = .ok (.iload_n 1, 1) := by decide +kernel
theorem own_d_jdk_41_11_6 : decode jdk_41_method_11_code 6 = .ok (.if_icmp .lt 10, 3) := by decide +kernel
theorem own_d_jdk_41_11_16 : decode jdk_41_method_11_code 16 = .ok (.iload_n 0, 1) := by decide +kernel
theorem own_d_jdk_41_11_17 : decode jdk_41_method_11_code 17 = .ok (.ireturn, 1) := by decide +kernel
theorem own_pn1 : plainName "jdk/internal/util/Preconditions" = true := by first | (simp [plainName, overriddenIn]; done) | decide +kernel
theorem own_ef_chkP (m : MethodId) (i : Int32) (n : Int32) (fm : Value) (r_fm : fm.isRef = true) : entryFrame m #[(.int i), (.int n), fm] 3 = mkF m 0 #[.val (.int i), .val (.int n), .val fm] [] := by cases fm <;> first | (cases r_fm; done) | (first | (simp [entryFrame, mkF, argsToLocals, Value.category]; done) | rfl)
def own_Q_chkP (Z : State) (i : Int32) (n : Int32) (fm : Value) (h0 : Heap) (n0 : Nat) (vq : Option Value) (h : Heap) (Lq : List Loc) : Prop := (vq = some (.int i)) ∧ (Fr n0 Lq) ∧ (h = h0)
set_option maxRecDepth 65536 in
set_option maxHeartbeats 40000000 in
theorem own_rm_chkP (l : Launch) (Z : State) (a0 : Array Value) (hw : ∀ d ∈ tables_1, d.before a0 Z = true) (ws : List Jvm.Cond) (i : Int32) (n : Int32) (fm : Value) (h0 : Heap) (n0 : Nat) (Z0 : n0 ≤ h0.size) (h1 : ¬ i < (0 : Int32)) (h2 : i < n) (r_fm : fm.isRef = true) :
    MetFree l (⟨"jdk/internal/util/Preconditions", "checkIndex", "(IILjava/util/function/BiFunction;)I"⟩ : MethodName) (head1 (Jvm.Cond.code (⟨"jdk/internal/util/Preconditions", "checkIndex", "(IILjava/util/function/BiFunction;)I"⟩ : MethodName) jdk_41_method_11_code 3 (some .int) :: ws) ({ frames := 0, cells := 0, slots := 0, locals := 0 } : Room)) (fun aq Uq => aq = #[(.int i), (.int n), fm] ∧ Z.Warmed39 Uq.vm ∧ Uq.heap = h0) (fun _ _ _ _ _ => True) (fun _ Uq oq Uq' => ∃ vq Lq, oq = .returned vq ∧ own_Q_chkP Z i n fm h0 n0 vq Uq'.heap Lq ∧ FrameEnd Uq oq Uq' Lq ({ frames := 0, cells := 0, slots := 0, locals := 0 } : Room).cells ({ frames := 0, cells := 0, slots := 0, locals := 0 } : Room).slots) := by
  refine MetFree.of_bodySF (plainFor_of_name own_pn1) hisR ?_
  intro p e s m args below meth cde s₁ Bd hml0 hP hK
  obtain ⟨rfl, hZ, hh⟩ := hP
  have hx := Bd.exec
  have hby := Bd.bytes
  have hml : cde.maxLocals = 3 := hml0
  have hown : s.vm.findClass "jdk/internal/util/Preconditions" = some m.cls := findClass_of_methodNamed Bd.named
  have hnm := (name_of_methodNamed Bd.named Bd.method).1
  have X0 : Stand p l e ({ frames := 0, cells := 0, slots := 0, locals := 0 } : Room) s m #[(.int i), (.int n), fm] below meth cde s₁ [] 0 0 := Stand.of_body Bd
  have e0 : s₁.heap = h0 := by rw [← hh, Bd.state]; rfl
  have N0 := Fr.nil n0
  show own_Fin p e s below (own_Q_chkP Z i n fm h0 n0) ({ frames := 0, cells := 0, slots := 0, locals := 0 } : Room).cells ({ frames := 0, cells := 0, slots := 0, locals := 0 } : Room).slots s₁ (entryFrame m #[(.int i), (.int n), fm] 3)
  rw [own_ef_chkP m i n fm r_fm]
  refine own_via (fun _ k => XS.iloadN X0.here hx rfl (hb hby own_d_jdk_41_11_0) rfl k) ?_
  show own_Fin _ _ _ _ _ _ _ s₁ (mkF m 1 #[.val (.int i), .val (.int n), .val fm] [(.int i)])
  refine own_via (fun _ k => XS.ifNo X0.here hx rfl (hb hby own_d_jdk_41_11_1) rfl ((if0 _ _).trans (flt h1).1) k) ?_
  show own_Fin _ _ _ _ _ _ _ s₁ (mkF m 4 #[.val (.int i), .val (.int n), .val fm] [])
  refine own_via (fun _ k => XS.iloadN X0.here hx rfl (hb hby own_d_jdk_41_11_4) rfl k) ?_
  show own_Fin _ _ _ _ _ _ _ s₁ (mkF m 5 #[.val (.int i), .val (.int n), .val fm] [(.int i)])
  refine own_via (fun _ k => XS.iloadN X0.here hx rfl (hb hby own_d_jdk_41_11_5) rfl k) ?_
  show own_Fin _ _ _ _ _ _ _ s₁ (mkF m 6 #[.val (.int i), .val (.int n), .val fm] [(.int n), (.int i)])
  refine own_via (fun _ k => XS.icmpYes X0.here hx rfl (pc0 := 6) (pc' := 16) rfl (hb hby own_d_jdk_41_11_6) rfl (tlt h2).1 (by decide) (by decide) k) ?_
  show own_Fin _ _ _ _ _ _ _ s₁ (mkF m 16 #[.val (.int i), .val (.int n), .val fm] [])
  refine own_via (fun _ k => XS.iloadN X0.here hx rfl (hb hby own_d_jdk_41_11_16) rfl k) ?_
  show own_Fin _ _ _ _ _ _ _ s₁ (mkF m 17 #[.val (.int i), .val (.int n), .val fm] [(.int i)])
  exact own_retI X0 hx Bd.returns Bd.notSynchronized (hb hby own_d_jdk_41_11_17) e0 rfl ⟨rfl, N0, rfl⟩ (by decide) (by decide)
theorem own_d_jdk_42_155_0 : decode jdk_42_method_155_code 0 = .ok (.iload_n 0, 1) := by decide +kernel
theorem own_d_jdk_42_155_1 : decode jdk_42_method_155_code 1 = .ok (.iload_n 1, 1) := by decide +kernel
theorem own_d_jdk_42_155_2 : decode jdk_42_method_155_code 2 = .ok (.getstatic 1053, 3) := by decide +kernel
theorem own_d_jdk_42_155_5 : decode jdk_42_method_155_code 5 = .ok (.invokestatic 1059, 3) := by decide +kernel
theorem own_pd1 : parseMethodDescriptor "(IILjava/util/function/BiFunction;)I" = some ⟨[.int, .int, (.object "java/util/function/BiFunction")], some .int⟩ := by decide +kernel
theorem own_d_jdk_42_155_8 : decode jdk_42_method_155_code 8 = .ok (.pop, 1) := by decide +kernel
theorem own_d_jdk_42_155_9 : decode jdk_42_method_155_code 9 = .ok (.return_, 1) := by decide +kernel
theorem own_ef_chk (m : MethodId) (i : Int32) (n : Int32) : entryFrame m #[(.int i), (.int n)] 2 = mkF m 0 #[.val (.int i), .val (.int n)] [] := by (first | (simp [entryFrame, mkF, argsToLocals, Value.category]; done) | rfl)
def own_Q_chk (Z : State) (i : Int32) (n : Int32) (fm : Value) (h0 : Heap) (n0 : Nat) (vq : Option Value) (h : Heap) (Lq : List Loc) : Prop := (vq = none) ∧ (Fr n0 Lq) ∧ (h = h0)
set_option maxRecDepth 65536 in
set_option maxHeartbeats 40000000 in
theorem own_rm_chk (l : Launch) (Z : State) (a0 : Array Value) (hw : ∀ d ∈ tables_1, d.before a0 Z = true) (ws : List Jvm.Cond) (i : Int32) (n : Int32) (fm : Value) (h0 : Heap) (n0 : Nat) (Z0 : n0 ≤ h0.size) (O0 : Old Z n0 h0) (S2 : Sta Z Z.heap "jdk/internal/util/Preconditions" "SIOOBE_FORMATTER" "Ljava/util/function/BiFunction;" fm) (r_fm : fm.isRef = true) (h1 : ¬ i < (0 : Int32)) (h2 : i < n) :
    MetFree l (⟨"java/lang/String", "checkIndex", "(II)V"⟩ : MethodName) (head1 (Jvm.Cond.code (⟨"java/lang/String", "checkIndex", "(II)V"⟩ : MethodName) jdk_42_method_155_code 2 none :: ws) ({ frames := 1, cells := 0, slots := 0, locals := 14 } : Room)) (fun aq Uq => aq = #[(.int i), (.int n)] ∧ Z.Warmed39 Uq.vm ∧ Uq.heap = h0) (fun _ _ _ _ _ => True) (fun _ Uq oq Uq' => ∃ vq Lq, oq = .returned vq ∧ own_Q_chk Z i n fm h0 n0 vq Uq'.heap Lq ∧ FrameEnd Uq oq Uq' Lq ({ frames := 1, cells := 0, slots := 0, locals := 14 } : Room).cells ({ frames := 1, cells := 0, slots := 0, locals := 14 } : Room).slots) := by
  refine MetFree.of_bodySF (plainFor_of_name own_pn0) hisR ?_
  intro p e s m args below meth cde s₁ Bd hml0 hP hK
  obtain ⟨rfl, hZ, hh⟩ := hP
  have hx := Bd.exec
  have hby := Bd.bytes
  have hml : cde.maxLocals = 2 := hml0
  have hown : s.vm.findClass "java/lang/String" = some m.cls := findClass_of_methodNamed Bd.named
  have hnm := (name_of_methodNamed Bd.named Bd.method).1
  have X0 : Stand p l e ({ frames := 1, cells := 0, slots := 0, locals := 14 } : Room) s m #[(.int i), (.int n)] below meth cde s₁ [] 0 0 := Stand.of_body Bd
  have e0 : s₁.heap = h0 := by rw [← hh, Bd.state]; rfl
  have N0 := Fr.nil n0
  show own_Fin p e s below (own_Q_chk Z i n fm h0 n0) ({ frames := 1, cells := 0, slots := 0, locals := 14 } : Room).cells ({ frames := 1, cells := 0, slots := 0, locals := 14 } : Room).slots s₁ (entryFrame m #[(.int i), (.int n)] 2)
  rw [own_ef_chk m i n]
  refine own_via (fun _ k => XS.iloadN X0.here hx rfl (hb hby own_d_jdk_42_155_0) rfl k) ?_
  show own_Fin _ _ _ _ _ _ _ s₁ (mkF m 1 #[.val (.int i), .val (.int n)] [(.int i)])
  refine own_via (fun _ k => XS.iloadN X0.here hx rfl (hb hby own_d_jdk_42_155_1) rfl k) ?_
  show own_Fin _ _ _ _ _ _ _ s₁ (mkF m 2 #[.val (.int i), .val (.int n)] [(.int n), (.int i)])
  obtain ⟨T1_, X1_, e1_, st1_⟩ := getS2 X0 hx hZ hown (host := "") (Or.inl (hw _ (List.mem_of_getElem? (i := 102) rfl))) Via.refl e0 (S2.ext O0.2) (g := (mkF m 2 #[.val (.int i), .val (.int n)] [(.int n), (.int i)])) rfl (hb hby own_d_jdk_42_155_2)
  refine own_via (fun _ k => st1_ _ k) ?_
  show own_Fin _ _ _ _ _ _ _ T1_ (mkF m 5 #[.val (.int i), .val (.int n)] [fm, (.int n), (.int i)])
  obtain ⟨_, _, ⟨T2_, L2_, k2_, n2_⟩, -, X2_, ⟨Lc2_, hQ2_, l2_, y2_, z2_⟩, st2_⟩ := Jvm.LawKit.callS X1_ hx (y := (⟨"jdk/internal/util/Preconditions", "checkIndex", "(IILjava/util/function/BiFunction;)I"⟩ : MethodName)) hown (mvT hZ (hw _ (List.mem_of_getElem? (i := 104) rfl))) (mvT hZ (hw _ (List.mem_of_getElem? (i := 105) rfl))) (mvT hZ (hw _ (List.mem_of_getElem? (i := 103) rfl))) (mvT hZ (hw _ (List.mem_of_getElem? (i := 106) rfl))) (by decide) (backOf (W := 0) (own_rm_chkP l Z a0 hw [] i n fm h0 n0 Z0 h1 h2 r_fm) hZ (hw _ (List.mem_of_getElem? (i := 106) rfl)) (hw _ (List.mem_of_getElem? (i := 103) rfl)) (by decide) (by decide)) (g := (mkF m 5 #[.val (.int i), .val (.int n)] [fm, (.int n), (.int i)])) rfl (by rw [hml]; rfl) (argsL := [(.int i), (.int n), fm]) (rest := []) (lenOf own_pd1 rfl) rfl (by show 2 * 0 + _ ≤ _; exact Nat.le_of_eq rfl) (hb hby own_d_jdk_42_155_5) (fun _ _ => ⟨rfl, e1_, (by decide : 0 + 0 ≤ _), (by decide : 0 + 0 ≤ _)⟩)
  dsimp only [Pt.U, Pt.locs, Pt.cells, Pt.slots] at X2_ l2_ y2_ z2_ st2_ hQ2_
  subst l2_ y2_ z2_
  obtain ⟨rfl, Nq2_, hh2_⟩ := hQ2_
  have N2_ := Fr.app N0 Nq2_
  refine own_via (fun _ k => st2_ _ k) ?_
  show own_Fin _ _ _ _ _ _ _ T2_ (mkF m 8 #[.val (.int i), .val (.int n)] [(.int i)])
  refine own_via (fun _ k => XS.pop X2_.here hx rfl (hb hby own_d_jdk_42_155_8) rfl rfl k) ?_
  show own_Fin _ _ _ _ _ _ _ T2_ (mkF m 9 #[.val (.int i), .val (.int n)] [])
  exact own_ret0 X2_ hx Bd.returns Bd.notSynchronized (hb hby own_d_jdk_42_155_9) hh2_ ⟨rfl, N2_, rfl⟩ (by decide) (by decide)
theorem own_d_jdk_43_2_0 : decode jdk_43_method_2_code 0 = .ok (.iload_n 1, 1) := by decide +kernel
theorem own_d_jdk_43_2_1 : decode jdk_43_method_2_code 1 = .ok (.aload_n 0, 1) := by decide +kernel
theorem own_d_jdk_43_2_2 : decode jdk_43_method_2_code 2 = .ok (.arraylength, 1) := by decide +kernel
theorem own_d_jdk_43_2_3 : decode jdk_43_method_2_code 3 = .ok (.invokestatic 9, 3) := by decide +kernel
theorem own_pd2 : parseMethodDescriptor "(II)V" = some ⟨[.int, .int], none⟩ := by decide +kernel
theorem own_d_jdk_43_2_6 : decode jdk_43_method_2_code 6 = .ok (.aload_n 0, 1) := by decide +kernel
theorem own_d_jdk_43_2_7 : decode jdk_43_method_2_code 7 = .ok (.iload_n 1, 1) := by decide +kernel
theorem own_d_jdk_43_2_8 : decode jdk_43_method_2_code 8 = .ok (.baload, 1) := by decide +kernel
theorem own_d_jdk_43_2_9 : decode jdk_43_method_2_code 9 = .ok (.sipush 255, 3) := by decide +kernel
theorem own_d_jdk_43_2_12 : decode jdk_43_method_2_code 12 = .ok (.iand, 1) := by decide +kernel
theorem own_d_jdk_43_2_13 : decode jdk_43_method_2_code 13 = .ok (.i2c, 1) := by decide +kernel
theorem own_d_jdk_43_2_14 : decode jdk_43_method_2_code 14 = .ok (.ireturn, 1) := by decide +kernel
theorem own_pn2 : plainName "java/lang/StringLatin1" = true := by first | (simp [plainName, overriddenIn]; done) | decide +kernel
theorem own_ef_latCh (m : MethodId) (t : Addr) (j : Int32) : entryFrame m #[(.ref t), (.int j)] 2 = mkF m 0 #[.val (.ref t), .val (.int j)] [] := by (first | (simp [entryFrame, mkF, argsToLocals, Value.category]; done) | rfl)
def own_Q_latCh (Z : State) (t : Addr) (j : Int32) (kt : ClassId) (N : Int32) (ds : List Int32) (fm : Value) (h0 : Heap) (n0 : Nat) (vq : Option Value) (h : Heap) (Lq : List Loc) : Prop := (vq = some (.int ((ds.getD j.toNatClampNeg 0) &&& (255 : Int32)))) ∧ (Fr n0 Lq) ∧ (h = h0)
set_option maxRecDepth 65536 in
set_option maxHeartbeats 40000000 in
theorem own_rm_latCh (l : Launch) (Z : State) (a0 : Array Value) (hw : ∀ d ∈ tables_1, d.before a0 Z = true) (ws : List Jvm.Cond) (t : Addr) (j : Int32) (kt : ClassId) (N : Int32) (ds : List Int32) (fm : Value) (h0 : Heap) (n0 : Nat) (Z0 : n0 ≤ h0.size) (O0 : Old Z n0 h0) (S2 : Sta Z Z.heap "jdk/internal/util/Preconditions" "SIOOBE_FORMATTER" "Ljava/util/function/BiFunction;" fm) (r_fm : fm.isRef = true) (Va : Arv Z h0 t kt .byte N (ds.map Value.int) (.int 0)) (h1 : ¬ j < (0 : Int32)) (h2 : j < N) :
    MetFree l (⟨"java/lang/StringLatin1", "charAt", "([BI)C"⟩ : MethodName) (head1 (Jvm.Cond.code (⟨"java/lang/StringLatin1", "charAt", "([BI)C"⟩ : MethodName) jdk_43_method_2_code 2 (some .char) :: ws) ({ frames := 2, cells := 0, slots := 0, locals := 27 } : Room)) (fun aq Uq => aq = #[(.ref t), (.int j)] ∧ Z.Warmed39 Uq.vm ∧ Uq.heap = h0) (fun _ _ _ _ _ => True) (fun _ Uq oq Uq' => ∃ vq Lq, oq = .returned vq ∧ own_Q_latCh Z t j kt N ds fm h0 n0 vq Uq'.heap Lq ∧ FrameEnd Uq oq Uq' Lq ({ frames := 2, cells := 0, slots := 0, locals := 27 } : Room).cells ({ frames := 2, cells := 0, slots := 0, locals := 27 } : Room).slots) := by
  refine MetFree.of_bodySF (plainFor_of_name own_pn2) hisR ?_
  intro p e s m args below meth cde s₁ Bd hml0 hP hK
  obtain ⟨rfl, hZ, hh⟩ := hP
  have hx := Bd.exec
  have hby := Bd.bytes
  have hml : cde.maxLocals = 2 := hml0
  have hown : s.vm.findClass "java/lang/StringLatin1" = some m.cls := findClass_of_methodNamed Bd.named
  have hnm := (name_of_methodNamed Bd.named Bd.method).1
  have X0 : Stand p l e ({ frames := 2, cells := 0, slots := 0, locals := 27 } : Room) s m #[(.ref t), (.int j)] below meth cde s₁ [] 0 0 := Stand.of_body Bd
  have e0 : s₁.heap = h0 := by rw [← hh, Bd.state]; rfl
  have N0 := Fr.nil n0
  show own_Fin p e s below (own_Q_latCh Z t j kt N ds fm h0 n0) ({ frames := 2, cells := 0, slots := 0, locals := 27 } : Room).cells ({ frames := 2, cells := 0, slots := 0, locals := 27 } : Room).slots s₁ (entryFrame m #[(.ref t), (.int j)] 2)
  rw [own_ef_latCh m t j]
  refine own_via (fun _ k => XS.iloadN X0.here hx rfl (hb hby own_d_jdk_43_2_0) rfl k) ?_
  show own_Fin _ _ _ _ _ _ _ s₁ (mkF m 1 #[.val (.ref t), .val (.int j)] [(.int j)])
  refine own_via (fun _ k => XS.aloadN X0.here hx rfl (hb hby own_d_jdk_43_2_1) rfl rfl k) ?_
  show own_Fin _ _ _ _ _ _ _ s₁ (mkF m 2 #[.val (.ref t), .val (.int j)] [(.ref t), (.int j)])
  obtain ⟨c1_, Ar1_, -, S1_, M1_, -, -⟩ := (id Va)
  refine own_via (fun _ k => X0.arraylength hx (by rw [e0]; exact Ar1_.1) (State.isArrayOf_alike hZ.alike Ar1_.2.1) (g := (mkF m 2 #[.val (.ref t), .val (.int j)] [(.ref t), (.int j)])) rfl rfl (hb hby own_d_jdk_43_2_2) _ (by rw [len_of S1_ M1_]; exact k)) ?_
  show own_Fin _ _ _ _ _ _ _ s₁ (mkF m 3 #[.val (.ref t), .val (.int j)] [(.int N), (.int j)])
  obtain ⟨_, _, ⟨T2_, L2_, k2_, n2_⟩, -, X2_, ⟨Lc2_, hQ2_, l2_, y2_, z2_⟩, st2_⟩ := Jvm.LawKit.callS X0 hx (y := (⟨"java/lang/String", "checkIndex", "(II)V"⟩ : MethodName)) hown (mvT hZ (hw _ (List.mem_of_getElem? (i := 99) rfl))) (mvT hZ (hw _ (List.mem_of_getElem? (i := 100) rfl))) (mvT hZ (hw _ (List.mem_of_getElem? (i := 9) rfl))) (mvT hZ (hw _ (List.mem_of_getElem? (i := 101) rfl))) (by decide) (backOf (W := 0) (own_rm_chk l Z a0 hw [] j N fm h0 n0 Z0 O0 S2 r_fm h1 h2) hZ (hw _ (List.mem_of_getElem? (i := 101) rfl)) (hw _ (List.mem_of_getElem? (i := 9) rfl)) (by decide) (by decide)) (g := (mkF m 3 #[.val (.ref t), .val (.int j)] [(.int N), (.int j)])) rfl (by rw [hml]; rfl) (argsL := [(.int j), (.int N)]) (rest := []) (lenOf own_pd2 rfl) rfl (by show 2 * 0 + _ ≤ _; exact Nat.le_of_eq rfl) (hb hby own_d_jdk_43_2_3) (fun _ _ => ⟨rfl, e0, (by decide : 0 + 0 ≤ _), (by decide : 0 + 0 ≤ _)⟩)
  dsimp only [Pt.U, Pt.locs, Pt.cells, Pt.slots] at X2_ l2_ y2_ z2_ st2_ hQ2_
  subst l2_ y2_ z2_
  obtain ⟨rfl, Nq2_, hh2_⟩ := hQ2_
  have N2_ := Fr.app N0 Nq2_
  refine own_via (fun _ k => st2_ _ k) ?_
  show own_Fin _ _ _ _ _ _ _ T2_ (mkF m 6 #[.val (.ref t), .val (.int j)] [])
  refine own_via (fun _ k => XS.aloadN X2_.here hx rfl (hb hby own_d_jdk_43_2_6) rfl rfl k) ?_
  show own_Fin _ _ _ _ _ _ _ T2_ (mkF m 7 #[.val (.ref t), .val (.int j)] [(.ref t)])
  refine own_via (fun _ k => XS.iloadN X2_.here hx rfl (hb hby own_d_jdk_43_2_7) rfl k) ?_
  show own_Fin _ _ _ _ _ _ _ T2_ (mkF m 8 #[.val (.ref t), .val (.int j)] [(.int j), (.ref t)])
  obtain ⟨c3_, Ar3_, q3_, S3_, M3_, H3_, G3_⟩ := (id Va)
  have hin3_ : ¬ (j < 0 ∨ c3_.slots.size ≤ (j).toNatClampNeg) := inb_of S3_ ⟨h1, h2⟩
  have hat3_ : c3_.slots[(j).toNatClampNeg]? = some (.int (ds.getD j.toNatClampNeg 0)) := H3_.at hin3_ own_getD
  refine own_via (fun _ k => X2_.baloadBytes hx (j := j) (v := (.int (ds.getD j.toNatClampNeg 0))) (by rw [hh2_]; exact Ar3_.1) (State.isArrayOf_alike hZ.alike Ar3_.2.1) Ar3_.2.2 hin3_ hat3_ (g := (mkF m 8 #[.val (.ref t), .val (.int j)] [(.int j), (.ref t)])) rfl rfl (hb hby own_d_jdk_43_2_8) _ k) ?_
  show own_Fin _ _ _ _ _ _ _ T2_ (mkF m 9 #[.val (.ref t), .val (.int j)] [(.int (ds.getD j.toNatClampNeg 0))])
  refine own_via (fun _ k => XS.sipush X2_.here hx rfl (hb hby own_d_jdk_43_2_9) k) ?_
  show own_Fin _ _ _ _ _ _ _ T2_ (mkF m 12 #[.val (.ref t), .val (.int j)] [(.int (255 : Int32)), (.int (ds.getD j.toNatClampNeg 0))])
  refine own_via (fun _ k => XS.iand X2_.here hx rfl (hb hby own_d_jdk_43_2_12) rfl k) ?_
  show own_Fin _ _ _ _ _ _ _ T2_ (mkF m 13 #[.val (.ref t), .val (.int j)] [(.int ((ds.getD j.toNatClampNeg 0) &&& (255 : Int32)))])
  refine own_via (fun _ k => XS.i2c X2_.here hx rfl (hb hby own_d_jdk_43_2_13) rfl k) ?_
  show own_Fin _ _ _ _ _ _ _ T2_ (mkF m 14 #[.val (.ref t), .val (.int j)] [(.int (((ds.getD j.toNatClampNeg 0) &&& (255 : Int32)).toUInt32.toUInt16.toUInt32.toInt32))])
  exact own_retN X2_ hx (t := .char) Bd.returns Bd.notSynchronized (by simp) (hb hby own_d_jdk_43_2_14) hh2_ (own_dbl _) ⟨rfl, N2_, rfl⟩ (by decide) (by decide)
theorem own_d_jdk_42_56_0 : decode jdk_42_method_56_code 0 = .ok (.aload_n 0, 1) := by decide +kernel
theorem own_d_jdk_42_56_1 : decode jdk_42_method_56_code 1 = .ok (.invokevirtual 492, 3) := by decide +kernel
theorem own_pd3 : parseMethodDescriptor "()Z" = some ⟨[], some .boolean⟩ := by decide +kernel
theorem own_d_jdk_42_56_4 : decode jdk_42_method_56_code 4 = .ok (.ifCond .eq 12, 3) := by decide +kernel
theorem own_d_jdk_42_56_7 : decode jdk_42_method_56_code 7 = .ok (.aload_n 0, 1) := by decide +kernel
theorem own_d_jdk_42_56_8 : decode jdk_42_method_56_code 8 = .ok (.getfield 9, 3) := by decide +kernel
theorem own_d_jdk_42_56_11 : decode jdk_42_method_56_code 11 = .ok (.iload_n 1, 1) := by decide +kernel
theorem own_d_jdk_42_56_12 : decode jdk_42_method_56_code 12 = .ok (.invokestatic 495, 3) := by decide +kernel
theorem own_pd4 : parseMethodDescriptor "([BI)C" = some ⟨[(.array .byte), .int], some .char⟩ := by decide +kernel
theorem own_d_jdk_42_56_15 : decode jdk_42_method_56_code 15 = .ok (.ireturn, 1) := by decide +kernel
theorem own_ef_chA (m : MethodId) (a1 : Addr) (j : Int32) : entryFrame m #[(.ref a1), (.int j)] 2 = mkF m 0 #[.val (.ref a1), .val (.int j)] [] := by (first | (simp [entryFrame, mkF, argsToLocals, Value.category]; done) | rfl)
def own_Q_chA (Z : State) (a1 : Addr) (cz : Int32) (t : Addr) (kt : ClassId) (N : Int32) (ds : List Int32) (j : Int32) (fm : Value) (h0 : Heap) (n0 : Nat) (vq : Option Value) (h : Heap) (Lq : List Loc) : Prop := (vq = some (.int ((ds.getD j.toNatClampNeg 0) &&& (255 : Int32)))) ∧ (Fr n0 Lq) ∧ (h = h0)
set_option maxRecDepth 65536 in
set_option maxHeartbeats 40000000 in
theorem own_rm_chA (l : Launch) (Z : State) (a0 : Array Value) (hw : ∀ d ∈ tables_1, d.before a0 Z = true) (ws : List Jvm.Cond) (a1 : Addr) (cz : Int32) (t : Addr) (kt : ClassId) (N : Int32) (ds : List Int32) (j : Int32) (fm : Value) (h0 : Heap) (n0 : Nat) (Z0 : n0 ≤ h0.size) (O0 : Old Z n0 h0) (S1 : Sta Z Z.heap "java/lang/String" "COMPACT_STRINGS" "Z" (.int cz)) (P5 : ¬ cz = (0 : Int32)) (E1 : Exa Z h0 a1 "java/lang/String") (F1 : Fld Z h0 a1 "java/lang/String" "coder" "B" (.int (0 : Int32))) (F2 : Fld Z h0 a1 "java/lang/String" "value" "[B" (.ref t)) (Va : Arv Z h0 t kt .byte N (ds.map Value.int) (.int 0)) (S2 : Sta Z Z.heap "jdk/internal/util/Preconditions" "SIOOBE_FORMATTER" "Ljava/util/function/BiFunction;" fm) (r_fm : fm.isRef = true) (h1 : ¬ j < (0 : Int32)) (h2 : j < N) :
    MetFree l (⟨"java/lang/String", "charAt", "(I)C"⟩ : MethodName) (head1 (Jvm.Cond.code (⟨"java/lang/String", "charAt", "(I)C"⟩ : MethodName) jdk_42_method_56_code 2 (some .char) :: ws) ({ frames := 3, cells := 0, slots := 0, locals := 40 } : Room)) (fun aq Uq => aq = #[(.ref a1), (.int j)] ∧ Z.Warmed39 Uq.vm ∧ Uq.heap = h0) (fun _ _ _ _ _ => True) (fun _ Uq oq Uq' => ∃ vq Lq, oq = .returned vq ∧ own_Q_chA Z a1 cz t kt N ds j fm h0 n0 vq Uq'.heap Lq ∧ FrameEnd Uq oq Uq' Lq ({ frames := 3, cells := 0, slots := 0, locals := 40 } : Room).cells ({ frames := 3, cells := 0, slots := 0, locals := 40 } : Room).slots) := by
  refine MetFree.of_bodySF (plainFor_of_name own_pn0) hisR ?_
  intro p e s m args below meth cde s₁ Bd hml0 hP hK
  obtain ⟨rfl, hZ, hh⟩ := hP
  have hx := Bd.exec
  have hby := Bd.bytes
  have hml : cde.maxLocals = 2 := hml0
  have hown : s.vm.findClass "java/lang/String" = some m.cls := findClass_of_methodNamed Bd.named
  have hnm := (name_of_methodNamed Bd.named Bd.method).1
  have X0 : Stand p l e ({ frames := 3, cells := 0, slots := 0, locals := 40 } : Room) s m #[(.ref a1), (.int j)] below meth cde s₁ [] 0 0 := Stand.of_body Bd
  have e0 : s₁.heap = h0 := by rw [← hh, Bd.state]; rfl
  have N0 := Fr.nil n0
  show own_Fin p e s below (own_Q_chA Z a1 cz t kt N ds j fm h0 n0) ({ frames := 3, cells := 0, slots := 0, locals := 40 } : Room).cells ({ frames := 3, cells := 0, slots := 0, locals := 40 } : Room).slots s₁ (entryFrame m #[(.ref a1), (.int j)] 2)
  rw [own_ef_chA m a1 j]
  refine own_via (fun _ k => XS.aloadN X0.here hx rfl (hb hby own_d_jdk_42_56_0) rfl rfl k) ?_
  show own_Fin _ _ _ _ _ _ _ s₁ (mkF m 1 #[.val (.ref a1), .val (.int j)] [(.ref a1)])
  obtain ⟨cq1_, kq1_, q1_a, q1_b, q1_c⟩ := isOf hZ e0 E1
  obtain ⟨_, _, ⟨T1_, L1_, k1_, n1_⟩, -, X1_, ⟨Lc1_, hQ1_, l1_, y1_, z1_⟩, st1_⟩ := X0.virtualBack hx (y := (⟨"java/lang/String", "isLatin1", "()Z"⟩ : MethodName)) (z := (⟨"java/lang/String", "isLatin1", "()Z"⟩ : MethodName)) hown (mvT hZ (hw _ (List.mem_of_getElem? (i := 59) rfl))) (mvT hZ (hw _ (List.mem_of_getElem? (i := 60) rfl))) (notFace_of_selects (args := #[]) (mvT hZ (hw _ (List.mem_of_getElem? (i := 62) rfl)))) (mvT hZ (hw _ (List.mem_of_getElem? (i := 62) rfl))) (mvT hZ (hw _ (List.mem_of_getElem? (i := 61) rfl))) (by decide) (backOf (W := 0) (own_rm_isLat l Z a0 hw [] a1 cz h0 n0 Z0 O0 S1 (by first | assumption | decide) F1) hZ (hw _ (List.mem_of_getElem? (i := 63) rfl)) (hw _ (List.mem_of_getElem? (i := 9) rfl)) (by decide) (by decide)) q1_a q1_c (g := (mkF m 1 #[.val (.ref a1), .val (.int j)] [(.ref a1)])) rfl (by rw [hml]; rfl) (Steps.refl _) (argsL := []) (rest := []) (lenOf own_pd3 rfl) rfl (by show 2 * 0 + _ ≤ _; exact Nat.le_of_eq rfl) (hb hby own_d_jdk_42_56_1) (fun _ _ => ⟨rfl, e0, (by decide : 0 + 0 ≤ _), (by decide : 0 + 0 ≤ _)⟩)
  dsimp only [Pt.U, Pt.locs, Pt.cells, Pt.slots] at X1_ l1_ y1_ z1_ st1_ hQ1_
  subst l1_ y1_ z1_
  obtain ⟨rfl, Nq1_, hh1_⟩ := hQ1_
  have N1_ := Fr.app N0 Nq1_
  refine own_via (fun _ k => st1_.trans k) ?_
  show own_Fin _ _ _ _ _ _ _ T1_ (mkF m 4 #[.val (.ref a1), .val (.int j)] [(.int (1 : Int32))])
  refine own_via (fun _ k => XS.ifNo X1_.here hx rfl (hb hby own_d_jdk_42_56_4) rfl ((if0 _ _).trans (feq (by decide)).1) k) ?_
  show own_Fin _ _ _ _ _ _ _ T1_ (mkF m 7 #[.val (.ref a1), .val (.int j)] [])
  refine own_via (fun _ k => XS.aloadN X1_.here hx rfl (hb hby own_d_jdk_42_56_7) rfl rfl k) ?_
  show own_Fin _ _ _ _ _ _ _ T1_ (mkF m 8 #[.val (.ref a1), .val (.int j)] [(.ref a1)])
  obtain ⟨T2_, X2_, e2_, st2_⟩ := getF X1_ hx hZ hown (host := "") (Or.inl (hw _ (List.mem_of_getElem? (i := 27) rfl))) Via.refl hh1_ F2 (g := (mkF m 8 #[.val (.ref a1), .val (.int j)] [(.ref a1)])) rfl rfl (hb hby own_d_jdk_42_56_8)
  refine own_via (fun _ k => st2_ _ k) ?_
  show own_Fin _ _ _ _ _ _ _ T2_ (mkF m 11 #[.val (.ref a1), .val (.int j)] [(.ref t)])
  refine own_via (fun _ k => XS.iloadN X2_.here hx rfl (hb hby own_d_jdk_42_56_11) rfl k) ?_
  show own_Fin _ _ _ _ _ _ _ T2_ (mkF m 12 #[.val (.ref a1), .val (.int j)] [(.int j), (.ref t)])
  obtain ⟨_, _, ⟨T3_, L3_, k3_, n3_⟩, -, X3_, ⟨Lc3_, hQ3_, l3_, y3_, z3_⟩, st3_⟩ := Jvm.LawKit.callS X2_ hx (y := (⟨"java/lang/StringLatin1", "charAt", "([BI)C"⟩ : MethodName)) hown (mvT hZ (hw _ (List.mem_of_getElem? (i := 96) rfl))) (mvT hZ (hw _ (List.mem_of_getElem? (i := 97) rfl))) (mvT hZ (hw _ (List.mem_of_getElem? (i := 76) rfl))) (mvT hZ (hw _ (List.mem_of_getElem? (i := 98) rfl))) (by decide) (backOf (W := 0) (own_rm_latCh l Z a0 hw [] t j kt N ds fm h0 n0 Z0 O0 S2 r_fm Va h1 h2) hZ (hw _ (List.mem_of_getElem? (i := 98) rfl)) (hw _ (List.mem_of_getElem? (i := 76) rfl)) (by decide) (by decide)) (g := (mkF m 12 #[.val (.ref a1), .val (.int j)] [(.int j), (.ref t)])) rfl (by rw [hml]; rfl) (argsL := [(.ref t), (.int j)]) (rest := []) (lenOf own_pd4 rfl) rfl (by show 2 * 0 + _ ≤ _; exact Nat.le_of_eq rfl) (hb hby own_d_jdk_42_56_12) (fun _ _ => ⟨rfl, e2_, (by decide : 0 + 0 + 0 ≤ _), (by decide : 0 + 0 + 0 ≤ _)⟩)
  dsimp only [Pt.U, Pt.locs, Pt.cells, Pt.slots] at X3_ l3_ y3_ z3_ st3_ hQ3_
  subst l3_ y3_ z3_
  obtain ⟨rfl, Nq3_, hh3_⟩ := hQ3_
  have N3_ := Fr.app N1_ Nq3_
  refine own_via (fun _ k => st3_ _ k) ?_
  show own_Fin _ _ _ _ _ _ _ T3_ (mkF m 15 #[.val (.ref a1), .val (.int j)] [(.int ((ds.getD j.toNatClampNeg 0) &&& (255 : Int32)))])
  exact own_retN X3_ hx (t := .char) Bd.returns Bd.notSynchronized (by simp) (hb hby own_d_jdk_42_56_15) hh3_ (own_nar1 _) ⟨rfl, N3_, rfl⟩ (by decide) (by decide)
theorem own_d_jdk_43_4_0 : decode jdk_43_method_4_code 0 = .ok (.iload_n 0, 1) := by decide +kernel
theorem own_d_jdk_43_4_1 : decode jdk_43_method_4_code 1 = .ok (.ifCond .lt 14, 3) := by decide +kernel
theorem own_d_jdk_43_4_4 : decode jdk_43_method_4_code 4 = .ok (.iload_n 0, 1) := by decide +kernel
theorem own_d_jdk_43_4_5 : decode jdk_43_method_4_code 5 = .ok (.sipush 255, 3) := by decide +kernel
theorem own_d_jdk_43_4_8 : decode jdk_43_method_4_code 8 = .ok (.if_icmp .gt 7, 3) := by decide +kernel
theorem own_d_jdk_43_4_11 : decode jdk_43_method_4_code 11 = .ok (.iconst 1, 1) := by decide +kernel
theorem own_d_jdk_43_4_12 : decode jdk_43_method_4_code 12 = .ok (.goto 4, 3) := by decide +kernel
theorem own_d_jdk_43_4_16 : decode jdk_43_method_4_code 16 = .ok (.ireturn, 1) := by decide +kernel
theorem own_ef_canE (m : MethodId) (c : Int32) : entryFrame m #[(.int c)] 1 = mkF m 0 #[.val (.int c)] [] := by (first | (simp [entryFrame, mkF, argsToLocals, Value.category]; done) | rfl)
def own_Q_canE (Z : State) (c : Int32) (h0 : Heap) (n0 : Nat) (vq : Option Value) (h : Heap) (Lq : List Loc) : Prop := (vq = some (.int (1 : Int32))) ∧ (Fr n0 Lq) ∧ (h = h0)
set_option maxRecDepth 65536 in
set_option maxHeartbeats 40000000 in
theorem own_rm_canE (l : Launch) (Z : State) (a0 : Array Value) (hw : ∀ d ∈ tables_1, d.before a0 Z = true) (ws : List Jvm.Cond) (c : Int32) (h0 : Heap) (n0 : Nat) (Z0 : n0 ≤ h0.size) (h1 : ¬ c < (0 : Int32)) (h2 : ¬ (255 : Int32) < c) :
    MetFree l (⟨"java/lang/StringLatin1", "canEncode", "(I)Z"⟩ : MethodName) (head1 (Jvm.Cond.code (⟨"java/lang/StringLatin1", "canEncode", "(I)Z"⟩ : MethodName) jdk_43_method_4_code 1 (some .boolean) :: ws) ({ frames := 0, cells := 0, slots := 0, locals := 0 } : Room)) (fun aq Uq => aq = #[(.int c)] ∧ Z.Warmed39 Uq.vm ∧ Uq.heap = h0) (fun _ _ _ _ _ => True) (fun _ Uq oq Uq' => ∃ vq Lq, oq = .returned vq ∧ own_Q_canE Z c h0 n0 vq Uq'.heap Lq ∧ FrameEnd Uq oq Uq' Lq ({ frames := 0, cells := 0, slots := 0, locals := 0 } : Room).cells ({ frames := 0, cells := 0, slots := 0, locals := 0 } : Room).slots) := by
  refine MetFree.of_bodySF (plainFor_of_name own_pn2) hisR ?_
  intro p e s m args below meth cde s₁ Bd hml0 hP hK
  obtain ⟨rfl, hZ, hh⟩ := hP
  have hx := Bd.exec
  have hby := Bd.bytes
  have hml : cde.maxLocals = 1 := hml0
  have hown : s.vm.findClass "java/lang/StringLatin1" = some m.cls := findClass_of_methodNamed Bd.named
  have hnm := (name_of_methodNamed Bd.named Bd.method).1
  have X0 : Stand p l e ({ frames := 0, cells := 0, slots := 0, locals := 0 } : Room) s m #[(.int c)] below meth cde s₁ [] 0 0 := Stand.of_body Bd
  have e0 : s₁.heap = h0 := by rw [← hh, Bd.state]; rfl
  have N0 := Fr.nil n0
  show own_Fin p e s below (own_Q_canE Z c h0 n0) ({ frames := 0, cells := 0, slots := 0, locals := 0 } : Room).cells ({ frames := 0, cells := 0, slots := 0, locals := 0 } : Room).slots s₁ (entryFrame m #[(.int c)] 1)
  rw [own_ef_canE m c]
  refine own_via (fun _ k => XS.iloadN X0.here hx rfl (hb hby own_d_jdk_43_4_0) rfl k) ?_
  show own_Fin _ _ _ _ _ _ _ s₁ (mkF m 1 #[.val (.int c)] [(.int c)])
  refine own_via (fun _ k => XS.ifNo X0.here hx rfl (hb hby own_d_jdk_43_4_1) rfl ((if0 _ _).trans (flt h1).1) k) ?_
  show own_Fin _ _ _ _ _ _ _ s₁ (mkF m 4 #[.val (.int c)] [])
  refine own_via (fun _ k => XS.iloadN X0.here hx rfl (hb hby own_d_jdk_43_4_4) rfl k) ?_
  show own_Fin _ _ _ _ _ _ _ s₁ (mkF m 5 #[.val (.int c)] [(.int c)])
  refine own_via (fun _ k => XS.sipush X0.here hx rfl (hb hby own_d_jdk_43_4_5) k) ?_
  show own_Fin _ _ _ _ _ _ _ s₁ (mkF m 8 #[.val (.int c)] [(.int (255 : Int32)), (.int c)])
  refine own_via (fun _ k => XS.icmpNo X0.here hx rfl (hb hby own_d_jdk_43_4_8) rfl (flt h2).2.2.1 k) ?_
  show own_Fin _ _ _ _ _ _ _ s₁ (mkF m 11 #[.val (.int c)] [])
  refine own_via (fun _ k => XS.iconst X0.here hx rfl (hb hby own_d_jdk_43_4_11) k) ?_
  show own_Fin _ _ _ _ _ _ _ s₁ (mkF m 12 #[.val (.int c)] [(.int (1 : Int32))])
  refine own_via (fun _ k => XS.goto X0.here hx rfl (pc0 := 12) (pc' := 16) rfl (hb hby own_d_jdk_43_4_12) (by decide) (by decide) k) ?_
  show own_Fin _ _ _ _ _ _ _ s₁ (mkF m 16 #[.val (.int c)] [(.int (1 : Int32))])
  exact own_retN X0 hx (t := .boolean) Bd.returns Bd.notSynchronized (by simp) (hb hby own_d_jdk_43_4_16) e0 rfl ⟨rfl, N0, rfl⟩ (by decide) (by decide)
theorem own_d_jdk_29_65_0 : decode jdk_29_method_65_code 0 = .ok (.iload_n 0, 1) := by decide +kernel
theorem own_d_jdk_29_65_1 : decode jdk_29_method_65_code 1 = .ok (.iload_n 1, 1) := by decide +kernel
theorem own_d_jdk_29_65_2 : decode jdk_29_method_65_code 2 = .ok (.if_icmp .lt 7, 3) := by decide +kernel
theorem own_d_jdk_29_65_5 : decode jdk_29_method_65_code 5 = .ok (.iload_n 0, 1) := by decide +kernel
theorem own_d_jdk_29_65_6 : decode jdk_29_method_65_code 6 = .ok (.goto 4, 3) := by decide +kernel
theorem own_d_jdk_29_65_10 : decode jdk_29_method_65_code 10 = .ok (.ireturn, 1) := by decide +kernel
theorem own_ef_maxI (m : MethodId) (a : Int32) (b : Int32) : entryFrame m #[(.int a), (.int b)] 2 = mkF m 0 #[.val (.int a), .val (.int b)] [] := by (first | (simp [entryFrame, mkF, argsToLocals, Value.category]; done) | rfl)
def own_Q_maxI (Z : State) (a : Int32) (b : Int32) (h0 : Heap) (n0 : Nat) (vq : Option Value) (h : Heap) (Lq : List Loc) : Prop := (vq = some (.int a)) ∧ (Fr n0 Lq) ∧ (h = h0)
set_option maxRecDepth 65536 in
set_option maxHeartbeats 40000000 in
theorem own_rm_maxI (l : Launch) (Z : State) (a0 : Array Value) (hw : ∀ d ∈ tables_1, d.before a0 Z = true) (ws : List Jvm.Cond) (a : Int32) (b : Int32) (h0 : Heap) (n0 : Nat) (Z0 : n0 ≤ h0.size) (hm : ¬ a < b) :
    MetFree l (⟨"java/lang/Math", "max", "(II)I"⟩ : MethodName) (head1 (Jvm.Cond.code (⟨"java/lang/Math", "max", "(II)I"⟩ : MethodName) jdk_29_method_65_code 2 (some .int) :: ws) ({ frames := 0, cells := 0, slots := 0, locals := 0 } : Room)) (fun aq Uq => aq = #[(.int a), (.int b)] ∧ Z.Warmed39 Uq.vm ∧ Uq.heap = h0) (fun _ _ _ _ _ => True) (fun _ Uq oq Uq' => ∃ vq Lq, oq = .returned vq ∧ own_Q_maxI Z a b h0 n0 vq Uq'.heap Lq ∧ FrameEnd Uq oq Uq' Lq ({ frames := 0, cells := 0, slots := 0, locals := 0 } : Room).cells ({ frames := 0, cells := 0, slots := 0, locals := 0 } : Room).slots) := by
  refine MetFree.of_bodySF (Jvm.Free.JP.mathPlain rfl (by decide +kernel)) hisR ?_
  intro p e s m args below meth cde s₁ Bd hml0 hP hK
  obtain ⟨rfl, hZ, hh⟩ := hP
  have hx := Bd.exec
  have hby := Bd.bytes
  have hml : cde.maxLocals = 2 := hml0
  have hown : s.vm.findClass "java/lang/Math" = some m.cls := findClass_of_methodNamed Bd.named
  have hnm := (name_of_methodNamed Bd.named Bd.method).1
  have X0 : Stand p l e ({ frames := 0, cells := 0, slots := 0, locals := 0 } : Room) s m #[(.int a), (.int b)] below meth cde s₁ [] 0 0 := Stand.of_body Bd
  have e0 : s₁.heap = h0 := by rw [← hh, Bd.state]; rfl
  have N0 := Fr.nil n0
  show own_Fin p e s below (own_Q_maxI Z a b h0 n0) ({ frames := 0, cells := 0, slots := 0, locals := 0 } : Room).cells ({ frames := 0, cells := 0, slots := 0, locals := 0 } : Room).slots s₁ (entryFrame m #[(.int a), (.int b)] 2)
  rw [own_ef_maxI m a b]
  refine own_via (fun _ k => XS.iloadN X0.here hx rfl (hb hby own_d_jdk_29_65_0) rfl k) ?_
  show own_Fin _ _ _ _ _ _ _ s₁ (mkF m 1 #[.val (.int a), .val (.int b)] [(.int a)])
  refine own_via (fun _ k => XS.iloadN X0.here hx rfl (hb hby own_d_jdk_29_65_1) rfl k) ?_
  show own_Fin _ _ _ _ _ _ _ s₁ (mkF m 2 #[.val (.int a), .val (.int b)] [(.int b), (.int a)])
  refine own_via (fun _ k => XS.icmpNo X0.here hx rfl (hb hby own_d_jdk_29_65_2) rfl (flt hm).1 k) ?_
  show own_Fin _ _ _ _ _ _ _ s₁ (mkF m 5 #[.val (.int a), .val (.int b)] [])
  refine own_via (fun _ k => XS.iloadN X0.here hx rfl (hb hby own_d_jdk_29_65_5) rfl k) ?_
  show own_Fin _ _ _ _ _ _ _ s₁ (mkF m 6 #[.val (.int a), .val (.int b)] [(.int a)])
  refine own_via (fun _ k => XS.goto X0.here hx rfl (pc0 := 6) (pc' := 10) rfl (hb hby own_d_jdk_29_65_6) (by decide) (by decide) k) ?_
  show own_Fin _ _ _ _ _ _ _ s₁ (mkF m 10 #[.val (.int a), .val (.int b)] [(.int a)])
  exact own_retI X0 hx Bd.returns Bd.notSynchronized (hb hby own_d_jdk_29_65_10) e0 rfl ⟨rfl, N0, rfl⟩ (by decide) (by decide)
theorem own_d_jdk_29_69_0 : decode jdk_29_method_69_code 0 = .ok (.iload_n 0, 1) := by decide +kernel
theorem own_d_jdk_29_69_1 : decode jdk_29_method_69_code 1 = .ok (.iload_n 1, 1) := by decide +kernel
theorem own_d_jdk_29_69_2 : decode jdk_29_method_69_code 2 = .ok (.if_icmp .gt 7, 3) := by decide +kernel
theorem own_d_jdk_29_69_5 : decode jdk_29_method_69_code 5 = .ok (.iload_n 0, 1) := by decide +kernel
theorem own_d_jdk_29_69_6 : decode jdk_29_method_69_code 6 = .ok (.goto 4, 3) := by decide +kernel
theorem own_d_jdk_29_69_10 : decode jdk_29_method_69_code 10 = .ok (.ireturn, 1) := by decide +kernel
theorem own_ef_minI (m : MethodId) (a : Int32) (b : Int32) : entryFrame m #[(.int a), (.int b)] 2 = mkF m 0 #[.val (.int a), .val (.int b)] [] := by (first | (simp [entryFrame, mkF, argsToLocals, Value.category]; done) | rfl)
def own_Q_minI (Z : State) (a : Int32) (b : Int32) (h0 : Heap) (n0 : Nat) (vq : Option Value) (h : Heap) (Lq : List Loc) : Prop := (vq = some (.int a)) ∧ (Fr n0 Lq) ∧ (h = h0)
set_option maxRecDepth 65536 in
set_option maxHeartbeats 40000000 in
theorem own_rm_minI (l : Launch) (Z : State) (a0 : Array Value) (hw : ∀ d ∈ tables_1, d.before a0 Z = true) (ws : List Jvm.Cond) (a : Int32) (b : Int32) (h0 : Heap) (n0 : Nat) (Z0 : n0 ≤ h0.size) (hm : ¬ b < a) :
    MetFree l (⟨"java/lang/Math", "min", "(II)I"⟩ : MethodName) (head1 (Jvm.Cond.code (⟨"java/lang/Math", "min", "(II)I"⟩ : MethodName) jdk_29_method_69_code 2 (some .int) :: ws) ({ frames := 0, cells := 0, slots := 0, locals := 0 } : Room)) (fun aq Uq => aq = #[(.int a), (.int b)] ∧ Z.Warmed39 Uq.vm ∧ Uq.heap = h0) (fun _ _ _ _ _ => True) (fun _ Uq oq Uq' => ∃ vq Lq, oq = .returned vq ∧ own_Q_minI Z a b h0 n0 vq Uq'.heap Lq ∧ FrameEnd Uq oq Uq' Lq ({ frames := 0, cells := 0, slots := 0, locals := 0 } : Room).cells ({ frames := 0, cells := 0, slots := 0, locals := 0 } : Room).slots) := by
  refine MetFree.of_bodySF (Jvm.Free.JP.mathPlain rfl (by decide +kernel)) hisR ?_
  intro p e s m args below meth cde s₁ Bd hml0 hP hK
  obtain ⟨rfl, hZ, hh⟩ := hP
  have hx := Bd.exec
  have hby := Bd.bytes
  have hml : cde.maxLocals = 2 := hml0
  have hown : s.vm.findClass "java/lang/Math" = some m.cls := findClass_of_methodNamed Bd.named
  have hnm := (name_of_methodNamed Bd.named Bd.method).1
  have X0 : Stand p l e ({ frames := 0, cells := 0, slots := 0, locals := 0 } : Room) s m #[(.int a), (.int b)] below meth cde s₁ [] 0 0 := Stand.of_body Bd
  have e0 : s₁.heap = h0 := by rw [← hh, Bd.state]; rfl
  have N0 := Fr.nil n0
  show own_Fin p e s below (own_Q_minI Z a b h0 n0) ({ frames := 0, cells := 0, slots := 0, locals := 0 } : Room).cells ({ frames := 0, cells := 0, slots := 0, locals := 0 } : Room).slots s₁ (entryFrame m #[(.int a), (.int b)] 2)
  rw [own_ef_minI m a b]
  refine own_via (fun _ k => XS.iloadN X0.here hx rfl (hb hby own_d_jdk_29_69_0) rfl k) ?_
  show own_Fin _ _ _ _ _ _ _ s₁ (mkF m 1 #[.val (.int a), .val (.int b)] [(.int a)])
  refine own_via (fun _ k => XS.iloadN X0.here hx rfl (hb hby own_d_jdk_29_69_1) rfl k) ?_
  show own_Fin _ _ _ _ _ _ _ s₁ (mkF m 2 #[.val (.int a), .val (.int b)] [(.int b), (.int a)])
  refine own_via (fun _ k => XS.icmpNo X0.here hx rfl (hb hby own_d_jdk_29_69_2) rfl (flt hm).2.2.1 k) ?_
  show own_Fin _ _ _ _ _ _ _ s₁ (mkF m 5 #[.val (.int a), .val (.int b)] [])
  refine own_via (fun _ k => XS.iloadN X0.here hx rfl (hb hby own_d_jdk_29_69_5) rfl k) ?_
  show own_Fin _ _ _ _ _ _ _ s₁ (mkF m 6 #[.val (.int a), .val (.int b)] [(.int a)])
  refine own_via (fun _ k => XS.goto X0.here hx rfl (pc0 := 6) (pc' := 10) rfl (hb hby own_d_jdk_29_69_6) (by decide) (by decide) k) ?_
  show own_Fin _ _ _ _ _ _ _ s₁ (mkF m 10 #[.val (.int a), .val (.int b)] [(.int a)])
  exact own_retI X0 hx Bd.returns Bd.notSynchronized (hb hby own_d_jdk_29_69_10) e0 rfl ⟨rfl, N0, rfl⟩ (by decide) (by decide)
theorem own_d_jdk_43_23_0 : decode jdk_43_method_23_code 0 = .ok (.iload_n 1, 1) := by decide +kernel
theorem own_d_jdk_43_23_1 : decode jdk_43_method_23_code 1 = .ok (.i2b, 1) := by decide +kernel
theorem own_d_jdk_43_23_2 : decode jdk_43_method_23_code 2 = .ok (.istore 4, 2) := by decide +kernel
theorem own_d_jdk_43_23_4 : decode jdk_43_method_23_code 4 = .ok (.iload_n 2, 1) := by decide +kernel
theorem own_d_jdk_43_23_5 : decode jdk_43_method_23_code 5 = .ok (.istore 5, 2) := by decide +kernel
theorem own_d_jdk_43_23_7 : decode jdk_43_method_23_code 7 = .ok (.iload 5, 2) := by decide +kernel
theorem own_d_jdk_43_23_9 : decode jdk_43_method_23_code 9 = .ok (.iload_n 3, 1) := by decide +kernel
theorem own_d_jdk_43_23_10 : decode jdk_43_method_23_code 10 = .ok (.if_icmp .ge 21, 3) := by decide +kernel
theorem own_d_jdk_43_23_31 : decode jdk_43_method_23_code 31 = .ok (.iconst (-1), 1) := by decide +kernel
theorem own_d_jdk_43_23_32 : decode jdk_43_method_23_code 32 = .ok (.ireturn, 1) := by decide +kernel
theorem own_d_jdk_43_23_13 : decode jdk_43_method_23_code 13 = .ok (.aload_n 0, 1) := by decide +kernel
theorem own_d_jdk_43_23_14 : decode jdk_43_method_23_code 14 = .ok (.iload 5, 2) := by decide +kernel
theorem own_d_jdk_43_23_16 : decode jdk_43_method_23_code 16 = .ok (.baload, 1) := by decide +kernel
theorem own_d_jdk_43_23_17 : decode jdk_43_method_23_code 17 = .ok (.iload 4, 2) := by decide +kernel
theorem own_d_jdk_43_23_19 : decode jdk_43_method_23_code 19 = .ok (.if_icmp .ne 6, 3) := by decide +kernel
theorem own_d_jdk_43_23_25 : decode jdk_43_method_23_code 25 = .ok (.iinc 5 1, 3) := by decide +kernel
theorem own_d_jdk_43_23_28 : decode jdk_43_method_23_code 28 = .ok (.goto (-21), 3) := by decide +kernel
theorem own_d_jdk_43_23_22 : decode jdk_43_method_23_code 22 = .ok (.iload 5, 2) := by decide +kernel
theorem own_d_jdk_43_23_24 : decode jdk_43_method_23_code 24 = .ok (.ireturn, 1) := by decide +kernel
theorem own_ef_ixCh (m : MethodId) (t : Addr) (N : Int32) : entryFrame m #[(.ref t), (.int (46 : Int32)), (.int (0 : Int32)), (.int N)] 6 = mkF m 0 #[.val (.ref t), .val (.int (46 : Int32)), .val (.int (0 : Int32)), .val (.int N), .unset, .unset] [] := by (first | (simp [entryFrame, mkF, argsToLocals, Value.category]; done) | rfl)
def own_Q_ixCh (Z : State) (t : Addr) (kt : ClassId) (N : Int32) (ds : List Int32) (n : Nat) (h0 : Heap) (n0 : Nat) (vq : Option Value) (h : Heap) (Lq : List Loc) : Prop := ∃ (r : Int32), (vq = some (.int r)) ∧ (Fr n0 Lq) ∧ (h = h0) ∧ (own_has ds n r)
set_option maxRecDepth 65536 in
set_option maxHeartbeats 40000000 in
theorem own_rm_ixCh (l : Launch) (Z : State) (a0 : Array Value) (hw : ∀ d ∈ tables_1, d.before a0 Z = true) (ws : List Jvm.Cond) (t : Addr) (kt : ClassId) (N : Int32) (ds : List Int32) (n : Nat) (h0 : Heap) (n0 : Nat) (Z0 : n0 ≤ h0.size) (Va : Arv Z h0 t kt .byte N (ds.map Value.int) (.int 0)) (hN : N = Int32.ofNat n) (hn : n ≤ 4000) :
    MetFree l (⟨"java/lang/StringLatin1", "indexOfChar", "([BIII)I"⟩ : MethodName) (head1 (Jvm.Cond.code (⟨"java/lang/StringLatin1", "indexOfChar", "([BIII)I"⟩ : MethodName) jdk_43_method_23_code 6 (some .int) :: ws) ({ frames := 0, cells := 0, slots := 0, locals := 0 } : Room)) (fun aq Uq => aq = #[(.ref t), (.int (46 : Int32)), (.int (0 : Int32)), (.int N)] ∧ Z.Warmed39 Uq.vm ∧ Uq.heap = h0) (fun _ _ _ _ _ => True) (fun _ Uq oq Uq' => ∃ vq Lq, oq = .returned vq ∧ own_Q_ixCh Z t kt N ds n h0 n0 vq Uq'.heap Lq ∧ FrameEnd Uq oq Uq' Lq ({ frames := 0, cells := 0, slots := 0, locals := 0 } : Room).cells ({ frames := 0, cells := 0, slots := 0, locals := 0 } : Room).slots) := by
  refine MetFree.of_bodySF (plainFor_of_name own_pn2) hisR ?_
  intro p e s m args below meth cde s₁ Bd hml0 hP hK
  obtain ⟨rfl, hZ, hh⟩ := hP
  have hx := Bd.exec
  have hby := Bd.bytes
  have hml : cde.maxLocals = 6 := hml0
  have hown : s.vm.findClass "java/lang/StringLatin1" = some m.cls := findClass_of_methodNamed Bd.named
  have hnm := (name_of_methodNamed Bd.named Bd.method).1
  have X0 : Stand p l e ({ frames := 0, cells := 0, slots := 0, locals := 0 } : Room) s m #[(.ref t), (.int (46 : Int32)), (.int (0 : Int32)), (.int N)] below meth cde s₁ [] 0 0 := Stand.of_body Bd
  have e0 : s₁.heap = h0 := by rw [← hh, Bd.state]; rfl
  have N0 := Fr.nil n0
  show own_Fin p e s below (own_Q_ixCh Z t kt N ds n h0 n0) ({ frames := 0, cells := 0, slots := 0, locals := 0 } : Room).cells ({ frames := 0, cells := 0, slots := 0, locals := 0 } : Room).slots s₁ (entryFrame m #[(.ref t), (.int (46 : Int32)), (.int (0 : Int32)), (.int N)] 6)
  rw [own_ef_ixCh m t N]
  refine own_via (fun _ k => XS.iloadN X0.here hx rfl (hb hby own_d_jdk_43_23_0) rfl k) ?_
  show own_Fin _ _ _ _ _ _ _ s₁ (mkF m 1 #[.val (.ref t), .val (.int (46 : Int32)), .val (.int (0 : Int32)), .val (.int N), .unset, .unset] [(.int (46 : Int32))])
  refine own_via (fun _ k => XS.i2b X0.here hx rfl (hb hby own_d_jdk_43_23_1) rfl k) ?_
  show own_Fin _ _ _ _ _ _ _ s₁ (mkF m 2 #[.val (.ref t), .val (.int (46 : Int32)), .val (.int (0 : Int32)), .val (.int N), .unset, .unset] [(.int ((46 : Int32).toInt8.toInt32))])
  refine own_via (fun _ k => XS.istore X0.here hx rfl (hb hby own_d_jdk_43_23_2) rfl (l' := #[.val (.ref t), .val (.int (46 : Int32)), .val (.int (0 : Int32)), .val (.int N), .val (.int ((46 : Int32).toInt8.toInt32)), .unset]) rfl k) ?_
  show own_Fin _ _ _ _ _ _ _ s₁ (mkF m 4 #[.val (.ref t), .val (.int (46 : Int32)), .val (.int (0 : Int32)), .val (.int N), .val (.int ((46 : Int32).toInt8.toInt32)), .unset] [])
  refine own_via (fun _ k => XS.iloadN X0.here hx rfl (hb hby own_d_jdk_43_23_4) rfl k) ?_
  show own_Fin _ _ _ _ _ _ _ s₁ (mkF m 5 #[.val (.ref t), .val (.int (46 : Int32)), .val (.int (0 : Int32)), .val (.int N), .val (.int ((46 : Int32).toInt8.toInt32)), .unset] [(.int (0 : Int32))])
  refine own_via (fun _ k => XS.istore X0.here hx rfl (hb hby own_d_jdk_43_23_5) rfl (l' := #[.val (.ref t), .val (.int (46 : Int32)), .val (.int (0 : Int32)), .val (.int N), .val (.int ((46 : Int32).toInt8.toInt32)), .val (.int (0 : Int32))]) rfl k) ?_
  show own_Fin _ _ _ _ _ _ _ s₁ (mkF m 7 #[.val (.ref t), .val (.int (46 : Int32)), .val (.int (0 : Int32)), .val (.int N), .val (.int ((46 : Int32).toInt8.toInt32)), .val (.int (0 : Int32))] [])
  have s7 : ∀ (k : Nat) (i : Nat) (j : Int32) (hj : j = Int32.ofNat i) (hi : i ≤ n) (hk : n ≤ i + k) (hs : ∀ q, q < i → ¬ ds.getD q 0 = (46 : Int32)), own_Fin p e s below (own_Q_ixCh Z t kt N ds n h0 n0) ({ frames := 0, cells := 0, slots := 0, locals := 0 } : Room).cells ({ frames := 0, cells := 0, slots := 0, locals := 0 } : Room).slots s₁ (mkF m 7 #[.val (.ref t), .val (.int (46 : Int32)), .val (.int (0 : Int32)), .val (.int N), .val (.int ((46 : Int32).toInt8.toInt32)), .val (.int j)] []) := by
    intro k
    induction k with
    | zero =>
      intro i j hj hi hk hs
      refine own_via (fun _ k => XS.iload X0.here hx rfl (hb hby own_d_jdk_43_23_7) rfl k) ?_
      show own_Fin _ _ _ _ _ _ _ s₁ (mkF m 9 #[.val (.ref t), .val (.int (46 : Int32)), .val (.int (0 : Int32)), .val (.int N), .val (.int ((46 : Int32).toInt8.toInt32)), .val (.int j)] [(.int j)])
      refine own_via (fun _ k => XS.iloadN X0.here hx rfl (hb hby own_d_jdk_43_23_9) rfl k) ?_
      show own_Fin _ _ _ _ _ _ _ s₁ (mkF m 10 #[.val (.ref t), .val (.int (46 : Int32)), .val (.int (0 : Int32)), .val (.int N), .val (.int ((46 : Int32).toInt8.toInt32)), .val (.int j)] [(.int N), (.int j)])
      refine own_via (fun _ k => XS.icmpYes X0.here hx rfl (pc0 := 10) (pc' := 31) rfl (hb hby own_d_jdk_43_23_10) rfl (flt (fun q => absurd ((own_ltN hj hN (by omega) (by omega)).mp q) (by omega))).2.1 (by decide) (by decide) k) ?_
      show own_Fin _ _ _ _ _ _ _ s₁ (mkF m 31 #[.val (.ref t), .val (.int (46 : Int32)), .val (.int (0 : Int32)), .val (.int N), .val (.int ((46 : Int32).toInt8.toInt32)), .val (.int j)] [])
      refine own_via (fun _ k => XS.iconst X0.here hx rfl (hb hby own_d_jdk_43_23_31) k) ?_
      show own_Fin _ _ _ _ _ _ _ s₁ (mkF m 32 #[.val (.ref t), .val (.int (46 : Int32)), .val (.int (0 : Int32)), .val (.int N), .val (.int ((46 : Int32).toInt8.toInt32)), .val (.int j)] [(.int (-1 : Int32))])
      exact own_retI X0 hx Bd.returns Bd.notSynchronized (hb hby own_d_jdk_43_23_32) e0 rfl ⟨(-1 : Int32), rfl, N0, rfl, (Or.inl ⟨by decide, fun q hq => hs q (by omega)⟩)⟩ (by decide) (by decide)
    | succ k ih =>
      intro i j hj hi hk hs
      refine own_via (fun _ k => XS.iload X0.here hx rfl (hb hby own_d_jdk_43_23_7) rfl k) ?_
      show own_Fin _ _ _ _ _ _ _ s₁ (mkF m 9 #[.val (.ref t), .val (.int (46 : Int32)), .val (.int (0 : Int32)), .val (.int N), .val (.int ((46 : Int32).toInt8.toInt32)), .val (.int j)] [(.int j)])
      refine own_via (fun _ k => XS.iloadN X0.here hx rfl (hb hby own_d_jdk_43_23_9) rfl k) ?_
      show own_Fin _ _ _ _ _ _ _ s₁ (mkF m 10 #[.val (.ref t), .val (.int (46 : Int32)), .val (.int (0 : Int32)), .val (.int N), .val (.int ((46 : Int32).toInt8.toInt32)), .val (.int j)] [(.int N), (.int j)])
      rcases Classical.em (j < N) with hg | hg
      · refine own_via (fun _ k => XS.icmpNo X0.here hx rfl (hb hby own_d_jdk_43_23_10) rfl (tlt hg).2.1 k) ?_
        show own_Fin _ _ _ _ _ _ _ s₁ (mkF m 13 #[.val (.ref t), .val (.int (46 : Int32)), .val (.int (0 : Int32)), .val (.int N), .val (.int ((46 : Int32).toInt8.toInt32)), .val (.int j)] [])
        have hlt : i < n := (own_ltN hj hN (by omega) (by omega)).mp hg
        refine own_via (fun _ k => XS.aloadN X0.here hx rfl (hb hby own_d_jdk_43_23_13) rfl rfl k) ?_
        show own_Fin _ _ _ _ _ _ _ s₁ (mkF m 14 #[.val (.ref t), .val (.int (46 : Int32)), .val (.int (0 : Int32)), .val (.int N), .val (.int ((46 : Int32).toInt8.toInt32)), .val (.int j)] [(.ref t)])
        refine own_via (fun _ k => XS.iload X0.here hx rfl (hb hby own_d_jdk_43_23_14) rfl k) ?_
        show own_Fin _ _ _ _ _ _ _ s₁ (mkF m 16 #[.val (.ref t), .val (.int (46 : Int32)), .val (.int (0 : Int32)), .val (.int N), .val (.int ((46 : Int32).toInt8.toInt32)), .val (.int j)] [(.int j), (.ref t)])
        obtain ⟨c1_, Ar1_, q1_, S1_, M1_, H1_, G1_⟩ := (id Va)
        have hin1_ : ¬ (j < 0 ∨ c1_.slots.size ≤ (j).toNatClampNeg) := inb_of S1_ (own_inb hj hN (by omega) (by omega))
        have hat1_ : c1_.slots[(j).toNatClampNeg]? = some (.int (ds.getD i 0)) := H1_.at hin1_ (own_el hj (by omega))
        refine own_via (fun _ k => X0.baloadBytes hx (j := j) (v := (.int (ds.getD i 0))) (by rw [e0]; exact Ar1_.1) (State.isArrayOf_alike hZ.alike Ar1_.2.1) Ar1_.2.2 hin1_ hat1_ (g := (mkF m 16 #[.val (.ref t), .val (.int (46 : Int32)), .val (.int (0 : Int32)), .val (.int N), .val (.int ((46 : Int32).toInt8.toInt32)), .val (.int j)] [(.int j), (.ref t)])) rfl rfl (hb hby own_d_jdk_43_23_16) _ k) ?_
        show own_Fin _ _ _ _ _ _ _ s₁ (mkF m 17 #[.val (.ref t), .val (.int (46 : Int32)), .val (.int (0 : Int32)), .val (.int N), .val (.int ((46 : Int32).toInt8.toInt32)), .val (.int j)] [(.int (ds.getD i 0))])
        refine own_via (fun _ k => XS.iload X0.here hx rfl (hb hby own_d_jdk_43_23_17) rfl k) ?_
        show own_Fin _ _ _ _ _ _ _ s₁ (mkF m 19 #[.val (.ref t), .val (.int (46 : Int32)), .val (.int (0 : Int32)), .val (.int N), .val (.int ((46 : Int32).toInt8.toInt32)), .val (.int j)] [(.int ((46 : Int32).toInt8.toInt32)), (.int (ds.getD i 0))])
        rcases Classical.em ((ds.getD i 0) = ((46 : Int32).toInt8.toInt32)) with he | he
        · refine own_via (fun _ k => XS.icmpNo X0.here hx rfl (hb hby own_d_jdk_43_23_19) rfl (teq he).2 k) ?_
          show own_Fin _ _ _ _ _ _ _ s₁ (mkF m 22 #[.val (.ref t), .val (.int (46 : Int32)), .val (.int (0 : Int32)), .val (.int N), .val (.int ((46 : Int32).toInt8.toInt32)), .val (.int j)] [])
          refine own_via (fun _ k => XS.iload X0.here hx rfl (hb hby own_d_jdk_43_23_22) rfl k) ?_
          show own_Fin _ _ _ _ _ _ _ s₁ (mkF m 24 #[.val (.ref t), .val (.int (46 : Int32)), .val (.int (0 : Int32)), .val (.int N), .val (.int ((46 : Int32).toInt8.toInt32)), .val (.int j)] [(.int j)])
          exact own_retI X0 hx Bd.returns Bd.notSynchronized (hb hby own_d_jdk_43_23_24) e0 rfl ⟨j, rfl, N0, rfl, (Or.inr ⟨own_nneg hj (by omega), i, hlt, he⟩)⟩ (by decide) (by decide)
        · refine own_via (fun _ k => XS.icmpYes X0.here hx rfl (pc0 := 19) (pc' := 25) rfl (hb hby own_d_jdk_43_23_19) rfl (feq he).2 (by decide) (by decide) k) ?_
          show own_Fin _ _ _ _ _ _ _ s₁ (mkF m 25 #[.val (.ref t), .val (.int (46 : Int32)), .val (.int (0 : Int32)), .val (.int N), .val (.int ((46 : Int32).toInt8.toInt32)), .val (.int j)] [])
          refine own_via (fun _ k => XS.iinc X0.here hx rfl (hb hby own_d_jdk_43_23_25) rfl (l' := #[.val (.ref t), .val (.int (46 : Int32)), .val (.int (0 : Int32)), .val (.int N), .val (.int ((46 : Int32).toInt8.toInt32)), .val (.int (j + (1 : Int32)))]) rfl k) ?_
          show own_Fin _ _ _ _ _ _ _ s₁ (mkF m 28 #[.val (.ref t), .val (.int (46 : Int32)), .val (.int (0 : Int32)), .val (.int N), .val (.int ((46 : Int32).toInt8.toInt32)), .val (.int (j + (1 : Int32)))] [])
          refine own_via (fun _ k => XS.goto X0.here hx rfl (pc0 := 28) (pc' := 7) rfl (hb hby own_d_jdk_43_23_28) (by decide) (by decide) k) ?_
          show own_Fin _ _ _ _ _ _ _ s₁ (mkF m 7 #[.val (.ref t), .val (.int (46 : Int32)), .val (.int (0 : Int32)), .val (.int N), .val (.int ((46 : Int32).toInt8.toInt32)), .val (.int (j + (1 : Int32)))] [])
          exact ih (i + 1) _ (own_succ hj) (by omega) (by omega) (own_next hs he)
      · refine own_via (fun _ k => XS.icmpYes X0.here hx rfl (pc0 := 10) (pc' := 31) rfl (hb hby own_d_jdk_43_23_10) rfl (flt hg).2.1 (by decide) (by decide) k) ?_
        show own_Fin _ _ _ _ _ _ _ s₁ (mkF m 31 #[.val (.ref t), .val (.int (46 : Int32)), .val (.int (0 : Int32)), .val (.int N), .val (.int ((46 : Int32).toInt8.toInt32)), .val (.int j)] [])
        have hge : n ≤ i := Nat.le_of_not_lt fun q => hg ((own_ltN hj hN (by omega) (by omega)).mpr q)
        refine own_via (fun _ k => XS.iconst X0.here hx rfl (hb hby own_d_jdk_43_23_31) k) ?_
        show own_Fin _ _ _ _ _ _ _ s₁ (mkF m 32 #[.val (.ref t), .val (.int (46 : Int32)), .val (.int (0 : Int32)), .val (.int N), .val (.int ((46 : Int32).toInt8.toInt32)), .val (.int j)] [(.int (-1 : Int32))])
        exact own_retI X0 hx Bd.returns Bd.notSynchronized (hb hby own_d_jdk_43_23_32) e0 rfl ⟨(-1 : Int32), rfl, N0, rfl, (Or.inl ⟨by decide, fun q hq => hs q (by omega)⟩)⟩ (by decide) (by decide)
  exact s7 n 0 _ rfl (by omega) (by omega) (fun q hq => absurd hq (Nat.not_lt_zero q))
theorem own_d_jdk_43_22_0 : decode jdk_43_method_22_code 0 = .ok (.iload_n 1, 1) := by decide +kernel
theorem own_d_jdk_43_22_1 : decode jdk_43_method_22_code 1 = .ok (.invokestatic 88, 3) := by decide +kernel
theorem own_pd5 : parseMethodDescriptor "(I)Z" = some ⟨[.int], some .boolean⟩ := by decide +kernel
theorem own_d_jdk_43_22_4 : decode jdk_43_method_22_code 4 = .ok (.ifCond .ne 5, 3) := by decide +kernel
theorem own_d_jdk_43_22_9 : decode jdk_43_method_22_code 9 = .ok (.iload_n 2, 1) := by decide +kernel
theorem own_d_jdk_43_22_10 : decode jdk_43_method_22_code 10 = .ok (.iconst 0, 1) := by decide +kernel
theorem own_d_jdk_43_22_11 : decode jdk_43_method_22_code 11 = .ok (.invokestatic 92, 3) := by decide +kernel
theorem own_pd6 : parseMethodDescriptor "(II)I" = some ⟨[.int, .int], some .int⟩ := by decide +kernel
theorem own_d_jdk_43_22_14 : decode jdk_43_method_22_code 14 = .ok (.istore_n 2, 1) := by decide +kernel
theorem own_d_jdk_43_22_15 : decode jdk_43_method_22_code 15 = .ok (.iload_n 3, 1) := by decide +kernel
theorem own_d_jdk_43_22_16 : decode jdk_43_method_22_code 16 = .ok (.aload_n 0, 1) := by decide +kernel
theorem own_d_jdk_43_22_17 : decode jdk_43_method_22_code 17 = .ok (.arraylength, 1) := by decide +kernel
theorem own_d_jdk_43_22_18 : decode jdk_43_method_22_code 18 = .ok (.invokestatic 38, 3) := by decide +kernel
theorem own_d_jdk_43_22_21 : decode jdk_43_method_22_code 21 = .ok (.istore_n 3, 1) := by decide +kernel
theorem own_d_jdk_43_22_22 : decode jdk_43_method_22_code 22 = .ok (.iload_n 2, 1) := by decide +kernel
theorem own_d_jdk_43_22_23 : decode jdk_43_method_22_code 23 = .ok (.iload_n 3, 1) := by decide +kernel
theorem own_d_jdk_43_22_24 : decode jdk_43_method_22_code 24 = .ok (.if_icmp .lt 5, 3) := by decide +kernel
theorem own_d_jdk_43_22_29 : decode jdk_43_method_22_code 29 = .ok (.aload_n 0, 1) := by decide +kernel
theorem own_d_jdk_43_22_30 : decode jdk_43_method_22_code 30 = .ok (.iload_n 1, 1) := by decide +kernel
theorem own_d_jdk_43_22_31 : decode jdk_43_method_22_code 31 = .ok (.iload_n 2, 1) := by decide +kernel
theorem own_d_jdk_43_22_32 : decode jdk_43_method_22_code 32 = .ok (.iload_n 3, 1) := by decide +kernel
theorem own_d_jdk_43_22_33 : decode jdk_43_method_22_code 33 = .ok (.invokestatic 95, 3) := by decide +kernel
theorem own_pd7 : parseMethodDescriptor "([BIII)I" = some ⟨[(.array .byte), .int, .int, .int], some .int⟩ := by decide +kernel
theorem own_d_jdk_43_22_36 : decode jdk_43_method_22_code 36 = .ok (.ireturn, 1) := by decide +kernel
theorem own_ef_latIx (m : MethodId) (t : Addr) (N : Int32) : entryFrame m #[(.ref t), (.int (46 : Int32)), (.int (0 : Int32)), (.int N)] 4 = mkF m 0 #[.val (.ref t), .val (.int (46 : Int32)), .val (.int (0 : Int32)), .val (.int N)] [] := by (first | (simp [entryFrame, mkF, argsToLocals, Value.category]; done) | rfl)
def own_Q_latIx (Z : State) (t : Addr) (kt : ClassId) (N : Int32) (ds : List Int32) (n : Nat) (h0 : Heap) (n0 : Nat) (vq : Option Value) (h : Heap) (Lq : List Loc) : Prop := ∃ (r : Int32), (vq = some (.int r)) ∧ (Fr n0 Lq) ∧ (h = h0) ∧ (own_has ds n r)
set_option maxRecDepth 65536 in
set_option maxHeartbeats 40000000 in
theorem own_rm_latIx (l : Launch) (Z : State) (a0 : Array Value) (hw : ∀ d ∈ tables_1, d.before a0 Z = true) (ws : List Jvm.Cond) (t : Addr) (kt : ClassId) (N : Int32) (ds : List Int32) (n : Nat) (h0 : Heap) (n0 : Nat) (Z0 : n0 ≤ h0.size) (Va : Arv Z h0 t kt .byte N (ds.map Value.int) (.int 0)) (hN : N = Int32.ofNat n) (hn : n ≤ 4000) (hp0 : (0 : Int32) < N) :
    MetFree l (⟨"java/lang/StringLatin1", "indexOf", "([BIII)I"⟩ : MethodName) (head1 (Jvm.Cond.code (⟨"java/lang/StringLatin1", "indexOf", "([BIII)I"⟩ : MethodName) jdk_43_method_22_code 4 (some .int) :: ws) ({ frames := 1, cells := 0, slots := 0, locals := 17 } : Room)) (fun aq Uq => aq = #[(.ref t), (.int (46 : Int32)), (.int (0 : Int32)), (.int N)] ∧ Z.Warmed39 Uq.vm ∧ Uq.heap = h0) (fun _ _ _ _ _ => True) (fun _ Uq oq Uq' => ∃ vq Lq, oq = .returned vq ∧ own_Q_latIx Z t kt N ds n h0 n0 vq Uq'.heap Lq ∧ FrameEnd Uq oq Uq' Lq ({ frames := 1, cells := 0, slots := 0, locals := 17 } : Room).cells ({ frames := 1, cells := 0, slots := 0, locals := 17 } : Room).slots) := by
  refine MetFree.of_bodySF (plainFor_of_name own_pn2) hisR ?_
  intro p e s m args below meth cde s₁ Bd hml0 hP hK
  obtain ⟨rfl, hZ, hh⟩ := hP
  have hx := Bd.exec
  have hby := Bd.bytes
  have hml : cde.maxLocals = 4 := hml0
  have hown : s.vm.findClass "java/lang/StringLatin1" = some m.cls := findClass_of_methodNamed Bd.named
  have hnm := (name_of_methodNamed Bd.named Bd.method).1
  have X0 : Stand p l e ({ frames := 1, cells := 0, slots := 0, locals := 17 } : Room) s m #[(.ref t), (.int (46 : Int32)), (.int (0 : Int32)), (.int N)] below meth cde s₁ [] 0 0 := Stand.of_body Bd
  have e0 : s₁.heap = h0 := by rw [← hh, Bd.state]; rfl
  have N0 := Fr.nil n0
  show own_Fin p e s below (own_Q_latIx Z t kt N ds n h0 n0) ({ frames := 1, cells := 0, slots := 0, locals := 17 } : Room).cells ({ frames := 1, cells := 0, slots := 0, locals := 17 } : Room).slots s₁ (entryFrame m #[(.ref t), (.int (46 : Int32)), (.int (0 : Int32)), (.int N)] 4)
  rw [own_ef_latIx m t N]
  refine own_via (fun _ k => XS.iloadN X0.here hx rfl (hb hby own_d_jdk_43_22_0) rfl k) ?_
  show own_Fin _ _ _ _ _ _ _ s₁ (mkF m 1 #[.val (.ref t), .val (.int (46 : Int32)), .val (.int (0 : Int32)), .val (.int N)] [(.int (46 : Int32))])
  obtain ⟨_, _, ⟨T1_, L1_, k1_, n1_⟩, -, X1_, ⟨Lc1_, hQ1_, l1_, y1_, z1_⟩, st1_⟩ := Jvm.LawKit.callS X0 hx (y := (⟨"java/lang/StringLatin1", "canEncode", "(I)Z"⟩ : MethodName)) hown (mvT hZ (hw _ (List.mem_of_getElem? (i := 78) rfl))) (mvT hZ (hw _ (List.mem_of_getElem? (i := 79) rfl))) (mvT hZ (hw _ (List.mem_of_getElem? (i := 76) rfl))) (mvT hZ (hw _ (List.mem_of_getElem? (i := 80) rfl))) (by decide) (backOf (W := 0) (own_rm_canE l Z a0 hw [] (46 : Int32) h0 n0 Z0 (by decide) (by decide)) hZ (hw _ (List.mem_of_getElem? (i := 80) rfl)) (hw _ (List.mem_of_getElem? (i := 76) rfl)) (by decide) (by decide)) (g := (mkF m 1 #[.val (.ref t), .val (.int (46 : Int32)), .val (.int (0 : Int32)), .val (.int N)] [(.int (46 : Int32))])) rfl (by rw [hml]; rfl) (argsL := [(.int (46 : Int32))]) (rest := []) (lenOf own_pd5 rfl) rfl (by show 2 * 0 + _ ≤ _; exact Nat.le_of_eq rfl) (hb hby own_d_jdk_43_22_1) (fun _ _ => ⟨rfl, e0, (by decide : 0 + 0 ≤ _), (by decide : 0 + 0 ≤ _)⟩)
  dsimp only [Pt.U, Pt.locs, Pt.cells, Pt.slots] at X1_ l1_ y1_ z1_ st1_ hQ1_
  subst l1_ y1_ z1_
  obtain ⟨rfl, Nq1_, hh1_⟩ := hQ1_
  have N1_ := Fr.app N0 Nq1_
  refine own_via (fun _ k => st1_ _ k) ?_
  show own_Fin _ _ _ _ _ _ _ T1_ (mkF m 4 #[.val (.ref t), .val (.int (46 : Int32)), .val (.int (0 : Int32)), .val (.int N)] [(.int (1 : Int32))])
  refine own_via (fun _ k => XS.ifYes X1_.here hx rfl (pc0 := 4) (pc' := 9) rfl (hb hby own_d_jdk_43_22_4) rfl ((if0 _ _).trans (feq (by decide)).2) (by decide) (by decide) k) ?_
  show own_Fin _ _ _ _ _ _ _ T1_ (mkF m 9 #[.val (.ref t), .val (.int (46 : Int32)), .val (.int (0 : Int32)), .val (.int N)] [])
  refine own_via (fun _ k => XS.iloadN X1_.here hx rfl (hb hby own_d_jdk_43_22_9) rfl k) ?_
  show own_Fin _ _ _ _ _ _ _ T1_ (mkF m 10 #[.val (.ref t), .val (.int (46 : Int32)), .val (.int (0 : Int32)), .val (.int N)] [(.int (0 : Int32))])
  refine own_via (fun _ k => XS.iconst X1_.here hx rfl (hb hby own_d_jdk_43_22_10) k) ?_
  show own_Fin _ _ _ _ _ _ _ T1_ (mkF m 11 #[.val (.ref t), .val (.int (46 : Int32)), .val (.int (0 : Int32)), .val (.int N)] [(.int (0 : Int32)), (.int (0 : Int32))])
  obtain ⟨_, _, ⟨T2_, L2_, k2_, n2_⟩, -, X2_, ⟨Lc2_, hQ2_, l2_, y2_, z2_⟩, st2_⟩ := Jvm.LawKit.callS X1_ hx (y := (⟨"java/lang/Math", "max", "(II)I"⟩ : MethodName)) hown (mvT hZ (hw _ (List.mem_of_getElem? (i := 81) rfl))) (mvT hZ (hw _ (List.mem_of_getElem? (i := 82) rfl))) (mvT hZ (hw _ (List.mem_of_getElem? (i := 83) rfl))) (mvT hZ (hw _ (List.mem_of_getElem? (i := 84) rfl))) (by decide) (backOf (W := 0) (own_rm_maxI l Z a0 hw [] (0 : Int32) (0 : Int32) h0 n0 Z0 (by decide)) hZ (hw _ (List.mem_of_getElem? (i := 84) rfl)) (hw _ (List.mem_of_getElem? (i := 83) rfl)) (by decide) (by decide)) (g := (mkF m 11 #[.val (.ref t), .val (.int (46 : Int32)), .val (.int (0 : Int32)), .val (.int N)] [(.int (0 : Int32)), (.int (0 : Int32))])) rfl (by rw [hml]; rfl) (argsL := [(.int (0 : Int32)), (.int (0 : Int32))]) (rest := []) (lenOf own_pd6 rfl) rfl (by show 2 * 0 + _ ≤ _; exact Nat.le_of_eq rfl) (hb hby own_d_jdk_43_22_11) (fun _ _ => ⟨rfl, hh1_, (by decide : 0 + 0 + 0 ≤ _), (by decide : 0 + 0 + 0 ≤ _)⟩)
  dsimp only [Pt.U, Pt.locs, Pt.cells, Pt.slots] at X2_ l2_ y2_ z2_ st2_ hQ2_
  subst l2_ y2_ z2_
  obtain ⟨rfl, Nq2_, hh2_⟩ := hQ2_
  have N2_ := Fr.app N1_ Nq2_
  refine own_via (fun _ k => st2_ _ k) ?_
  show own_Fin _ _ _ _ _ _ _ T2_ (mkF m 14 #[.val (.ref t), .val (.int (46 : Int32)), .val (.int (0 : Int32)), .val (.int N)] [(.int (0 : Int32))])
  refine own_via (fun _ k => XS.istoreN X2_.here hx rfl (hb hby own_d_jdk_43_22_14) rfl (l' := #[.val (.ref t), .val (.int (46 : Int32)), .val (.int (0 : Int32)), .val (.int N)]) rfl k) ?_
  show own_Fin _ _ _ _ _ _ _ T2_ (mkF m 15 #[.val (.ref t), .val (.int (46 : Int32)), .val (.int (0 : Int32)), .val (.int N)] [])
  refine own_via (fun _ k => XS.iloadN X2_.here hx rfl (hb hby own_d_jdk_43_22_15) rfl k) ?_
  show own_Fin _ _ _ _ _ _ _ T2_ (mkF m 16 #[.val (.ref t), .val (.int (46 : Int32)), .val (.int (0 : Int32)), .val (.int N)] [(.int N)])
  refine own_via (fun _ k => XS.aloadN X2_.here hx rfl (hb hby own_d_jdk_43_22_16) rfl rfl k) ?_
  show own_Fin _ _ _ _ _ _ _ T2_ (mkF m 17 #[.val (.ref t), .val (.int (46 : Int32)), .val (.int (0 : Int32)), .val (.int N)] [(.ref t), (.int N)])
  obtain ⟨c3_, Ar3_, -, S3_, M3_, -, -⟩ := (id Va)
  refine own_via (fun _ k => X2_.arraylength hx (by rw [hh2_]; exact Ar3_.1) (State.isArrayOf_alike hZ.alike Ar3_.2.1) (g := (mkF m 17 #[.val (.ref t), .val (.int (46 : Int32)), .val (.int (0 : Int32)), .val (.int N)] [(.ref t), (.int N)])) rfl rfl (hb hby own_d_jdk_43_22_17) _ (by rw [len_of S3_ M3_]; exact k)) ?_
  show own_Fin _ _ _ _ _ _ _ T2_ (mkF m 18 #[.val (.ref t), .val (.int (46 : Int32)), .val (.int (0 : Int32)), .val (.int N)] [(.int N), (.int N)])
  obtain ⟨_, _, ⟨T4_, L4_, k4_, n4_⟩, -, X4_, ⟨Lc4_, hQ4_, l4_, y4_, z4_⟩, st4_⟩ := Jvm.LawKit.callS X2_ hx (y := (⟨"java/lang/Math", "min", "(II)I"⟩ : MethodName)) hown (mvT hZ (hw _ (List.mem_of_getElem? (i := 85) rfl))) (mvT hZ (hw _ (List.mem_of_getElem? (i := 86) rfl))) (mvT hZ (hw _ (List.mem_of_getElem? (i := 83) rfl))) (mvT hZ (hw _ (List.mem_of_getElem? (i := 87) rfl))) (by decide) (backOf (W := 0) (own_rm_minI l Z a0 hw [] N N h0 n0 Z0 (fun q => Int32.lt_irrefl q)) hZ (hw _ (List.mem_of_getElem? (i := 87) rfl)) (hw _ (List.mem_of_getElem? (i := 83) rfl)) (by decide) (by decide)) (g := (mkF m 18 #[.val (.ref t), .val (.int (46 : Int32)), .val (.int (0 : Int32)), .val (.int N)] [(.int N), (.int N)])) rfl (by rw [hml]; rfl) (argsL := [(.int N), (.int N)]) (rest := []) (lenOf own_pd6 rfl) rfl (by show 2 * 0 + _ ≤ _; exact Nat.le_of_eq rfl) (hb hby own_d_jdk_43_22_18) (fun _ _ => ⟨rfl, hh2_, (by decide : 0 + 0 + 0 + 0 ≤ _), (by decide : 0 + 0 + 0 + 0 ≤ _)⟩)
  dsimp only [Pt.U, Pt.locs, Pt.cells, Pt.slots] at X4_ l4_ y4_ z4_ st4_ hQ4_
  subst l4_ y4_ z4_
  obtain ⟨rfl, Nq4_, hh4_⟩ := hQ4_
  have N4_ := Fr.app N2_ Nq4_
  refine own_via (fun _ k => st4_ _ k) ?_
  show own_Fin _ _ _ _ _ _ _ T4_ (mkF m 21 #[.val (.ref t), .val (.int (46 : Int32)), .val (.int (0 : Int32)), .val (.int N)] [(.int N)])
  refine own_via (fun _ k => XS.istoreN X4_.here hx rfl (hb hby own_d_jdk_43_22_21) rfl (l' := #[.val (.ref t), .val (.int (46 : Int32)), .val (.int (0 : Int32)), .val (.int N)]) rfl k) ?_
  show own_Fin _ _ _ _ _ _ _ T4_ (mkF m 22 #[.val (.ref t), .val (.int (46 : Int32)), .val (.int (0 : Int32)), .val (.int N)] [])
  refine own_via (fun _ k => XS.iloadN X4_.here hx rfl (hb hby own_d_jdk_43_22_22) rfl k) ?_
  show own_Fin _ _ _ _ _ _ _ T4_ (mkF m 23 #[.val (.ref t), .val (.int (46 : Int32)), .val (.int (0 : Int32)), .val (.int N)] [(.int (0 : Int32))])
  refine own_via (fun _ k => XS.iloadN X4_.here hx rfl (hb hby own_d_jdk_43_22_23) rfl k) ?_
  show own_Fin _ _ _ _ _ _ _ T4_ (mkF m 24 #[.val (.ref t), .val (.int (46 : Int32)), .val (.int (0 : Int32)), .val (.int N)] [(.int N), (.int (0 : Int32))])
  refine own_via (fun _ k => XS.icmpYes X4_.here hx rfl (pc0 := 24) (pc' := 29) rfl (hb hby own_d_jdk_43_22_24) rfl (tlt hp0).1 (by decide) (by decide) k) ?_
  show own_Fin _ _ _ _ _ _ _ T4_ (mkF m 29 #[.val (.ref t), .val (.int (46 : Int32)), .val (.int (0 : Int32)), .val (.int N)] [])
  refine own_via (fun _ k => XS.aloadN X4_.here hx rfl (hb hby own_d_jdk_43_22_29) rfl rfl k) ?_
  show own_Fin _ _ _ _ _ _ _ T4_ (mkF m 30 #[.val (.ref t), .val (.int (46 : Int32)), .val (.int (0 : Int32)), .val (.int N)] [(.ref t)])
  refine own_via (fun _ k => XS.iloadN X4_.here hx rfl (hb hby own_d_jdk_43_22_30) rfl k) ?_
  show own_Fin _ _ _ _ _ _ _ T4_ (mkF m 31 #[.val (.ref t), .val (.int (46 : Int32)), .val (.int (0 : Int32)), .val (.int N)] [(.int (46 : Int32)), (.ref t)])
  refine own_via (fun _ k => XS.iloadN X4_.here hx rfl (hb hby own_d_jdk_43_22_31) rfl k) ?_
  show own_Fin _ _ _ _ _ _ _ T4_ (mkF m 32 #[.val (.ref t), .val (.int (46 : Int32)), .val (.int (0 : Int32)), .val (.int N)] [(.int (0 : Int32)), (.int (46 : Int32)), (.ref t)])
  refine own_via (fun _ k => XS.iloadN X4_.here hx rfl (hb hby own_d_jdk_43_22_32) rfl k) ?_
  show own_Fin _ _ _ _ _ _ _ T4_ (mkF m 33 #[.val (.ref t), .val (.int (46 : Int32)), .val (.int (0 : Int32)), .val (.int N)] [(.int N), (.int (0 : Int32)), (.int (46 : Int32)), (.ref t)])
  obtain ⟨_, _, ⟨T5_, L5_, k5_, n5_⟩, -, X5_, ⟨Lc5_, hQ5_, l5_, y5_, z5_⟩, st5_⟩ := Jvm.LawKit.callS X4_ hx (y := (⟨"java/lang/StringLatin1", "indexOfChar", "([BIII)I"⟩ : MethodName)) hown (mvT hZ (hw _ (List.mem_of_getElem? (i := 88) rfl))) (mvT hZ (hw _ (List.mem_of_getElem? (i := 89) rfl))) (mvT hZ (hw _ (List.mem_of_getElem? (i := 76) rfl))) (mvT hZ (hw _ (List.mem_of_getElem? (i := 90) rfl))) (by decide) (backOf (W := 0) (own_rm_ixCh l Z a0 hw [] t kt N ds n h0 n0 Z0 Va hN hn) hZ (hw _ (List.mem_of_getElem? (i := 90) rfl)) (hw _ (List.mem_of_getElem? (i := 76) rfl)) (by decide) (by decide)) (g := (mkF m 33 #[.val (.ref t), .val (.int (46 : Int32)), .val (.int (0 : Int32)), .val (.int N)] [(.int N), (.int (0 : Int32)), (.int (46 : Int32)), (.ref t)])) rfl (by rw [hml]; rfl) (argsL := [(.ref t), (.int (46 : Int32)), (.int (0 : Int32)), (.int N)]) (rest := []) (lenOf own_pd7 rfl) rfl (by show 2 * 0 + _ ≤ _; exact Nat.le_of_eq rfl) (hb hby own_d_jdk_43_22_33) (fun _ _ => ⟨rfl, hh4_, (by decide : 0 + 0 + 0 + 0 + 0 ≤ _), (by decide : 0 + 0 + 0 + 0 + 0 ≤ _)⟩)
  dsimp only [Pt.U, Pt.locs, Pt.cells, Pt.slots] at X5_ l5_ y5_ z5_ st5_ hQ5_
  subst l5_ y5_ z5_
  obtain ⟨r, rfl, Nq5_, hh5_, hr⟩ := hQ5_
  have N5_ := Fr.app N4_ Nq5_
  refine own_via (fun _ k => st5_ _ k) ?_
  show own_Fin _ _ _ _ _ _ _ T5_ (mkF m 36 #[.val (.ref t), .val (.int (46 : Int32)), .val (.int (0 : Int32)), .val (.int N)] [(.int r)])
  exact own_retI X5_ hx Bd.returns Bd.notSynchronized (hb hby own_d_jdk_43_22_36) hh5_ rfl ⟨r, rfl, N5_, rfl, hr⟩ (by decide) (by decide)
theorem own_d_jdk_42_80_0 : decode jdk_42_method_80_code 0 = .ok (.aload_n 0, 1) := by decide +kernel
theorem own_d_jdk_42_80_1 : decode jdk_42_method_80_code 1 = .ok (.invokevirtual 492, 3) := by decide +kernel
theorem own_d_jdk_42_80_4 : decode jdk_42_method_80_code 4 = .ok (.ifCond .eq 19, 3) := by decide +kernel
theorem own_d_jdk_42_80_7 : decode jdk_42_method_80_code 7 = .ok (.aload_n 0, 1) := by decide +kernel
theorem own_d_jdk_42_80_8 : decode jdk_42_method_80_code 8 = .ok (.getfield 9, 3) := by decide +kernel
theorem own_d_jdk_42_80_11 : decode jdk_42_method_80_code 11 = .ok (.iload_n 1, 1) := by decide +kernel
theorem own_d_jdk_42_80_12 : decode jdk_42_method_80_code 12 = .ok (.iload_n 2, 1) := by decide +kernel
theorem own_d_jdk_42_80_13 : decode jdk_42_method_80_code 13 = .ok (.aload_n 0, 1) := by decide +kernel
theorem own_d_jdk_42_80_14 : decode jdk_42_method_80_code 14 = .ok (.invokevirtual 505, 3) := by decide +kernel
theorem own_pd8 : parseMethodDescriptor "()I" = some ⟨[], some .int⟩ := by decide +kernel
theorem own_d_jdk_42_80_17 : decode jdk_42_method_80_code 17 = .ok (.invokestatic 637, 3) := by decide +kernel
theorem own_d_jdk_42_80_20 : decode jdk_42_method_80_code 20 = .ok (.goto 16, 3) := by decide +kernel
theorem own_d_jdk_42_80_36 : decode jdk_42_method_80_code 36 = .ok (.ireturn, 1) := by decide +kernel
theorem own_ef_ix2 (m : MethodId) (a1 : Addr) : entryFrame m #[(.ref a1), (.int (46 : Int32)), (.int (0 : Int32))] 3 = mkF m 0 #[.val (.ref a1), .val (.int (46 : Int32)), .val (.int (0 : Int32))] [] := by (first | (simp [entryFrame, mkF, argsToLocals, Value.category]; done) | rfl)
def own_Q_ix2 (Z : State) (a1 : Addr) (cz : Int32) (t : Addr) (kt : ClassId) (N : Int32) (ds : List Int32) (n : Nat) (h0 : Heap) (n0 : Nat) (vq : Option Value) (h : Heap) (Lq : List Loc) : Prop := ∃ (r : Int32), (vq = some (.int r)) ∧ (Fr n0 Lq) ∧ (h = h0) ∧ (own_has ds n r)
set_option maxRecDepth 65536 in
set_option maxHeartbeats 40000000 in
theorem own_rm_ix2 (l : Launch) (Z : State) (a0 : Array Value) (hw : ∀ d ∈ tables_1, d.before a0 Z = true) (ws : List Jvm.Cond) (a1 : Addr) (cz : Int32) (t : Addr) (kt : ClassId) (N : Int32) (ds : List Int32) (n : Nat) (h0 : Heap) (n0 : Nat) (Z0 : n0 ≤ h0.size) (O0 : Old Z n0 h0) (S1 : Sta Z Z.heap "java/lang/String" "COMPACT_STRINGS" "Z" (.int cz)) (P5 : ¬ cz = (0 : Int32)) (E1 : Exa Z h0 a1 "java/lang/String") (F1 : Fld Z h0 a1 "java/lang/String" "coder" "B" (.int (0 : Int32))) (F2 : Fld Z h0 a1 "java/lang/String" "value" "[B" (.ref t)) (Va : Arv Z h0 t kt .byte N (ds.map Value.int) (.int 0)) (hN : N = Int32.ofNat n) (hn : n ≤ 4000) (hp0 : (0 : Int32) < N) :
    MetFree l (⟨"java/lang/String", "indexOf", "(II)I"⟩ : MethodName) (head1 (Jvm.Cond.code (⟨"java/lang/String", "indexOf", "(II)I"⟩ : MethodName) jdk_42_method_80_code 3 (some .int) :: ws) ({ frames := 2, cells := 0, slots := 0, locals := 32 } : Room)) (fun aq Uq => aq = #[(.ref a1), (.int (46 : Int32)), (.int (0 : Int32))] ∧ Z.Warmed39 Uq.vm ∧ Uq.heap = h0) (fun _ _ _ _ _ => True) (fun _ Uq oq Uq' => ∃ vq Lq, oq = .returned vq ∧ own_Q_ix2 Z a1 cz t kt N ds n h0 n0 vq Uq'.heap Lq ∧ FrameEnd Uq oq Uq' Lq ({ frames := 2, cells := 0, slots := 0, locals := 32 } : Room).cells ({ frames := 2, cells := 0, slots := 0, locals := 32 } : Room).slots) := by
  refine MetFree.of_bodySF (plainFor_of_name own_pn0) hisR ?_
  intro p e s m args below meth cde s₁ Bd hml0 hP hK
  obtain ⟨rfl, hZ, hh⟩ := hP
  have hx := Bd.exec
  have hby := Bd.bytes
  have hml : cde.maxLocals = 3 := hml0
  have hown : s.vm.findClass "java/lang/String" = some m.cls := findClass_of_methodNamed Bd.named
  have hnm := (name_of_methodNamed Bd.named Bd.method).1
  have X0 : Stand p l e ({ frames := 2, cells := 0, slots := 0, locals := 32 } : Room) s m #[(.ref a1), (.int (46 : Int32)), (.int (0 : Int32))] below meth cde s₁ [] 0 0 := Stand.of_body Bd
  have e0 : s₁.heap = h0 := by rw [← hh, Bd.state]; rfl
  have N0 := Fr.nil n0
  show own_Fin p e s below (own_Q_ix2 Z a1 cz t kt N ds n h0 n0) ({ frames := 2, cells := 0, slots := 0, locals := 32 } : Room).cells ({ frames := 2, cells := 0, slots := 0, locals := 32 } : Room).slots s₁ (entryFrame m #[(.ref a1), (.int (46 : Int32)), (.int (0 : Int32))] 3)
  rw [own_ef_ix2 m a1]
  refine own_via (fun _ k => XS.aloadN X0.here hx rfl (hb hby own_d_jdk_42_80_0) rfl rfl k) ?_
  show own_Fin _ _ _ _ _ _ _ s₁ (mkF m 1 #[.val (.ref a1), .val (.int (46 : Int32)), .val (.int (0 : Int32))] [(.ref a1)])
  obtain ⟨cq1_, kq1_, q1_a, q1_b, q1_c⟩ := isOf hZ e0 E1
  obtain ⟨_, _, ⟨T1_, L1_, k1_, n1_⟩, -, X1_, ⟨Lc1_, hQ1_, l1_, y1_, z1_⟩, st1_⟩ := X0.virtualBack hx (y := (⟨"java/lang/String", "isLatin1", "()Z"⟩ : MethodName)) (z := (⟨"java/lang/String", "isLatin1", "()Z"⟩ : MethodName)) hown (mvT hZ (hw _ (List.mem_of_getElem? (i := 59) rfl))) (mvT hZ (hw _ (List.mem_of_getElem? (i := 60) rfl))) (notFace_of_selects (args := #[]) (mvT hZ (hw _ (List.mem_of_getElem? (i := 62) rfl)))) (mvT hZ (hw _ (List.mem_of_getElem? (i := 62) rfl))) (mvT hZ (hw _ (List.mem_of_getElem? (i := 61) rfl))) (by decide) (backOf (W := 0) (own_rm_isLat l Z a0 hw [] a1 cz h0 n0 Z0 O0 S1 (by first | assumption | decide) F1) hZ (hw _ (List.mem_of_getElem? (i := 63) rfl)) (hw _ (List.mem_of_getElem? (i := 9) rfl)) (by decide) (by decide)) q1_a q1_c (g := (mkF m 1 #[.val (.ref a1), .val (.int (46 : Int32)), .val (.int (0 : Int32))] [(.ref a1)])) rfl (by rw [hml]; rfl) (Steps.refl _) (argsL := []) (rest := []) (lenOf own_pd3 rfl) rfl (by show 2 * 0 + _ ≤ _; exact Nat.le_of_eq rfl) (hb hby own_d_jdk_42_80_1) (fun _ _ => ⟨rfl, e0, (by decide : 0 + 0 ≤ _), (by decide : 0 + 0 ≤ _)⟩)
  dsimp only [Pt.U, Pt.locs, Pt.cells, Pt.slots] at X1_ l1_ y1_ z1_ st1_ hQ1_
  subst l1_ y1_ z1_
  obtain ⟨rfl, Nq1_, hh1_⟩ := hQ1_
  have N1_ := Fr.app N0 Nq1_
  refine own_via (fun _ k => st1_.trans k) ?_
  show own_Fin _ _ _ _ _ _ _ T1_ (mkF m 4 #[.val (.ref a1), .val (.int (46 : Int32)), .val (.int (0 : Int32))] [(.int (1 : Int32))])
  refine own_via (fun _ k => XS.ifNo X1_.here hx rfl (hb hby own_d_jdk_42_80_4) rfl ((if0 _ _).trans (feq (by decide)).1) k) ?_
  show own_Fin _ _ _ _ _ _ _ T1_ (mkF m 7 #[.val (.ref a1), .val (.int (46 : Int32)), .val (.int (0 : Int32))] [])
  refine own_via (fun _ k => XS.aloadN X1_.here hx rfl (hb hby own_d_jdk_42_80_7) rfl rfl k) ?_
  show own_Fin _ _ _ _ _ _ _ T1_ (mkF m 8 #[.val (.ref a1), .val (.int (46 : Int32)), .val (.int (0 : Int32))] [(.ref a1)])
  obtain ⟨T2_, X2_, e2_, st2_⟩ := getF X1_ hx hZ hown (host := "") (Or.inl (hw _ (List.mem_of_getElem? (i := 27) rfl))) Via.refl hh1_ F2 (g := (mkF m 8 #[.val (.ref a1), .val (.int (46 : Int32)), .val (.int (0 : Int32))] [(.ref a1)])) rfl rfl (hb hby own_d_jdk_42_80_8)
  refine own_via (fun _ k => st2_ _ k) ?_
  show own_Fin _ _ _ _ _ _ _ T2_ (mkF m 11 #[.val (.ref a1), .val (.int (46 : Int32)), .val (.int (0 : Int32))] [(.ref t)])
  refine own_via (fun _ k => XS.iloadN X2_.here hx rfl (hb hby own_d_jdk_42_80_11) rfl k) ?_
  show own_Fin _ _ _ _ _ _ _ T2_ (mkF m 12 #[.val (.ref a1), .val (.int (46 : Int32)), .val (.int (0 : Int32))] [(.int (46 : Int32)), (.ref t)])
  refine own_via (fun _ k => XS.iloadN X2_.here hx rfl (hb hby own_d_jdk_42_80_12) rfl k) ?_
  show own_Fin _ _ _ _ _ _ _ T2_ (mkF m 13 #[.val (.ref a1), .val (.int (46 : Int32)), .val (.int (0 : Int32))] [(.int (0 : Int32)), (.int (46 : Int32)), (.ref t)])
  refine own_via (fun _ k => XS.aloadN X2_.here hx rfl (hb hby own_d_jdk_42_80_13) rfl rfl k) ?_
  show own_Fin _ _ _ _ _ _ _ T2_ (mkF m 14 #[.val (.ref a1), .val (.int (46 : Int32)), .val (.int (0 : Int32))] [(.ref a1), (.int (0 : Int32)), (.int (46 : Int32)), (.ref t)])
  obtain ⟨cq3_, kq3_, q3_a, q3_b, q3_c⟩ := isOf hZ e2_ E1
  obtain ⟨_, _, ⟨T3_, L3_, k3_, n3_⟩, -, X3_, ⟨Lc3_, hQ3_, l3_, y3_, z3_⟩, st3_⟩ := X2_.virtualBack hx (y := (⟨"java/lang/String", "length", "()I"⟩ : MethodName)) (z := (⟨"java/lang/String", "length", "()I"⟩ : MethodName)) hown (mvT hZ (hw _ (List.mem_of_getElem? (i := 64) rfl))) (mvT hZ (hw _ (List.mem_of_getElem? (i := 65) rfl))) (notFace_of_selects (args := #[]) (mvT hZ (hw _ (List.mem_of_getElem? (i := 67) rfl)))) (mvT hZ (hw _ (List.mem_of_getElem? (i := 67) rfl))) (mvT hZ (hw _ (List.mem_of_getElem? (i := 66) rfl))) (by decide) (backOf (W := 3) (own_rm_len l Z a0 hw [] a1 cz t kt N ds h0 n0 Z0 O0 S1 (by first | assumption | decide) E1 F1 F2 Va) hZ (hw _ (List.mem_of_getElem? (i := 68) rfl)) (hw _ (List.mem_of_getElem? (i := 9) rfl)) (by decide) (by decide)) q3_a q3_c (g := (mkF m 14 #[.val (.ref a1), .val (.int (46 : Int32)), .val (.int (0 : Int32))] [(.ref a1), (.int (0 : Int32)), (.int (46 : Int32)), (.ref t)])) rfl (by rw [hml]; rfl) (Steps.refl _) (argsL := []) (rest := [(.int (0 : Int32)), (.int (46 : Int32)), (.ref t)]) (lenOf own_pd8 rfl) rfl (by show 2 * 0 + _ ≤ _; exact Nat.le_of_eq rfl) (hb hby own_d_jdk_42_80_14) (fun _ _ => ⟨rfl, e2_, (by decide : 0 + 0 + 0 ≤ _), (by decide : 0 + 0 + 0 ≤ _)⟩)
  dsimp only [Pt.U, Pt.locs, Pt.cells, Pt.slots] at X3_ l3_ y3_ z3_ st3_ hQ3_
  subst l3_ y3_ z3_
  obtain ⟨rfl, Nq3_, hh3_⟩ := hQ3_
  have N3_ := Fr.app N1_ Nq3_
  refine own_via (fun _ k => st3_.trans k) ?_
  show own_Fin _ _ _ _ _ _ _ T3_ (mkF m 17 #[.val (.ref a1), .val (.int (46 : Int32)), .val (.int (0 : Int32))] [(.int N), (.int (0 : Int32)), (.int (46 : Int32)), (.ref t)])
  obtain ⟨_, _, ⟨T4_, L4_, k4_, n4_⟩, -, X4_, ⟨Lc4_, hQ4_, l4_, y4_, z4_⟩, st4_⟩ := Jvm.LawKit.callS X3_ hx (y := (⟨"java/lang/StringLatin1", "indexOf", "([BIII)I"⟩ : MethodName)) hown (mvT hZ (hw _ (List.mem_of_getElem? (i := 74) rfl))) (mvT hZ (hw _ (List.mem_of_getElem? (i := 75) rfl))) (mvT hZ (hw _ (List.mem_of_getElem? (i := 76) rfl))) (mvT hZ (hw _ (List.mem_of_getElem? (i := 77) rfl))) (by decide) (backOf (W := 0) (own_rm_latIx l Z a0 hw [] t kt N ds n h0 n0 Z0 Va hN hn hp0) hZ (hw _ (List.mem_of_getElem? (i := 77) rfl)) (hw _ (List.mem_of_getElem? (i := 76) rfl)) (by decide) (by decide)) (g := (mkF m 17 #[.val (.ref a1), .val (.int (46 : Int32)), .val (.int (0 : Int32))] [(.int N), (.int (0 : Int32)), (.int (46 : Int32)), (.ref t)])) rfl (by rw [hml]; rfl) (argsL := [(.ref t), (.int (46 : Int32)), (.int (0 : Int32)), (.int N)]) (rest := []) (lenOf own_pd7 rfl) rfl (by show 2 * 0 + _ ≤ _; exact Nat.le_of_eq rfl) (hb hby own_d_jdk_42_80_17) (fun _ _ => ⟨rfl, hh3_, (by decide : 0 + 0 + 0 + 0 ≤ _), (by decide : 0 + 0 + 0 + 0 ≤ _)⟩)
  dsimp only [Pt.U, Pt.locs, Pt.cells, Pt.slots] at X4_ l4_ y4_ z4_ st4_ hQ4_
  subst l4_ y4_ z4_
  obtain ⟨r, rfl, Nq4_, hh4_, hr⟩ := hQ4_
  have N4_ := Fr.app N3_ Nq4_
  refine own_via (fun _ k => st4_ _ k) ?_
  show own_Fin _ _ _ _ _ _ _ T4_ (mkF m 20 #[.val (.ref a1), .val (.int (46 : Int32)), .val (.int (0 : Int32))] [(.int r)])
  refine own_via (fun _ k => XS.goto X4_.here hx rfl (pc0 := 20) (pc' := 36) rfl (hb hby own_d_jdk_42_80_20) (by decide) (by decide) k) ?_
  show own_Fin _ _ _ _ _ _ _ T4_ (mkF m 36 #[.val (.ref a1), .val (.int (46 : Int32)), .val (.int (0 : Int32))] [(.int r)])
  exact own_retI X4_ hx Bd.returns Bd.notSynchronized (hb hby own_d_jdk_42_80_36) hh4_ rfl ⟨r, rfl, N4_, rfl, hr⟩ (by decide) (by decide)
theorem own_d_jdk_42_79_0 : decode jdk_42_method_79_code 0 = .ok (.aload_n 0, 1) := by decide +kernel
theorem own_d_jdk_42_79_1 : decode jdk_42_method_79_code 1 = .ok (.iload_n 1, 1) := by decide +kernel
theorem own_d_jdk_42_79_2 : decode jdk_42_method_79_code 2 = .ok (.iconst 0, 1) := by decide +kernel
theorem own_d_jdk_42_79_3 : decode jdk_42_method_79_code 3 = .ok (.invokevirtual 633, 3) := by decide +kernel
theorem own_d_jdk_42_79_6 : decode jdk_42_method_79_code 6 = .ok (.ireturn, 1) := by decide +kernel
theorem own_ef_ix1 (m : MethodId) (a1 : Addr) : entryFrame m #[(.ref a1), (.int (46 : Int32))] 2 = mkF m 0 #[.val (.ref a1), .val (.int (46 : Int32))] [] := by (first | (simp [entryFrame, mkF, argsToLocals, Value.category]; done) | rfl)
def own_Q_ix1 (Z : State) (a1 : Addr) (cz : Int32) (t : Addr) (kt : ClassId) (N : Int32) (ds : List Int32) (n : Nat) (h0 : Heap) (n0 : Nat) (vq : Option Value) (h : Heap) (Lq : List Loc) : Prop := ∃ (r : Int32), (vq = some (.int r)) ∧ (Fr n0 Lq) ∧ (h = h0) ∧ (own_has ds n r)
set_option maxRecDepth 65536 in
set_option maxHeartbeats 40000000 in
theorem own_rm_ix1 (l : Launch) (Z : State) (a0 : Array Value) (hw : ∀ d ∈ tables_1, d.before a0 Z = true) (ws : List Jvm.Cond) (a1 : Addr) (cz : Int32) (t : Addr) (kt : ClassId) (N : Int32) (ds : List Int32) (n : Nat) (h0 : Heap) (n0 : Nat) (Z0 : n0 ≤ h0.size) (O0 : Old Z n0 h0) (S1 : Sta Z Z.heap "java/lang/String" "COMPACT_STRINGS" "Z" (.int cz)) (P5 : ¬ cz = (0 : Int32)) (E1 : Exa Z h0 a1 "java/lang/String") (F1 : Fld Z h0 a1 "java/lang/String" "coder" "B" (.int (0 : Int32))) (F2 : Fld Z h0 a1 "java/lang/String" "value" "[B" (.ref t)) (Va : Arv Z h0 t kt .byte N (ds.map Value.int) (.int 0)) (hN : N = Int32.ofNat n) (hn : n ≤ 4000) (hp0 : (0 : Int32) < N) :
    MetFree l (⟨"java/lang/String", "indexOf", "(I)I"⟩ : MethodName) (head1 (Jvm.Cond.code (⟨"java/lang/String", "indexOf", "(I)I"⟩ : MethodName) jdk_42_method_79_code 2 (some .int) :: ws) ({ frames := 3, cells := 0, slots := 0, locals := 46 } : Room)) (fun aq Uq => aq = #[(.ref a1), (.int (46 : Int32))] ∧ Z.Warmed39 Uq.vm ∧ Uq.heap = h0) (fun _ _ _ _ _ => True) (fun _ Uq oq Uq' => ∃ vq Lq, oq = .returned vq ∧ own_Q_ix1 Z a1 cz t kt N ds n h0 n0 vq Uq'.heap Lq ∧ FrameEnd Uq oq Uq' Lq ({ frames := 3, cells := 0, slots := 0, locals := 46 } : Room).cells ({ frames := 3, cells := 0, slots := 0, locals := 46 } : Room).slots) := by
  refine MetFree.of_bodySF (plainFor_of_name own_pn0) hisR ?_
  intro p e s m args below meth cde s₁ Bd hml0 hP hK
  obtain ⟨rfl, hZ, hh⟩ := hP
  have hx := Bd.exec
  have hby := Bd.bytes
  have hml : cde.maxLocals = 2 := hml0
  have hown : s.vm.findClass "java/lang/String" = some m.cls := findClass_of_methodNamed Bd.named
  have hnm := (name_of_methodNamed Bd.named Bd.method).1
  have X0 : Stand p l e ({ frames := 3, cells := 0, slots := 0, locals := 46 } : Room) s m #[(.ref a1), (.int (46 : Int32))] below meth cde s₁ [] 0 0 := Stand.of_body Bd
  have e0 : s₁.heap = h0 := by rw [← hh, Bd.state]; rfl
  have N0 := Fr.nil n0
  show own_Fin p e s below (own_Q_ix1 Z a1 cz t kt N ds n h0 n0) ({ frames := 3, cells := 0, slots := 0, locals := 46 } : Room).cells ({ frames := 3, cells := 0, slots := 0, locals := 46 } : Room).slots s₁ (entryFrame m #[(.ref a1), (.int (46 : Int32))] 2)
  rw [own_ef_ix1 m a1]
  refine own_via (fun _ k => XS.aloadN X0.here hx rfl (hb hby own_d_jdk_42_79_0) rfl rfl k) ?_
  show own_Fin _ _ _ _ _ _ _ s₁ (mkF m 1 #[.val (.ref a1), .val (.int (46 : Int32))] [(.ref a1)])
  refine own_via (fun _ k => XS.iloadN X0.here hx rfl (hb hby own_d_jdk_42_79_1) rfl k) ?_
  show own_Fin _ _ _ _ _ _ _ s₁ (mkF m 2 #[.val (.ref a1), .val (.int (46 : Int32))] [(.int (46 : Int32)), (.ref a1)])
  refine own_via (fun _ k => XS.iconst X0.here hx rfl (hb hby own_d_jdk_42_79_2) k) ?_
  show own_Fin _ _ _ _ _ _ _ s₁ (mkF m 3 #[.val (.ref a1), .val (.int (46 : Int32))] [(.int (0 : Int32)), (.int (46 : Int32)), (.ref a1)])
  obtain ⟨cq1_, kq1_, q1_a, q1_b, q1_c⟩ := isOf hZ e0 E1
  obtain ⟨_, _, ⟨T1_, L1_, k1_, n1_⟩, -, X1_, ⟨Lc1_, hQ1_, l1_, y1_, z1_⟩, st1_⟩ := X0.virtualBack hx (y := (⟨"java/lang/String", "indexOf", "(II)I"⟩ : MethodName)) (z := (⟨"java/lang/String", "indexOf", "(II)I"⟩ : MethodName)) hown (mvT hZ (hw _ (List.mem_of_getElem? (i := 54) rfl))) (mvT hZ (hw _ (List.mem_of_getElem? (i := 55) rfl))) (notFace_of_selects (args := #[]) (mvT hZ (hw _ (List.mem_of_getElem? (i := 57) rfl)))) (mvT hZ (hw _ (List.mem_of_getElem? (i := 57) rfl))) (mvT hZ (hw _ (List.mem_of_getElem? (i := 56) rfl))) (by decide) (backOf (W := 0) (own_rm_ix2 l Z a0 hw [] a1 cz t kt N ds n h0 n0 Z0 O0 S1 (by first | assumption | decide) E1 F1 F2 Va hN hn hp0) hZ (hw _ (List.mem_of_getElem? (i := 58) rfl)) (hw _ (List.mem_of_getElem? (i := 9) rfl)) (by decide) (by decide)) q1_a q1_c (g := (mkF m 3 #[.val (.ref a1), .val (.int (46 : Int32))] [(.int (0 : Int32)), (.int (46 : Int32)), (.ref a1)])) rfl (by rw [hml]; rfl) (Steps.refl _) (argsL := [(.int (46 : Int32)), (.int (0 : Int32))]) (rest := []) (lenOf own_pd6 rfl) rfl (by show 2 * 0 + _ ≤ _; exact Nat.le_of_eq rfl) (hb hby own_d_jdk_42_79_3) (fun _ _ => ⟨rfl, e0, (by decide : 0 + 0 ≤ _), (by decide : 0 + 0 ≤ _)⟩)
  dsimp only [Pt.U, Pt.locs, Pt.cells, Pt.slots] at X1_ l1_ y1_ z1_ st1_ hQ1_
  subst l1_ y1_ z1_
  obtain ⟨r, rfl, Nq1_, hh1_, hr⟩ := hQ1_
  have N1_ := Fr.app N0 Nq1_
  refine own_via (fun _ k => st1_.trans k) ?_
  show own_Fin _ _ _ _ _ _ _ T1_ (mkF m 6 #[.val (.ref a1), .val (.int (46 : Int32))] [(.int r)])
  exact own_retI X1_ hx Bd.returns Bd.notSynchronized (hb hby own_d_jdk_42_79_6) hh1_ rfl ⟨r, rfl, N1_, rfl, hr⟩ (by decide) (by decide)
theorem own_d_jdk_43_25_0 : decode jdk_43_method_25_code 0 = .ok (.aload_n 2, 1) := by decide +kernel
theorem own_d_jdk_43_25_1 : decode jdk_43_method_25_code 1 = .ok (.iconst 0, 1) := by decide +kernel
theorem own_d_jdk_43_25_2 : decode jdk_43_method_25_code 2 = .ok (.baload, 1) := by decide +kernel
theorem own_d_jdk_43_25_3 : decode jdk_43_method_25_code 3 = .ok (.istore 5, 2) := by decide +kernel
theorem own_d_jdk_43_25_5 : decode jdk_43_method_25_code 5 = .ok (.iload_n 1, 1) := by decide +kernel
theorem own_d_jdk_43_25_6 : decode jdk_43_method_25_code 6 = .ok (.iload_n 3, 1) := by decide +kernel
theorem own_d_jdk_43_25_7 : decode jdk_43_method_25_code 7 = .ok (.isub, 1) := by decide +kernel
theorem own_d_jdk_43_25_8 : decode jdk_43_method_25_code 8 = .ok (.istore 6, 2) := by decide +kernel
theorem own_d_jdk_43_25_10 : decode jdk_43_method_25_code 10 = .ok (.iload 4, 2) := by decide +kernel
theorem own_d_jdk_43_25_12 : decode jdk_43_method_25_code 12 = .ok (.istore 7, 2) := by decide +kernel
theorem own_d_jdk_43_25_14 : decode jdk_43_method_25_code 14 = .ok (.iload 7, 2) := by decide +kernel
theorem own_d_jdk_43_25_16 : decode jdk_43_method_25_code 16 = .ok (.iload 6, 2) := by decide +kernel
theorem own_d_jdk_43_25_18 : decode jdk_43_method_25_code 18 = .ok (.if_icmp .gt 101, 3) := by decide +kernel
theorem own_d_jdk_43_25_119 : decode jdk_43_method_25_code 119 = .ok (.iconst (-1), 1) := by decide +kernel
theorem own_d_jdk_43_25_120 : decode jdk_43_method_25_code 120 = .ok (.ireturn, 1) := by decide +kernel
theorem own_d_jdk_43_25_52 : decode jdk_43_method_25_code 52 = .ok (.iload 7, 2) := by decide +kernel
theorem own_d_jdk_43_25_54 : decode jdk_43_method_25_code 54 = .ok (.iload 6, 2) := by decide +kernel
theorem own_d_jdk_43_25_56 : decode jdk_43_method_25_code 56 = .ok (.if_icmp .gt 57, 3) := by decide +kernel
theorem own_d_jdk_43_25_113 : decode jdk_43_method_25_code 113 = .ok (.iinc 7 1, 3) := by decide +kernel
theorem own_d_jdk_43_25_116 : decode jdk_43_method_25_code 116 = .ok (.goto (-102), 3) := by decide +kernel
theorem own_d_jdk_43_25_59 : decode jdk_43_method_25_code 59 = .ok (.iload 7, 2) := by decide +kernel
theorem own_d_jdk_43_25_61 : decode jdk_43_method_25_code 61 = .ok (.iconst 1, 1) := by decide +kernel
theorem own_d_jdk_43_25_62 : decode jdk_43_method_25_code 62 = .ok (.iadd, 1) := by decide +kernel
theorem own_d_jdk_43_25_63 : decode jdk_43_method_25_code 63 = .ok (.istore 8, 2) := by decide +kernel
theorem own_os_ix5_63 {z0 : Value} {z1 : Value} {z2 : Value} {z3 : Value} {z4 : Value} {z5 : Value} {z6 : Value} {z7 : Value} {s8 : Slot} {s9 : Slot} {s10 : Slot} {v : Int32} (h : One s8) : storeLocals #[.val z0, .val z1, .val z2, .val z3, .val z4, .val z5, .val z6, .val z7, s8, s9, s10] 8 (.int v) = some #[.val z0, .val z1, .val z2, .val z3, .val z4, .val z5, .val z6, .val z7, .val (.int v), s9, s10] := by
  rcases h with rfl | ⟨w, rfl, hw⟩
  · rfl
  · cases w <;> first | rfl | (simp [Value.category] at hw)
theorem own_d_jdk_43_25_65 : decode jdk_43_method_25_code 65 = .ok (.iload 8, 2) := by decide +kernel
theorem own_d_jdk_43_25_67 : decode jdk_43_method_25_code 67 = .ok (.iload_n 3, 1) := by decide +kernel
theorem own_d_jdk_43_25_68 : decode jdk_43_method_25_code 68 = .ok (.iadd, 1) := by decide +kernel
theorem own_d_jdk_43_25_69 : decode jdk_43_method_25_code 69 = .ok (.iconst 1, 1) := by decide +kernel
theorem own_d_jdk_43_25_70 : decode jdk_43_method_25_code 70 = .ok (.isub, 1) := by decide +kernel
theorem own_d_jdk_43_25_71 : decode jdk_43_method_25_code 71 = .ok (.istore 9, 2) := by decide +kernel
theorem own_os_ix5_71 {z0 : Value} {z1 : Value} {z2 : Value} {z3 : Value} {z4 : Value} {z5 : Value} {z6 : Value} {z7 : Value} {z8 : Value} {s9 : Slot} {s10 : Slot} {v : Int32} (h : One s9) : storeLocals #[.val z0, .val z1, .val z2, .val z3, .val z4, .val z5, .val z6, .val z7, .val z8, s9, s10] 9 (.int v) = some #[.val z0, .val z1, .val z2, .val z3, .val z4, .val z5, .val z6, .val z7, .val z8, .val (.int v), s10] := by
  rcases h with rfl | ⟨w, rfl, hw⟩
  · rfl
  · cases w <;> first | rfl | (simp [Value.category] at hw)
theorem own_d_jdk_43_25_73 : decode jdk_43_method_25_code 73 = .ok (.iconst 1, 1) := by decide +kernel
theorem own_d_jdk_43_25_74 : decode jdk_43_method_25_code 74 = .ok (.istore 10, 2) := by decide +kernel
theorem own_os_ix5_74 {z0 : Value} {z1 : Value} {z2 : Value} {z3 : Value} {z4 : Value} {z5 : Value} {z6 : Value} {z7 : Value} {z8 : Value} {z9 : Value} {s10 : Slot} {v : Int32} (h : One s10) : storeLocals #[.val z0, .val z1, .val z2, .val z3, .val z4, .val z5, .val z6, .val z7, .val z8, .val z9, s10] 10 (.int v) = some #[.val z0, .val z1, .val z2, .val z3, .val z4, .val z5, .val z6, .val z7, .val z8, .val z9, .val (.int v)] := by
  rcases h with rfl | ⟨w, rfl, hw⟩
  · rfl
  · cases w <;> first | rfl | (simp [Value.category] at hw)
theorem own_d_jdk_43_25_76 : decode jdk_43_method_25_code 76 = .ok (.iload 8, 2) := by decide +kernel
theorem own_d_jdk_43_25_78 : decode jdk_43_method_25_code 78 = .ok (.iload 9, 2) := by decide +kernel
theorem own_d_jdk_43_25_80 : decode jdk_43_method_25_code 80 = .ok (.if_icmp .ge 23, 3) := by decide +kernel
theorem own_d_jdk_43_25_83 : decode jdk_43_method_25_code 83 = .ok (.aload_n 0, 1) := by decide +kernel
theorem own_d_jdk_43_25_84 : decode jdk_43_method_25_code 84 = .ok (.iload 8, 2) := by decide +kernel
theorem own_d_jdk_43_25_86 : decode jdk_43_method_25_code 86 = .ok (.baload, 1) := by decide +kernel
theorem own_d_jdk_43_25_87 : decode jdk_43_method_25_code 87 = .ok (.aload_n 2, 1) := by decide +kernel
theorem own_d_jdk_43_25_88 : decode jdk_43_method_25_code 88 = .ok (.iload 10, 2) := by decide +kernel
theorem own_d_jdk_43_25_90 : decode jdk_43_method_25_code 90 = .ok (.baload, 1) := by decide +kernel
theorem own_d_jdk_43_25_91 : decode jdk_43_method_25_code 91 = .ok (.if_icmp .ne 12, 3) := by decide +kernel
theorem own_d_jdk_43_25_103 : decode jdk_43_method_25_code 103 = .ok (.iload 8, 2) := by decide +kernel
theorem own_d_jdk_43_25_105 : decode jdk_43_method_25_code 105 = .ok (.iload 9, 2) := by decide +kernel
theorem own_d_jdk_43_25_107 : decode jdk_43_method_25_code 107 = .ok (.if_icmp .ne 6, 3) := by decide +kernel
theorem own_d_jdk_43_25_94 : decode jdk_43_method_25_code 94 = .ok (.iinc 8 1, 3) := by decide +kernel
theorem own_d_jdk_43_25_97 : decode jdk_43_method_25_code 97 = .ok (.iinc 10 1, 3) := by decide +kernel
theorem own_d_jdk_43_25_100 : decode jdk_43_method_25_code 100 = .ok (.goto (-24), 3) := by decide +kernel
theorem own_d_jdk_43_25_110 : decode jdk_43_method_25_code 110 = .ok (.iload 7, 2) := by decide +kernel
theorem own_d_jdk_43_25_112 : decode jdk_43_method_25_code 112 = .ok (.ireturn, 1) := by decide +kernel
theorem own_d_jdk_43_25_30 : decode jdk_43_method_25_code 30 = .ok (.iinc 7 1, 3) := by decide +kernel
theorem own_d_jdk_43_25_33 : decode jdk_43_method_25_code 33 = .ok (.iload 7, 2) := by decide +kernel
theorem own_d_jdk_43_25_35 : decode jdk_43_method_25_code 35 = .ok (.iload 6, 2) := by decide +kernel
theorem own_d_jdk_43_25_37 : decode jdk_43_method_25_code 37 = .ok (.if_icmp .gt 15, 3) := by decide +kernel
theorem own_d_jdk_43_25_40 : decode jdk_43_method_25_code 40 = .ok (.aload_n 0, 1) := by decide +kernel
theorem own_d_jdk_43_25_41 : decode jdk_43_method_25_code 41 = .ok (.iload 7, 2) := by decide +kernel
theorem own_d_jdk_43_25_43 : decode jdk_43_method_25_code 43 = .ok (.baload, 1) := by decide +kernel
theorem own_d_jdk_43_25_44 : decode jdk_43_method_25_code 44 = .ok (.iload 5, 2) := by decide +kernel
theorem own_d_jdk_43_25_46 : decode jdk_43_method_25_code 46 = .ok (.if_icmp .eq 6, 3) := by decide +kernel
theorem own_d_jdk_43_25_49 : decode jdk_43_method_25_code 49 = .ok (.goto (-19), 3) := by decide +kernel
theorem own_d_jdk_43_25_21 : decode jdk_43_method_25_code 21 = .ok (.aload_n 0, 1) := by decide +kernel
theorem own_d_jdk_43_25_22 : decode jdk_43_method_25_code 22 = .ok (.iload 7, 2) := by decide +kernel
theorem own_d_jdk_43_25_24 : decode jdk_43_method_25_code 24 = .ok (.baload, 1) := by decide +kernel
theorem own_d_jdk_43_25_25 : decode jdk_43_method_25_code 25 = .ok (.iload 5, 2) := by decide +kernel
theorem own_d_jdk_43_25_27 : decode jdk_43_method_25_code 27 = .ok (.if_icmp .eq 25, 3) := by decide +kernel
theorem own_ef_ix5 (m : MethodId) (t : Addr) (N : Int32) (g : Addr) : entryFrame m #[(.ref t), (.int N), (.ref g), (.int (2 : Int32)), (.int (0 : Int32))] 11 = mkF m 0 #[.val (.ref t), .val (.int N), .val (.ref g), .val (.int (2 : Int32)), .val (.int (0 : Int32)), .unset, .unset, .unset, .unset, .unset, .unset] [] := by (first | (simp [entryFrame, mkF, argsToLocals, Value.category]; done) | rfl)
def own_Q_ix5 (Z : State) (t : Addr) (kt : ClassId) (N : Int32) (ds : List Int32) (n : Nat) (g : Addr) (kg : ClassId) (h0 : Heap) (n0 : Nat) (vq : Option Value) (h : Heap) (Lq : List Loc) : Prop := ∃ (r : Int32), (vq = some (.int r)) ∧ (Fr n0 Lq) ∧ (h = h0) ∧ (own_fnd ds n r)
set_option maxRecDepth 65536 in
set_option maxHeartbeats 40000000 in
theorem own_rm_ix5 (l : Launch) (Z : State) (a0 : Array Value) (hw : ∀ d ∈ tables_1, d.before a0 Z = true) (ws : List Jvm.Cond) (t : Addr) (kt : ClassId) (N : Int32) (ds : List Int32) (n : Nat) (g : Addr) (kg : ClassId) (h0 : Heap) (n0 : Nat) (Z0 : n0 ≤ h0.size) (Va : Arv Z h0 t kt .byte N (ds.map Value.int) (.int 0)) (Vg : Arv Z h0 g kg .byte (2 : Int32) ([(.int (46 : Int32)), (.int (46 : Int32))]) (.int 0)) (hN : N = Int32.ofNat n) (hn : n ≤ 4000) :
    MetFree l (⟨"java/lang/StringLatin1", "indexOf", "([BI[BII)I"⟩ : MethodName) (head1 (Jvm.Cond.code (⟨"java/lang/StringLatin1", "indexOf", "([BI[BII)I"⟩ : MethodName) jdk_43_method_25_code 11 (some .int) :: ws) ({ frames := 0, cells := 0, slots := 0, locals := 0 } : Room)) (fun aq Uq => aq = #[(.ref t), (.int N), (.ref g), (.int (2 : Int32)), (.int (0 : Int32))] ∧ Z.Warmed39 Uq.vm ∧ Uq.heap = h0) (fun _ _ _ _ _ => True) (fun _ Uq oq Uq' => ∃ vq Lq, oq = .returned vq ∧ own_Q_ix5 Z t kt N ds n g kg h0 n0 vq Uq'.heap Lq ∧ FrameEnd Uq oq Uq' Lq ({ frames := 0, cells := 0, slots := 0, locals := 0 } : Room).cells ({ frames := 0, cells := 0, slots := 0, locals := 0 } : Room).slots) := by
  refine MetFree.of_bodySF (plainFor_of_name own_pn2) hisR ?_
  intro p e s m args below meth cde s₁ Bd hml0 hP hK
  obtain ⟨rfl, hZ, hh⟩ := hP
  have hx := Bd.exec
  have hby := Bd.bytes
  have hml : cde.maxLocals = 11 := hml0
  have hown : s.vm.findClass "java/lang/StringLatin1" = some m.cls := findClass_of_methodNamed Bd.named
  have hnm := (name_of_methodNamed Bd.named Bd.method).1
  have X0 : Stand p l e ({ frames := 0, cells := 0, slots := 0, locals := 0 } : Room) s m #[(.ref t), (.int N), (.ref g), (.int (2 : Int32)), (.int (0 : Int32))] below meth cde s₁ [] 0 0 := Stand.of_body Bd
  have e0 : s₁.heap = h0 := by rw [← hh, Bd.state]; rfl
  have N0 := Fr.nil n0
  show own_Fin p e s below (own_Q_ix5 Z t kt N ds n g kg h0 n0) ({ frames := 0, cells := 0, slots := 0, locals := 0 } : Room).cells ({ frames := 0, cells := 0, slots := 0, locals := 0 } : Room).slots s₁ (entryFrame m #[(.ref t), (.int N), (.ref g), (.int (2 : Int32)), (.int (0 : Int32))] 11)
  rw [own_ef_ix5 m t N g]
  refine own_via (fun _ k => XS.aloadN X0.here hx rfl (hb hby own_d_jdk_43_25_0) rfl rfl k) ?_
  show own_Fin _ _ _ _ _ _ _ s₁ (mkF m 1 #[.val (.ref t), .val (.int N), .val (.ref g), .val (.int (2 : Int32)), .val (.int (0 : Int32)), .unset, .unset, .unset, .unset, .unset, .unset] [(.ref g)])
  refine own_via (fun _ k => XS.iconst X0.here hx rfl (hb hby own_d_jdk_43_25_1) k) ?_
  show own_Fin _ _ _ _ _ _ _ s₁ (mkF m 2 #[.val (.ref t), .val (.int N), .val (.ref g), .val (.int (2 : Int32)), .val (.int (0 : Int32)), .unset, .unset, .unset, .unset, .unset, .unset] [(.int (0 : Int32)), (.ref g)])
  obtain ⟨c1_, Ar1_, q1_, S1_, M1_, H1_, G1_⟩ := (id Vg)
  have hin1_ : ¬ ((0 : Int32) < 0 ∨ c1_.slots.size ≤ ((0 : Int32)).toNatClampNeg) := inb_of S1_ ⟨by decide, by decide⟩
  have hat1_ : c1_.slots[((0 : Int32)).toNatClampNeg]? = some (.int (46 : Int32)) := H1_.at hin1_ rfl
  refine own_via (fun _ k => X0.baloadBytes hx (j := (0 : Int32)) (v := (.int (46 : Int32))) (by rw [e0]; exact Ar1_.1) (State.isArrayOf_alike hZ.alike Ar1_.2.1) Ar1_.2.2 hin1_ hat1_ (g := (mkF m 2 #[.val (.ref t), .val (.int N), .val (.ref g), .val (.int (2 : Int32)), .val (.int (0 : Int32)), .unset, .unset, .unset, .unset, .unset, .unset] [(.int (0 : Int32)), (.ref g)])) rfl rfl (hb hby own_d_jdk_43_25_2) _ k) ?_
  show own_Fin _ _ _ _ _ _ _ s₁ (mkF m 3 #[.val (.ref t), .val (.int N), .val (.ref g), .val (.int (2 : Int32)), .val (.int (0 : Int32)), .unset, .unset, .unset, .unset, .unset, .unset] [(.int (46 : Int32))])
  refine own_via (fun _ k => XS.istore X0.here hx rfl (hb hby own_d_jdk_43_25_3) rfl (l' := #[.val (.ref t), .val (.int N), .val (.ref g), .val (.int (2 : Int32)), .val (.int (0 : Int32)), .val (.int (46 : Int32)), .unset, .unset, .unset, .unset, .unset]) rfl k) ?_
  show own_Fin _ _ _ _ _ _ _ s₁ (mkF m 5 #[.val (.ref t), .val (.int N), .val (.ref g), .val (.int (2 : Int32)), .val (.int (0 : Int32)), .val (.int (46 : Int32)), .unset, .unset, .unset, .unset, .unset] [])
  refine own_via (fun _ k => XS.iloadN X0.here hx rfl (hb hby own_d_jdk_43_25_5) rfl k) ?_
  show own_Fin _ _ _ _ _ _ _ s₁ (mkF m 6 #[.val (.ref t), .val (.int N), .val (.ref g), .val (.int (2 : Int32)), .val (.int (0 : Int32)), .val (.int (46 : Int32)), .unset, .unset, .unset, .unset, .unset] [(.int N)])
  refine own_via (fun _ k => XS.iloadN X0.here hx rfl (hb hby own_d_jdk_43_25_6) rfl k) ?_
  show own_Fin _ _ _ _ _ _ _ s₁ (mkF m 7 #[.val (.ref t), .val (.int N), .val (.ref g), .val (.int (2 : Int32)), .val (.int (0 : Int32)), .val (.int (46 : Int32)), .unset, .unset, .unset, .unset, .unset] [(.int (2 : Int32)), (.int N)])
  refine own_via (fun _ k => XS.isub X0.here hx rfl (hb hby own_d_jdk_43_25_7) rfl k) ?_
  show own_Fin _ _ _ _ _ _ _ s₁ (mkF m 8 #[.val (.ref t), .val (.int N), .val (.ref g), .val (.int (2 : Int32)), .val (.int (0 : Int32)), .val (.int (46 : Int32)), .unset, .unset, .unset, .unset, .unset] [(.int (N - (2 : Int32)))])
  refine own_via (fun _ k => XS.istore X0.here hx rfl (hb hby own_d_jdk_43_25_8) rfl (l' := #[.val (.ref t), .val (.int N), .val (.ref g), .val (.int (2 : Int32)), .val (.int (0 : Int32)), .val (.int (46 : Int32)), .val (.int (N - (2 : Int32))), .unset, .unset, .unset, .unset]) rfl k) ?_
  show own_Fin _ _ _ _ _ _ _ s₁ (mkF m 10 #[.val (.ref t), .val (.int N), .val (.ref g), .val (.int (2 : Int32)), .val (.int (0 : Int32)), .val (.int (46 : Int32)), .val (.int (N - (2 : Int32))), .unset, .unset, .unset, .unset] [])
  refine own_via (fun _ k => XS.iload X0.here hx rfl (hb hby own_d_jdk_43_25_10) rfl k) ?_
  show own_Fin _ _ _ _ _ _ _ s₁ (mkF m 12 #[.val (.ref t), .val (.int N), .val (.ref g), .val (.int (2 : Int32)), .val (.int (0 : Int32)), .val (.int (46 : Int32)), .val (.int (N - (2 : Int32))), .unset, .unset, .unset, .unset] [(.int (0 : Int32))])
  refine own_via (fun _ k => XS.istore X0.here hx rfl (hb hby own_d_jdk_43_25_12) rfl (l' := #[.val (.ref t), .val (.int N), .val (.ref g), .val (.int (2 : Int32)), .val (.int (0 : Int32)), .val (.int (46 : Int32)), .val (.int (N - (2 : Int32))), .val (.int (0 : Int32)), .unset, .unset, .unset]) rfl k) ?_
  show own_Fin _ _ _ _ _ _ _ s₁ (mkF m 14 #[.val (.ref t), .val (.int N), .val (.ref g), .val (.int (2 : Int32)), .val (.int (0 : Int32)), .val (.int (46 : Int32)), .val (.int (N - (2 : Int32))), .val (.int (0 : Int32)), .unset, .unset, .unset] [])
  have s14 : ∀ (k : Nat) (i : Nat) (j : Int32) (s8 : Slot) (s9 : Slot) (s10 : Slot) (hs8 : One s8) (hs9 : One s9) (hs10 : One s10) (hj : j = Int32.ofNat i) (hi : i ≤ n + 1) (hk : n ≤ i + k) (hs : ∀ q, q < i → ¬ own_pair ds n q), own_Fin p e s below (own_Q_ix5 Z t kt N ds n g kg h0 n0) ({ frames := 0, cells := 0, slots := 0, locals := 0 } : Room).cells ({ frames := 0, cells := 0, slots := 0, locals := 0 } : Room).slots s₁ (mkF m 14 #[.val (.ref t), .val (.int N), .val (.ref g), .val (.int (2 : Int32)), .val (.int (0 : Int32)), .val (.int (46 : Int32)), .val (.int (N - (2 : Int32))), .val (.int j), s8, s9, s10] []) := by
    intro k
    induction k with
    | zero =>
      intro i j s8 s9 s10 hs8 hs9 hs10 hj hi hk hs
      refine own_via (fun _ k => XS.iload X0.here hx rfl (hb hby own_d_jdk_43_25_14) rfl k) ?_
      show own_Fin _ _ _ _ _ _ _ s₁ (mkF m 16 #[.val (.ref t), .val (.int N), .val (.ref g), .val (.int (2 : Int32)), .val (.int (0 : Int32)), .val (.int (46 : Int32)), .val (.int (N - (2 : Int32))), .val (.int j), s8, s9, s10] [(.int j)])
      refine own_via (fun _ k => XS.iload X0.here hx rfl (hb hby own_d_jdk_43_25_16) rfl k) ?_
      show own_Fin _ _ _ _ _ _ _ s₁ (mkF m 18 #[.val (.ref t), .val (.int N), .val (.ref g), .val (.int (2 : Int32)), .val (.int (0 : Int32)), .val (.int (46 : Int32)), .val (.int (N - (2 : Int32))), .val (.int j), s8, s9, s10] [(.int (N - (2 : Int32))), (.int j)])
      refine own_via (fun _ k => XS.icmpYes X0.here hx rfl (pc0 := 18) (pc' := 119) rfl (hb hby own_d_jdk_43_25_18) rfl (tlt ((own_gtM hj hN (by omega) hn).mpr (by omega))).2.2.1 (by decide) (by decide) k) ?_
      show own_Fin _ _ _ _ _ _ _ s₁ (mkF m 119 #[.val (.ref t), .val (.int N), .val (.ref g), .val (.int (2 : Int32)), .val (.int (0 : Int32)), .val (.int (46 : Int32)), .val (.int (N - (2 : Int32))), .val (.int j), s8, s9, s10] [])
      refine own_via (fun _ k => XS.iconst X0.here hx rfl (hb hby own_d_jdk_43_25_119) k) ?_
      show own_Fin _ _ _ _ _ _ _ s₁ (mkF m 120 #[.val (.ref t), .val (.int N), .val (.ref g), .val (.int (2 : Int32)), .val (.int (0 : Int32)), .val (.int (46 : Int32)), .val (.int (N - (2 : Int32))), .val (.int j), s8, s9, s10] [(.int (-1 : Int32))])
      exact own_retI X0 hx Bd.returns Bd.notSynchronized (hb hby own_d_jdk_43_25_120) e0 rfl ⟨(-1 : Int32), rfl, N0, rfl, (Or.inl ⟨by decide, own_nopair hs (by omega)⟩)⟩ (by decide) (by decide)
    | succ k ih =>
      intro i j s8 s9 s10 hs8 hs9 hs10 hj hi hk hs
      refine own_via (fun _ k => XS.iload X0.here hx rfl (hb hby own_d_jdk_43_25_14) rfl k) ?_
      show own_Fin _ _ _ _ _ _ _ s₁ (mkF m 16 #[.val (.ref t), .val (.int N), .val (.ref g), .val (.int (2 : Int32)), .val (.int (0 : Int32)), .val (.int (46 : Int32)), .val (.int (N - (2 : Int32))), .val (.int j), s8, s9, s10] [(.int j)])
      refine own_via (fun _ k => XS.iload X0.here hx rfl (hb hby own_d_jdk_43_25_16) rfl k) ?_
      show own_Fin _ _ _ _ _ _ _ s₁ (mkF m 18 #[.val (.ref t), .val (.int N), .val (.ref g), .val (.int (2 : Int32)), .val (.int (0 : Int32)), .val (.int (46 : Int32)), .val (.int (N - (2 : Int32))), .val (.int j), s8, s9, s10] [(.int (N - (2 : Int32))), (.int j)])
      rcases Classical.em ((N - (2 : Int32)) < j) with hg | hg
      · refine own_via (fun _ k => XS.icmpYes X0.here hx rfl (pc0 := 18) (pc' := 119) rfl (hb hby own_d_jdk_43_25_18) rfl (tlt hg).2.2.1 (by decide) (by decide) k) ?_
        show own_Fin _ _ _ _ _ _ _ s₁ (mkF m 119 #[.val (.ref t), .val (.int N), .val (.ref g), .val (.int (2 : Int32)), .val (.int (0 : Int32)), .val (.int (46 : Int32)), .val (.int (N - (2 : Int32))), .val (.int j), s8, s9, s10] [])
        have hge : n < i + 2 := (own_gtM hj hN (by omega) hn).mp hg
        refine own_via (fun _ k => XS.iconst X0.here hx rfl (hb hby own_d_jdk_43_25_119) k) ?_
        show own_Fin _ _ _ _ _ _ _ s₁ (mkF m 120 #[.val (.ref t), .val (.int N), .val (.ref g), .val (.int (2 : Int32)), .val (.int (0 : Int32)), .val (.int (46 : Int32)), .val (.int (N - (2 : Int32))), .val (.int j), s8, s9, s10] [(.int (-1 : Int32))])
        exact own_retI X0 hx Bd.returns Bd.notSynchronized (hb hby own_d_jdk_43_25_120) e0 rfl ⟨(-1 : Int32), rfl, N0, rfl, (Or.inl ⟨by decide, own_nopair hs (by omega)⟩)⟩ (by decide) (by decide)
      · refine own_via (fun _ k => XS.icmpNo X0.here hx rfl (hb hby own_d_jdk_43_25_18) rfl (flt hg).2.2.1 k) ?_
        show own_Fin _ _ _ _ _ _ _ s₁ (mkF m 21 #[.val (.ref t), .val (.int N), .val (.ref g), .val (.int (2 : Int32)), .val (.int (0 : Int32)), .val (.int (46 : Int32)), .val (.int (N - (2 : Int32))), .val (.int j), s8, s9, s10] [])
        have hi2 : i + 2 ≤ n := Nat.le_of_not_lt fun q => hg ((own_gtM hj hN (by omega) hn).mpr q)
        have s52 : ∀ (i2 : Nat) (j2 : Int32) (hj2 : j2 = Int32.ofNat i2) (hii : i ≤ i2) (hin : i2 < n) (hs2 : ∀ q, q < i2 → ¬ own_pair ds n q) (h46 : i2 + 2 ≤ n → ds.getD i2 0 = (46 : Int32)), own_Fin p e s below (own_Q_ix5 Z t kt N ds n g kg h0 n0) ({ frames := 0, cells := 0, slots := 0, locals := 0 } : Room).cells ({ frames := 0, cells := 0, slots := 0, locals := 0 } : Room).slots s₁ (mkF m 52 #[.val (.ref t), .val (.int N), .val (.ref g), .val (.int (2 : Int32)), .val (.int (0 : Int32)), .val (.int (46 : Int32)), .val (.int (N - (2 : Int32))), .val (.int j2), s8, s9, s10] []) := by
          intro i2 j2 hj2 hii hin hs2 h46
          refine own_via (fun _ k => XS.iload X0.here hx rfl (hb hby own_d_jdk_43_25_52) rfl k) ?_
          show own_Fin _ _ _ _ _ _ _ s₁ (mkF m 54 #[.val (.ref t), .val (.int N), .val (.ref g), .val (.int (2 : Int32)), .val (.int (0 : Int32)), .val (.int (46 : Int32)), .val (.int (N - (2 : Int32))), .val (.int j2), s8, s9, s10] [(.int j2)])
          refine own_via (fun _ k => XS.iload X0.here hx rfl (hb hby own_d_jdk_43_25_54) rfl k) ?_
          show own_Fin _ _ _ _ _ _ _ s₁ (mkF m 56 #[.val (.ref t), .val (.int N), .val (.ref g), .val (.int (2 : Int32)), .val (.int (0 : Int32)), .val (.int (46 : Int32)), .val (.int (N - (2 : Int32))), .val (.int j2), s8, s9, s10] [(.int (N - (2 : Int32))), (.int j2)])
          rcases Classical.em ((N - (2 : Int32)) < j2) with hg2 | hg2
          · refine own_via (fun _ k => XS.icmpYes X0.here hx rfl (pc0 := 56) (pc' := 113) rfl (hb hby own_d_jdk_43_25_56) rfl (tlt hg2).2.2.1 (by decide) (by decide) k) ?_
            show own_Fin _ _ _ _ _ _ _ s₁ (mkF m 113 #[.val (.ref t), .val (.int N), .val (.ref g), .val (.int (2 : Int32)), .val (.int (0 : Int32)), .val (.int (46 : Int32)), .val (.int (N - (2 : Int32))), .val (.int j2), s8, s9, s10] [])
            have hge : n < i2 + 2 := (own_gtM hj2 hN (by omega) hn).mp hg2
            refine own_via (fun _ k => XS.iinc X0.here hx rfl (hb hby own_d_jdk_43_25_113) rfl (l' := #[.val (.ref t), .val (.int N), .val (.ref g), .val (.int (2 : Int32)), .val (.int (0 : Int32)), .val (.int (46 : Int32)), .val (.int (N - (2 : Int32))), .val (.int (j2 + (1 : Int32))), s8, s9, s10]) rfl k) ?_
            show own_Fin _ _ _ _ _ _ _ s₁ (mkF m 116 #[.val (.ref t), .val (.int N), .val (.ref g), .val (.int (2 : Int32)), .val (.int (0 : Int32)), .val (.int (46 : Int32)), .val (.int (N - (2 : Int32))), .val (.int (j2 + (1 : Int32))), s8, s9, s10] [])
            refine own_via (fun _ k => XS.goto X0.here hx rfl (pc0 := 116) (pc' := 14) rfl (hb hby own_d_jdk_43_25_116) (by decide) (by decide) k) ?_
            show own_Fin _ _ _ _ _ _ _ s₁ (mkF m 14 #[.val (.ref t), .val (.int N), .val (.ref g), .val (.int (2 : Int32)), .val (.int (0 : Int32)), .val (.int (46 : Int32)), .val (.int (N - (2 : Int32))), .val (.int (j2 + (1 : Int32))), s8, s9, s10] [])
            exact ih (i2 + 1) _ _ _ _ hs8 hs9 hs10 (own_succ hj2) (by omega) (by omega) (own_next hs2 (fun hp => absurd hp.1 (by omega)))
          · refine own_via (fun _ k => XS.icmpNo X0.here hx rfl (hb hby own_d_jdk_43_25_56) rfl (flt hg2).2.2.1 k) ?_
            show own_Fin _ _ _ _ _ _ _ s₁ (mkF m 59 #[.val (.ref t), .val (.int N), .val (.ref g), .val (.int (2 : Int32)), .val (.int (0 : Int32)), .val (.int (46 : Int32)), .val (.int (N - (2 : Int32))), .val (.int j2), s8, s9, s10] [])
            have hi3 : i2 + 2 ≤ n := Nat.le_of_not_lt fun q => hg2 ((own_gtM hj2 hN (by omega) hn).mpr q)
            refine own_via (fun _ k => XS.iload X0.here hx rfl (hb hby own_d_jdk_43_25_59) rfl k) ?_
            show own_Fin _ _ _ _ _ _ _ s₁ (mkF m 61 #[.val (.ref t), .val (.int N), .val (.ref g), .val (.int (2 : Int32)), .val (.int (0 : Int32)), .val (.int (46 : Int32)), .val (.int (N - (2 : Int32))), .val (.int j2), s8, s9, s10] [(.int j2)])
            refine own_via (fun _ k => XS.iconst X0.here hx rfl (hb hby own_d_jdk_43_25_61) k) ?_
            show own_Fin _ _ _ _ _ _ _ s₁ (mkF m 62 #[.val (.ref t), .val (.int N), .val (.ref g), .val (.int (2 : Int32)), .val (.int (0 : Int32)), .val (.int (46 : Int32)), .val (.int (N - (2 : Int32))), .val (.int j2), s8, s9, s10] [(.int (1 : Int32)), (.int j2)])
            refine own_via (fun _ k => XS.iadd X0.here hx rfl (hb hby own_d_jdk_43_25_62) rfl k) ?_
            show own_Fin _ _ _ _ _ _ _ s₁ (mkF m 63 #[.val (.ref t), .val (.int N), .val (.ref g), .val (.int (2 : Int32)), .val (.int (0 : Int32)), .val (.int (46 : Int32)), .val (.int (N - (2 : Int32))), .val (.int j2), s8, s9, s10] [(.int (j2 + (1 : Int32)))])
            refine own_via (fun _ k => XS.istore X0.here hx rfl (hb hby own_d_jdk_43_25_63) rfl (l' := #[.val (.ref t), .val (.int N), .val (.ref g), .val (.int (2 : Int32)), .val (.int (0 : Int32)), .val (.int (46 : Int32)), .val (.int (N - (2 : Int32))), .val (.int j2), .val (.int (j2 + (1 : Int32))), s9, s10]) (own_os_ix5_63 hs8) k) ?_
            show own_Fin _ _ _ _ _ _ _ s₁ (mkF m 65 #[.val (.ref t), .val (.int N), .val (.ref g), .val (.int (2 : Int32)), .val (.int (0 : Int32)), .val (.int (46 : Int32)), .val (.int (N - (2 : Int32))), .val (.int j2), .val (.int (j2 + (1 : Int32))), s9, s10] [])
            refine own_via (fun _ k => XS.iload X0.here hx rfl (hb hby own_d_jdk_43_25_65) rfl k) ?_
            show own_Fin _ _ _ _ _ _ _ s₁ (mkF m 67 #[.val (.ref t), .val (.int N), .val (.ref g), .val (.int (2 : Int32)), .val (.int (0 : Int32)), .val (.int (46 : Int32)), .val (.int (N - (2 : Int32))), .val (.int j2), .val (.int (j2 + (1 : Int32))), s9, s10] [(.int (j2 + (1 : Int32)))])
            refine own_via (fun _ k => XS.iloadN X0.here hx rfl (hb hby own_d_jdk_43_25_67) rfl k) ?_
            show own_Fin _ _ _ _ _ _ _ s₁ (mkF m 68 #[.val (.ref t), .val (.int N), .val (.ref g), .val (.int (2 : Int32)), .val (.int (0 : Int32)), .val (.int (46 : Int32)), .val (.int (N - (2 : Int32))), .val (.int j2), .val (.int (j2 + (1 : Int32))), s9, s10] [(.int (2 : Int32)), (.int (j2 + (1 : Int32)))])
            refine own_via (fun _ k => XS.iadd X0.here hx rfl (hb hby own_d_jdk_43_25_68) rfl k) ?_
            show own_Fin _ _ _ _ _ _ _ s₁ (mkF m 69 #[.val (.ref t), .val (.int N), .val (.ref g), .val (.int (2 : Int32)), .val (.int (0 : Int32)), .val (.int (46 : Int32)), .val (.int (N - (2 : Int32))), .val (.int j2), .val (.int (j2 + (1 : Int32))), s9, s10] [(.int ((j2 + (1 : Int32)) + (2 : Int32)))])
            refine own_via (fun _ k => XS.iconst X0.here hx rfl (hb hby own_d_jdk_43_25_69) k) ?_
            show own_Fin _ _ _ _ _ _ _ s₁ (mkF m 70 #[.val (.ref t), .val (.int N), .val (.ref g), .val (.int (2 : Int32)), .val (.int (0 : Int32)), .val (.int (46 : Int32)), .val (.int (N - (2 : Int32))), .val (.int j2), .val (.int (j2 + (1 : Int32))), s9, s10] [(.int (1 : Int32)), (.int ((j2 + (1 : Int32)) + (2 : Int32)))])
            refine own_via (fun _ k => XS.isub X0.here hx rfl (hb hby own_d_jdk_43_25_70) rfl k) ?_
            show own_Fin _ _ _ _ _ _ _ s₁ (mkF m 71 #[.val (.ref t), .val (.int N), .val (.ref g), .val (.int (2 : Int32)), .val (.int (0 : Int32)), .val (.int (46 : Int32)), .val (.int (N - (2 : Int32))), .val (.int j2), .val (.int (j2 + (1 : Int32))), s9, s10] [(.int (((j2 + (1 : Int32)) + (2 : Int32)) - (1 : Int32)))])
            refine own_via (fun _ k => XS.istore X0.here hx rfl (hb hby own_d_jdk_43_25_71) rfl (l' := #[.val (.ref t), .val (.int N), .val (.ref g), .val (.int (2 : Int32)), .val (.int (0 : Int32)), .val (.int (46 : Int32)), .val (.int (N - (2 : Int32))), .val (.int j2), .val (.int (j2 + (1 : Int32))), .val (.int (((j2 + (1 : Int32)) + (2 : Int32)) - (1 : Int32))), s10]) (own_os_ix5_71 hs9) k) ?_
            show own_Fin _ _ _ _ _ _ _ s₁ (mkF m 73 #[.val (.ref t), .val (.int N), .val (.ref g), .val (.int (2 : Int32)), .val (.int (0 : Int32)), .val (.int (46 : Int32)), .val (.int (N - (2 : Int32))), .val (.int j2), .val (.int (j2 + (1 : Int32))), .val (.int (((j2 + (1 : Int32)) + (2 : Int32)) - (1 : Int32))), s10] [])
            refine own_via (fun _ k => XS.iconst X0.here hx rfl (hb hby own_d_jdk_43_25_73) k) ?_
            show own_Fin _ _ _ _ _ _ _ s₁ (mkF m 74 #[.val (.ref t), .val (.int N), .val (.ref g), .val (.int (2 : Int32)), .val (.int (0 : Int32)), .val (.int (46 : Int32)), .val (.int (N - (2 : Int32))), .val (.int j2), .val (.int (j2 + (1 : Int32))), .val (.int (((j2 + (1 : Int32)) + (2 : Int32)) - (1 : Int32))), s10] [(.int (1 : Int32))])
            refine own_via (fun _ k => XS.istore X0.here hx rfl (hb hby own_d_jdk_43_25_74) rfl (l' := #[.val (.ref t), .val (.int N), .val (.ref g), .val (.int (2 : Int32)), .val (.int (0 : Int32)), .val (.int (46 : Int32)), .val (.int (N - (2 : Int32))), .val (.int j2), .val (.int (j2 + (1 : Int32))), .val (.int (((j2 + (1 : Int32)) + (2 : Int32)) - (1 : Int32))), .val (.int (1 : Int32))]) (own_os_ix5_74 hs10) k) ?_
            show own_Fin _ _ _ _ _ _ _ s₁ (mkF m 76 #[.val (.ref t), .val (.int N), .val (.ref g), .val (.int (2 : Int32)), .val (.int (0 : Int32)), .val (.int (46 : Int32)), .val (.int (N - (2 : Int32))), .val (.int j2), .val (.int (j2 + (1 : Int32))), .val (.int (((j2 + (1 : Int32)) + (2 : Int32)) - (1 : Int32))), .val (.int (1 : Int32))] [])
            refine own_via (fun _ k => XS.iload X0.here hx rfl (hb hby own_d_jdk_43_25_76) rfl k) ?_
            show own_Fin _ _ _ _ _ _ _ s₁ (mkF m 78 #[.val (.ref t), .val (.int N), .val (.ref g), .val (.int (2 : Int32)), .val (.int (0 : Int32)), .val (.int (46 : Int32)), .val (.int (N - (2 : Int32))), .val (.int j2), .val (.int (j2 + (1 : Int32))), .val (.int (((j2 + (1 : Int32)) + (2 : Int32)) - (1 : Int32))), .val (.int (1 : Int32))] [(.int (j2 + (1 : Int32)))])
            refine own_via (fun _ k => XS.iload X0.here hx rfl (hb hby own_d_jdk_43_25_78) rfl k) ?_
            show own_Fin _ _ _ _ _ _ _ s₁ (mkF m 80 #[.val (.ref t), .val (.int N), .val (.ref g), .val (.int (2 : Int32)), .val (.int (0 : Int32)), .val (.int (46 : Int32)), .val (.int (N - (2 : Int32))), .val (.int j2), .val (.int (j2 + (1 : Int32))), .val (.int (((j2 + (1 : Int32)) + (2 : Int32)) - (1 : Int32))), .val (.int (1 : Int32))] [(.int (((j2 + (1 : Int32)) + (2 : Int32)) - (1 : Int32))), (.int (j2 + (1 : Int32)))])
            refine own_via (fun _ k => XS.icmpNo X0.here hx rfl (hb hby own_d_jdk_43_25_80) rfl (tlt (own_t1 hj2 (by omega))).2.1 k) ?_
            show own_Fin _ _ _ _ _ _ _ s₁ (mkF m 83 #[.val (.ref t), .val (.int N), .val (.ref g), .val (.int (2 : Int32)), .val (.int (0 : Int32)), .val (.int (46 : Int32)), .val (.int (N - (2 : Int32))), .val (.int j2), .val (.int (j2 + (1 : Int32))), .val (.int (((j2 + (1 : Int32)) + (2 : Int32)) - (1 : Int32))), .val (.int (1 : Int32))] [])
            refine own_via (fun _ k => XS.aloadN X0.here hx rfl (hb hby own_d_jdk_43_25_83) rfl rfl k) ?_
            show own_Fin _ _ _ _ _ _ _ s₁ (mkF m 84 #[.val (.ref t), .val (.int N), .val (.ref g), .val (.int (2 : Int32)), .val (.int (0 : Int32)), .val (.int (46 : Int32)), .val (.int (N - (2 : Int32))), .val (.int j2), .val (.int (j2 + (1 : Int32))), .val (.int (((j2 + (1 : Int32)) + (2 : Int32)) - (1 : Int32))), .val (.int (1 : Int32))] [(.ref t)])
            refine own_via (fun _ k => XS.iload X0.here hx rfl (hb hby own_d_jdk_43_25_84) rfl k) ?_
            show own_Fin _ _ _ _ _ _ _ s₁ (mkF m 86 #[.val (.ref t), .val (.int N), .val (.ref g), .val (.int (2 : Int32)), .val (.int (0 : Int32)), .val (.int (46 : Int32)), .val (.int (N - (2 : Int32))), .val (.int j2), .val (.int (j2 + (1 : Int32))), .val (.int (((j2 + (1 : Int32)) + (2 : Int32)) - (1 : Int32))), .val (.int (1 : Int32))] [(.int (j2 + (1 : Int32))), (.ref t)])
            obtain ⟨c2_, Ar2_, q2_, S2_, M2_, H2_, G2_⟩ := (id Va)
            have hin2_ : ¬ ((j2 + (1 : Int32)) < 0 ∨ c2_.slots.size ≤ ((j2 + (1 : Int32))).toNatClampNeg) := inb_of S2_ (own_inb (own_succ hj2) hN (by omega) (by omega))
            have hat2_ : c2_.slots[((j2 + (1 : Int32))).toNatClampNeg]? = some (.int (ds.getD (i2 + 1) 0)) := H2_.at hin2_ (own_el (own_succ hj2) (by omega))
            refine own_via (fun _ k => X0.baloadBytes hx (j := (j2 + (1 : Int32))) (v := (.int (ds.getD (i2 + 1) 0))) (by rw [e0]; exact Ar2_.1) (State.isArrayOf_alike hZ.alike Ar2_.2.1) Ar2_.2.2 hin2_ hat2_ (g := (mkF m 86 #[.val (.ref t), .val (.int N), .val (.ref g), .val (.int (2 : Int32)), .val (.int (0 : Int32)), .val (.int (46 : Int32)), .val (.int (N - (2 : Int32))), .val (.int j2), .val (.int (j2 + (1 : Int32))), .val (.int (((j2 + (1 : Int32)) + (2 : Int32)) - (1 : Int32))), .val (.int (1 : Int32))] [(.int (j2 + (1 : Int32))), (.ref t)])) rfl rfl (hb hby own_d_jdk_43_25_86) _ k) ?_
            show own_Fin _ _ _ _ _ _ _ s₁ (mkF m 87 #[.val (.ref t), .val (.int N), .val (.ref g), .val (.int (2 : Int32)), .val (.int (0 : Int32)), .val (.int (46 : Int32)), .val (.int (N - (2 : Int32))), .val (.int j2), .val (.int (j2 + (1 : Int32))), .val (.int (((j2 + (1 : Int32)) + (2 : Int32)) - (1 : Int32))), .val (.int (1 : Int32))] [(.int (ds.getD (i2 + 1) 0))])
            refine own_via (fun _ k => XS.aloadN X0.here hx rfl (hb hby own_d_jdk_43_25_87) rfl rfl k) ?_
            show own_Fin _ _ _ _ _ _ _ s₁ (mkF m 88 #[.val (.ref t), .val (.int N), .val (.ref g), .val (.int (2 : Int32)), .val (.int (0 : Int32)), .val (.int (46 : Int32)), .val (.int (N - (2 : Int32))), .val (.int j2), .val (.int (j2 + (1 : Int32))), .val (.int (((j2 + (1 : Int32)) + (2 : Int32)) - (1 : Int32))), .val (.int (1 : Int32))] [(.ref g), (.int (ds.getD (i2 + 1) 0))])
            refine own_via (fun _ k => XS.iload X0.here hx rfl (hb hby own_d_jdk_43_25_88) rfl k) ?_
            show own_Fin _ _ _ _ _ _ _ s₁ (mkF m 90 #[.val (.ref t), .val (.int N), .val (.ref g), .val (.int (2 : Int32)), .val (.int (0 : Int32)), .val (.int (46 : Int32)), .val (.int (N - (2 : Int32))), .val (.int j2), .val (.int (j2 + (1 : Int32))), .val (.int (((j2 + (1 : Int32)) + (2 : Int32)) - (1 : Int32))), .val (.int (1 : Int32))] [(.int (1 : Int32)), (.ref g), (.int (ds.getD (i2 + 1) 0))])
            obtain ⟨c3_, Ar3_, q3_, S3_, M3_, H3_, G3_⟩ := (id Vg)
            have hin3_ : ¬ ((1 : Int32) < 0 ∨ c3_.slots.size ≤ ((1 : Int32)).toNatClampNeg) := inb_of S3_ ⟨by decide, by decide⟩
            have hat3_ : c3_.slots[((1 : Int32)).toNatClampNeg]? = some (.int (46 : Int32)) := H3_.at hin3_ rfl
            refine own_via (fun _ k => X0.baloadBytes hx (j := (1 : Int32)) (v := (.int (46 : Int32))) (by rw [e0]; exact Ar3_.1) (State.isArrayOf_alike hZ.alike Ar3_.2.1) Ar3_.2.2 hin3_ hat3_ (g := (mkF m 90 #[.val (.ref t), .val (.int N), .val (.ref g), .val (.int (2 : Int32)), .val (.int (0 : Int32)), .val (.int (46 : Int32)), .val (.int (N - (2 : Int32))), .val (.int j2), .val (.int (j2 + (1 : Int32))), .val (.int (((j2 + (1 : Int32)) + (2 : Int32)) - (1 : Int32))), .val (.int (1 : Int32))] [(.int (1 : Int32)), (.ref g), (.int (ds.getD (i2 + 1) 0))])) rfl rfl (hb hby own_d_jdk_43_25_90) _ k) ?_
            show own_Fin _ _ _ _ _ _ _ s₁ (mkF m 91 #[.val (.ref t), .val (.int N), .val (.ref g), .val (.int (2 : Int32)), .val (.int (0 : Int32)), .val (.int (46 : Int32)), .val (.int (N - (2 : Int32))), .val (.int j2), .val (.int (j2 + (1 : Int32))), .val (.int (((j2 + (1 : Int32)) + (2 : Int32)) - (1 : Int32))), .val (.int (1 : Int32))] [(.int (46 : Int32)), (.int (ds.getD (i2 + 1) 0))])
            rcases Classical.em ((ds.getD (i2 + 1) 0) = (46 : Int32)) with h6 | h6
            · refine own_via (fun _ k => XS.icmpNo X0.here hx rfl (hb hby own_d_jdk_43_25_91) rfl (teq h6).2 k) ?_
              show own_Fin _ _ _ _ _ _ _ s₁ (mkF m 94 #[.val (.ref t), .val (.int N), .val (.ref g), .val (.int (2 : Int32)), .val (.int (0 : Int32)), .val (.int (46 : Int32)), .val (.int (N - (2 : Int32))), .val (.int j2), .val (.int (j2 + (1 : Int32))), .val (.int (((j2 + (1 : Int32)) + (2 : Int32)) - (1 : Int32))), .val (.int (1 : Int32))] [])
              refine own_via (fun _ k => XS.iinc X0.here hx rfl (hb hby own_d_jdk_43_25_94) rfl (l' := #[.val (.ref t), .val (.int N), .val (.ref g), .val (.int (2 : Int32)), .val (.int (0 : Int32)), .val (.int (46 : Int32)), .val (.int (N - (2 : Int32))), .val (.int j2), .val (.int ((j2 + (1 : Int32)) + (1 : Int32))), .val (.int (((j2 + (1 : Int32)) + (2 : Int32)) - (1 : Int32))), .val (.int (1 : Int32))]) rfl k) ?_
              show own_Fin _ _ _ _ _ _ _ s₁ (mkF m 97 #[.val (.ref t), .val (.int N), .val (.ref g), .val (.int (2 : Int32)), .val (.int (0 : Int32)), .val (.int (46 : Int32)), .val (.int (N - (2 : Int32))), .val (.int j2), .val (.int ((j2 + (1 : Int32)) + (1 : Int32))), .val (.int (((j2 + (1 : Int32)) + (2 : Int32)) - (1 : Int32))), .val (.int (1 : Int32))] [])
              refine own_via (fun _ k => XS.iinc X0.here hx rfl (hb hby own_d_jdk_43_25_97) rfl (l' := #[.val (.ref t), .val (.int N), .val (.ref g), .val (.int (2 : Int32)), .val (.int (0 : Int32)), .val (.int (46 : Int32)), .val (.int (N - (2 : Int32))), .val (.int j2), .val (.int ((j2 + (1 : Int32)) + (1 : Int32))), .val (.int (((j2 + (1 : Int32)) + (2 : Int32)) - (1 : Int32))), .val (.int ((1 : Int32) + (1 : Int32)))]) rfl k) ?_
              show own_Fin _ _ _ _ _ _ _ s₁ (mkF m 100 #[.val (.ref t), .val (.int N), .val (.ref g), .val (.int (2 : Int32)), .val (.int (0 : Int32)), .val (.int (46 : Int32)), .val (.int (N - (2 : Int32))), .val (.int j2), .val (.int ((j2 + (1 : Int32)) + (1 : Int32))), .val (.int (((j2 + (1 : Int32)) + (2 : Int32)) - (1 : Int32))), .val (.int ((1 : Int32) + (1 : Int32)))] [])
              refine own_via (fun _ k => XS.goto X0.here hx rfl (pc0 := 100) (pc' := 76) rfl (hb hby own_d_jdk_43_25_100) (by decide) (by decide) k) ?_
              show own_Fin _ _ _ _ _ _ _ s₁ (mkF m 76 #[.val (.ref t), .val (.int N), .val (.ref g), .val (.int (2 : Int32)), .val (.int (0 : Int32)), .val (.int (46 : Int32)), .val (.int (N - (2 : Int32))), .val (.int j2), .val (.int ((j2 + (1 : Int32)) + (1 : Int32))), .val (.int (((j2 + (1 : Int32)) + (2 : Int32)) - (1 : Int32))), .val (.int ((1 : Int32) + (1 : Int32)))] [])
              refine own_via (fun _ k => XS.iload X0.here hx rfl (hb hby own_d_jdk_43_25_76) rfl k) ?_
              show own_Fin _ _ _ _ _ _ _ s₁ (mkF m 78 #[.val (.ref t), .val (.int N), .val (.ref g), .val (.int (2 : Int32)), .val (.int (0 : Int32)), .val (.int (46 : Int32)), .val (.int (N - (2 : Int32))), .val (.int j2), .val (.int ((j2 + (1 : Int32)) + (1 : Int32))), .val (.int (((j2 + (1 : Int32)) + (2 : Int32)) - (1 : Int32))), .val (.int ((1 : Int32) + (1 : Int32)))] [(.int ((j2 + (1 : Int32)) + (1 : Int32)))])
              refine own_via (fun _ k => XS.iload X0.here hx rfl (hb hby own_d_jdk_43_25_78) rfl k) ?_
              show own_Fin _ _ _ _ _ _ _ s₁ (mkF m 80 #[.val (.ref t), .val (.int N), .val (.ref g), .val (.int (2 : Int32)), .val (.int (0 : Int32)), .val (.int (46 : Int32)), .val (.int (N - (2 : Int32))), .val (.int j2), .val (.int ((j2 + (1 : Int32)) + (1 : Int32))), .val (.int (((j2 + (1 : Int32)) + (2 : Int32)) - (1 : Int32))), .val (.int ((1 : Int32) + (1 : Int32)))] [(.int (((j2 + (1 : Int32)) + (2 : Int32)) - (1 : Int32))), (.int ((j2 + (1 : Int32)) + (1 : Int32)))])
              refine own_via (fun _ k => XS.icmpYes X0.here hx rfl (pc0 := 80) (pc' := 103) rfl (hb hby own_d_jdk_43_25_80) rfl (flt (own_t2 hj2 (by omega))).2.1 (by decide) (by decide) k) ?_
              show own_Fin _ _ _ _ _ _ _ s₁ (mkF m 103 #[.val (.ref t), .val (.int N), .val (.ref g), .val (.int (2 : Int32)), .val (.int (0 : Int32)), .val (.int (46 : Int32)), .val (.int (N - (2 : Int32))), .val (.int j2), .val (.int ((j2 + (1 : Int32)) + (1 : Int32))), .val (.int (((j2 + (1 : Int32)) + (2 : Int32)) - (1 : Int32))), .val (.int ((1 : Int32) + (1 : Int32)))] [])
              refine own_via (fun _ k => XS.iload X0.here hx rfl (hb hby own_d_jdk_43_25_103) rfl k) ?_
              show own_Fin _ _ _ _ _ _ _ s₁ (mkF m 105 #[.val (.ref t), .val (.int N), .val (.ref g), .val (.int (2 : Int32)), .val (.int (0 : Int32)), .val (.int (46 : Int32)), .val (.int (N - (2 : Int32))), .val (.int j2), .val (.int ((j2 + (1 : Int32)) + (1 : Int32))), .val (.int (((j2 + (1 : Int32)) + (2 : Int32)) - (1 : Int32))), .val (.int ((1 : Int32) + (1 : Int32)))] [(.int ((j2 + (1 : Int32)) + (1 : Int32)))])
              refine own_via (fun _ k => XS.iload X0.here hx rfl (hb hby own_d_jdk_43_25_105) rfl k) ?_
              show own_Fin _ _ _ _ _ _ _ s₁ (mkF m 107 #[.val (.ref t), .val (.int N), .val (.ref g), .val (.int (2 : Int32)), .val (.int (0 : Int32)), .val (.int (46 : Int32)), .val (.int (N - (2 : Int32))), .val (.int j2), .val (.int ((j2 + (1 : Int32)) + (1 : Int32))), .val (.int (((j2 + (1 : Int32)) + (2 : Int32)) - (1 : Int32))), .val (.int ((1 : Int32) + (1 : Int32)))] [(.int (((j2 + (1 : Int32)) + (2 : Int32)) - (1 : Int32))), (.int ((j2 + (1 : Int32)) + (1 : Int32)))])
              refine own_via (fun _ k => XS.icmpNo X0.here hx rfl (hb hby own_d_jdk_43_25_107) rfl (teq (own_t3 hj2 (by omega))).2 k) ?_
              show own_Fin _ _ _ _ _ _ _ s₁ (mkF m 110 #[.val (.ref t), .val (.int N), .val (.ref g), .val (.int (2 : Int32)), .val (.int (0 : Int32)), .val (.int (46 : Int32)), .val (.int (N - (2 : Int32))), .val (.int j2), .val (.int ((j2 + (1 : Int32)) + (1 : Int32))), .val (.int (((j2 + (1 : Int32)) + (2 : Int32)) - (1 : Int32))), .val (.int ((1 : Int32) + (1 : Int32)))] [])
              refine own_via (fun _ k => XS.iload X0.here hx rfl (hb hby own_d_jdk_43_25_110) rfl k) ?_
              show own_Fin _ _ _ _ _ _ _ s₁ (mkF m 112 #[.val (.ref t), .val (.int N), .val (.ref g), .val (.int (2 : Int32)), .val (.int (0 : Int32)), .val (.int (46 : Int32)), .val (.int (N - (2 : Int32))), .val (.int j2), .val (.int ((j2 + (1 : Int32)) + (1 : Int32))), .val (.int (((j2 + (1 : Int32)) + (2 : Int32)) - (1 : Int32))), .val (.int ((1 : Int32) + (1 : Int32)))] [(.int j2)])
              exact own_retI X0 hx Bd.returns Bd.notSynchronized (hb hby own_d_jdk_43_25_112) e0 rfl ⟨j2, rfl, N0, rfl, (Or.inr ⟨own_nneg hj2 (by omega), i2, by omega, h46 hi3, h6⟩)⟩ (by decide) (by decide)
            · refine own_via (fun _ k => XS.icmpYes X0.here hx rfl (pc0 := 91) (pc' := 103) rfl (hb hby own_d_jdk_43_25_91) rfl (feq h6).2 (by decide) (by decide) k) ?_
              show own_Fin _ _ _ _ _ _ _ s₁ (mkF m 103 #[.val (.ref t), .val (.int N), .val (.ref g), .val (.int (2 : Int32)), .val (.int (0 : Int32)), .val (.int (46 : Int32)), .val (.int (N - (2 : Int32))), .val (.int j2), .val (.int (j2 + (1 : Int32))), .val (.int (((j2 + (1 : Int32)) + (2 : Int32)) - (1 : Int32))), .val (.int (1 : Int32))] [])
              refine own_via (fun _ k => XS.iload X0.here hx rfl (hb hby own_d_jdk_43_25_103) rfl k) ?_
              show own_Fin _ _ _ _ _ _ _ s₁ (mkF m 105 #[.val (.ref t), .val (.int N), .val (.ref g), .val (.int (2 : Int32)), .val (.int (0 : Int32)), .val (.int (46 : Int32)), .val (.int (N - (2 : Int32))), .val (.int j2), .val (.int (j2 + (1 : Int32))), .val (.int (((j2 + (1 : Int32)) + (2 : Int32)) - (1 : Int32))), .val (.int (1 : Int32))] [(.int (j2 + (1 : Int32)))])
              refine own_via (fun _ k => XS.iload X0.here hx rfl (hb hby own_d_jdk_43_25_105) rfl k) ?_
              show own_Fin _ _ _ _ _ _ _ s₁ (mkF m 107 #[.val (.ref t), .val (.int N), .val (.ref g), .val (.int (2 : Int32)), .val (.int (0 : Int32)), .val (.int (46 : Int32)), .val (.int (N - (2 : Int32))), .val (.int j2), .val (.int (j2 + (1 : Int32))), .val (.int (((j2 + (1 : Int32)) + (2 : Int32)) - (1 : Int32))), .val (.int (1 : Int32))] [(.int (((j2 + (1 : Int32)) + (2 : Int32)) - (1 : Int32))), (.int (j2 + (1 : Int32)))])
              refine own_via (fun _ k => XS.icmpYes X0.here hx rfl (pc0 := 107) (pc' := 113) rfl (hb hby own_d_jdk_43_25_107) rfl (feq (own_t4 hj2 (by omega))).2 (by decide) (by decide) k) ?_
              show own_Fin _ _ _ _ _ _ _ s₁ (mkF m 113 #[.val (.ref t), .val (.int N), .val (.ref g), .val (.int (2 : Int32)), .val (.int (0 : Int32)), .val (.int (46 : Int32)), .val (.int (N - (2 : Int32))), .val (.int j2), .val (.int (j2 + (1 : Int32))), .val (.int (((j2 + (1 : Int32)) + (2 : Int32)) - (1 : Int32))), .val (.int (1 : Int32))] [])
              refine own_via (fun _ k => XS.iinc X0.here hx rfl (hb hby own_d_jdk_43_25_113) rfl (l' := #[.val (.ref t), .val (.int N), .val (.ref g), .val (.int (2 : Int32)), .val (.int (0 : Int32)), .val (.int (46 : Int32)), .val (.int (N - (2 : Int32))), .val (.int (j2 + (1 : Int32))), .val (.int (j2 + (1 : Int32))), .val (.int (((j2 + (1 : Int32)) + (2 : Int32)) - (1 : Int32))), .val (.int (1 : Int32))]) rfl k) ?_
              show own_Fin _ _ _ _ _ _ _ s₁ (mkF m 116 #[.val (.ref t), .val (.int N), .val (.ref g), .val (.int (2 : Int32)), .val (.int (0 : Int32)), .val (.int (46 : Int32)), .val (.int (N - (2 : Int32))), .val (.int (j2 + (1 : Int32))), .val (.int (j2 + (1 : Int32))), .val (.int (((j2 + (1 : Int32)) + (2 : Int32)) - (1 : Int32))), .val (.int (1 : Int32))] [])
              refine own_via (fun _ k => XS.goto X0.here hx rfl (pc0 := 116) (pc' := 14) rfl (hb hby own_d_jdk_43_25_116) (by decide) (by decide) k) ?_
              show own_Fin _ _ _ _ _ _ _ s₁ (mkF m 14 #[.val (.ref t), .val (.int N), .val (.ref g), .val (.int (2 : Int32)), .val (.int (0 : Int32)), .val (.int (46 : Int32)), .val (.int (N - (2 : Int32))), .val (.int (j2 + (1 : Int32))), .val (.int (j2 + (1 : Int32))), .val (.int (((j2 + (1 : Int32)) + (2 : Int32)) - (1 : Int32))), .val (.int (1 : Int32))] [])
              exact ih (i2 + 1) _ _ _ _ own_one own_one own_one (own_succ hj2) (by omega) (by omega) (own_next hs2 (fun hp => h6 hp.2.2))
        have s30 : ∀ (k2 : Nat) (i2 : Nat) (j2 : Int32) (hj2 : j2 = Int32.ofNat i2) (hii : i ≤ i2) (hin : i2 + 2 ≤ n) (hk2 : n ≤ i2 + k2) (hs2 : ∀ q, q < i2 + 1 → ¬ own_pair ds n q), own_Fin p e s below (own_Q_ix5 Z t kt N ds n g kg h0 n0) ({ frames := 0, cells := 0, slots := 0, locals := 0 } : Room).cells ({ frames := 0, cells := 0, slots := 0, locals := 0 } : Room).slots s₁ (mkF m 30 #[.val (.ref t), .val (.int N), .val (.ref g), .val (.int (2 : Int32)), .val (.int (0 : Int32)), .val (.int (46 : Int32)), .val (.int (N - (2 : Int32))), .val (.int j2), s8, s9, s10] []) := by
          intro k2
          induction k2 with
          | zero =>
            intro i2 j2 hj2 hii hin hk2 hs2
            exact absurd hk2 (by omega)
          | succ k2 ih2 =>
            intro i2 j2 hj2 hii hin hk2 hs2
            refine own_via (fun _ k => XS.iinc X0.here hx rfl (hb hby own_d_jdk_43_25_30) rfl (l' := #[.val (.ref t), .val (.int N), .val (.ref g), .val (.int (2 : Int32)), .val (.int (0 : Int32)), .val (.int (46 : Int32)), .val (.int (N - (2 : Int32))), .val (.int (j2 + (1 : Int32))), s8, s9, s10]) rfl k) ?_
            show own_Fin _ _ _ _ _ _ _ s₁ (mkF m 33 #[.val (.ref t), .val (.int N), .val (.ref g), .val (.int (2 : Int32)), .val (.int (0 : Int32)), .val (.int (46 : Int32)), .val (.int (N - (2 : Int32))), .val (.int (j2 + (1 : Int32))), s8, s9, s10] [])
            refine own_via (fun _ k => XS.iload X0.here hx rfl (hb hby own_d_jdk_43_25_33) rfl k) ?_
            show own_Fin _ _ _ _ _ _ _ s₁ (mkF m 35 #[.val (.ref t), .val (.int N), .val (.ref g), .val (.int (2 : Int32)), .val (.int (0 : Int32)), .val (.int (46 : Int32)), .val (.int (N - (2 : Int32))), .val (.int (j2 + (1 : Int32))), s8, s9, s10] [(.int (j2 + (1 : Int32)))])
            refine own_via (fun _ k => XS.iload X0.here hx rfl (hb hby own_d_jdk_43_25_35) rfl k) ?_
            show own_Fin _ _ _ _ _ _ _ s₁ (mkF m 37 #[.val (.ref t), .val (.int N), .val (.ref g), .val (.int (2 : Int32)), .val (.int (0 : Int32)), .val (.int (46 : Int32)), .val (.int (N - (2 : Int32))), .val (.int (j2 + (1 : Int32))), s8, s9, s10] [(.int (N - (2 : Int32))), (.int (j2 + (1 : Int32)))])
            rcases Classical.em ((N - (2 : Int32)) < (j2 + (1 : Int32))) with hg3 | hg3
            · refine own_via (fun _ k => XS.icmpYes X0.here hx rfl (pc0 := 37) (pc' := 52) rfl (hb hby own_d_jdk_43_25_37) rfl (tlt hg3).2.2.1 (by decide) (by decide) k) ?_
              show own_Fin _ _ _ _ _ _ _ s₁ (mkF m 52 #[.val (.ref t), .val (.int N), .val (.ref g), .val (.int (2 : Int32)), .val (.int (0 : Int32)), .val (.int (46 : Int32)), .val (.int (N - (2 : Int32))), .val (.int (j2 + (1 : Int32))), s8, s9, s10] [])
              have hge : n < (i2 + 1) + 2 := (own_gtM (own_succ hj2) hN (by omega) hn).mp hg3
              exact s52 (i2 + 1) _ (own_succ hj2) (by omega) (by omega) hs2 (fun q => absurd q (by omega))
            · refine own_via (fun _ k => XS.icmpNo X0.here hx rfl (hb hby own_d_jdk_43_25_37) rfl (flt hg3).2.2.1 k) ?_
              show own_Fin _ _ _ _ _ _ _ s₁ (mkF m 40 #[.val (.ref t), .val (.int N), .val (.ref g), .val (.int (2 : Int32)), .val (.int (0 : Int32)), .val (.int (46 : Int32)), .val (.int (N - (2 : Int32))), .val (.int (j2 + (1 : Int32))), s8, s9, s10] [])
              have hi4 : (i2 + 1) + 2 ≤ n := Nat.le_of_not_lt fun q => hg3 ((own_gtM (own_succ hj2) hN (by omega) hn).mpr q)
              refine own_via (fun _ k => XS.aloadN X0.here hx rfl (hb hby own_d_jdk_43_25_40) rfl rfl k) ?_
              show own_Fin _ _ _ _ _ _ _ s₁ (mkF m 41 #[.val (.ref t), .val (.int N), .val (.ref g), .val (.int (2 : Int32)), .val (.int (0 : Int32)), .val (.int (46 : Int32)), .val (.int (N - (2 : Int32))), .val (.int (j2 + (1 : Int32))), s8, s9, s10] [(.ref t)])
              refine own_via (fun _ k => XS.iload X0.here hx rfl (hb hby own_d_jdk_43_25_41) rfl k) ?_
              show own_Fin _ _ _ _ _ _ _ s₁ (mkF m 43 #[.val (.ref t), .val (.int N), .val (.ref g), .val (.int (2 : Int32)), .val (.int (0 : Int32)), .val (.int (46 : Int32)), .val (.int (N - (2 : Int32))), .val (.int (j2 + (1 : Int32))), s8, s9, s10] [(.int (j2 + (1 : Int32))), (.ref t)])
              obtain ⟨c4_, Ar4_, q4_, S4_, M4_, H4_, G4_⟩ := (id Va)
              have hin4_ : ¬ ((j2 + (1 : Int32)) < 0 ∨ c4_.slots.size ≤ ((j2 + (1 : Int32))).toNatClampNeg) := inb_of S4_ (own_inb (own_succ hj2) hN (by omega) (by omega))
              have hat4_ : c4_.slots[((j2 + (1 : Int32))).toNatClampNeg]? = some (.int (ds.getD (i2 + 1) 0)) := H4_.at hin4_ (own_el (own_succ hj2) (by omega))
              refine own_via (fun _ k => X0.baloadBytes hx (j := (j2 + (1 : Int32))) (v := (.int (ds.getD (i2 + 1) 0))) (by rw [e0]; exact Ar4_.1) (State.isArrayOf_alike hZ.alike Ar4_.2.1) Ar4_.2.2 hin4_ hat4_ (g := (mkF m 43 #[.val (.ref t), .val (.int N), .val (.ref g), .val (.int (2 : Int32)), .val (.int (0 : Int32)), .val (.int (46 : Int32)), .val (.int (N - (2 : Int32))), .val (.int (j2 + (1 : Int32))), s8, s9, s10] [(.int (j2 + (1 : Int32))), (.ref t)])) rfl rfl (hb hby own_d_jdk_43_25_43) _ k) ?_
              show own_Fin _ _ _ _ _ _ _ s₁ (mkF m 44 #[.val (.ref t), .val (.int N), .val (.ref g), .val (.int (2 : Int32)), .val (.int (0 : Int32)), .val (.int (46 : Int32)), .val (.int (N - (2 : Int32))), .val (.int (j2 + (1 : Int32))), s8, s9, s10] [(.int (ds.getD (i2 + 1) 0))])
              refine own_via (fun _ k => XS.iload X0.here hx rfl (hb hby own_d_jdk_43_25_44) rfl k) ?_
              show own_Fin _ _ _ _ _ _ _ s₁ (mkF m 46 #[.val (.ref t), .val (.int N), .val (.ref g), .val (.int (2 : Int32)), .val (.int (0 : Int32)), .val (.int (46 : Int32)), .val (.int (N - (2 : Int32))), .val (.int (j2 + (1 : Int32))), s8, s9, s10] [(.int (46 : Int32)), (.int (ds.getD (i2 + 1) 0))])
              rcases Classical.em ((ds.getD (i2 + 1) 0) = (46 : Int32)) with h7 | h7
              · refine own_via (fun _ k => XS.icmpYes X0.here hx rfl (pc0 := 46) (pc' := 52) rfl (hb hby own_d_jdk_43_25_46) rfl (teq h7).1 (by decide) (by decide) k) ?_
                show own_Fin _ _ _ _ _ _ _ s₁ (mkF m 52 #[.val (.ref t), .val (.int N), .val (.ref g), .val (.int (2 : Int32)), .val (.int (0 : Int32)), .val (.int (46 : Int32)), .val (.int (N - (2 : Int32))), .val (.int (j2 + (1 : Int32))), s8, s9, s10] [])
                exact s52 (i2 + 1) _ (own_succ hj2) (by omega) (by omega) hs2 (fun _ => h7)
              · refine own_via (fun _ k => XS.icmpNo X0.here hx rfl (hb hby own_d_jdk_43_25_46) rfl (feq h7).1 k) ?_
                show own_Fin _ _ _ _ _ _ _ s₁ (mkF m 49 #[.val (.ref t), .val (.int N), .val (.ref g), .val (.int (2 : Int32)), .val (.int (0 : Int32)), .val (.int (46 : Int32)), .val (.int (N - (2 : Int32))), .val (.int (j2 + (1 : Int32))), s8, s9, s10] [])
                refine own_via (fun _ k => XS.goto X0.here hx rfl (pc0 := 49) (pc' := 30) rfl (hb hby own_d_jdk_43_25_49) (by decide) (by decide) k) ?_
                show own_Fin _ _ _ _ _ _ _ s₁ (mkF m 30 #[.val (.ref t), .val (.int N), .val (.ref g), .val (.int (2 : Int32)), .val (.int (0 : Int32)), .val (.int (46 : Int32)), .val (.int (N - (2 : Int32))), .val (.int (j2 + (1 : Int32))), s8, s9, s10] [])
                exact ih2 (i2 + 1) _ (own_succ hj2) (by omega) (by omega) (by omega) (own_next hs2 (fun hp => h7 hp.2.1))
        refine own_via (fun _ k => XS.aloadN X0.here hx rfl (hb hby own_d_jdk_43_25_21) rfl rfl k) ?_
        show own_Fin _ _ _ _ _ _ _ s₁ (mkF m 22 #[.val (.ref t), .val (.int N), .val (.ref g), .val (.int (2 : Int32)), .val (.int (0 : Int32)), .val (.int (46 : Int32)), .val (.int (N - (2 : Int32))), .val (.int j), s8, s9, s10] [(.ref t)])
        refine own_via (fun _ k => XS.iload X0.here hx rfl (hb hby own_d_jdk_43_25_22) rfl k) ?_
        show own_Fin _ _ _ _ _ _ _ s₁ (mkF m 24 #[.val (.ref t), .val (.int N), .val (.ref g), .val (.int (2 : Int32)), .val (.int (0 : Int32)), .val (.int (46 : Int32)), .val (.int (N - (2 : Int32))), .val (.int j), s8, s9, s10] [(.int j), (.ref t)])
        obtain ⟨c5_, Ar5_, q5_, S5_, M5_, H5_, G5_⟩ := (id Va)
        have hin5_ : ¬ (j < 0 ∨ c5_.slots.size ≤ (j).toNatClampNeg) := inb_of S5_ (own_inb hj hN (by omega) (by omega))
        have hat5_ : c5_.slots[(j).toNatClampNeg]? = some (.int (ds.getD i 0)) := H5_.at hin5_ (own_el hj (by omega))
        refine own_via (fun _ k => X0.baloadBytes hx (j := j) (v := (.int (ds.getD i 0))) (by rw [e0]; exact Ar5_.1) (State.isArrayOf_alike hZ.alike Ar5_.2.1) Ar5_.2.2 hin5_ hat5_ (g := (mkF m 24 #[.val (.ref t), .val (.int N), .val (.ref g), .val (.int (2 : Int32)), .val (.int (0 : Int32)), .val (.int (46 : Int32)), .val (.int (N - (2 : Int32))), .val (.int j), s8, s9, s10] [(.int j), (.ref t)])) rfl rfl (hb hby own_d_jdk_43_25_24) _ k) ?_
        show own_Fin _ _ _ _ _ _ _ s₁ (mkF m 25 #[.val (.ref t), .val (.int N), .val (.ref g), .val (.int (2 : Int32)), .val (.int (0 : Int32)), .val (.int (46 : Int32)), .val (.int (N - (2 : Int32))), .val (.int j), s8, s9, s10] [(.int (ds.getD i 0))])
        refine own_via (fun _ k => XS.iload X0.here hx rfl (hb hby own_d_jdk_43_25_25) rfl k) ?_
        show own_Fin _ _ _ _ _ _ _ s₁ (mkF m 27 #[.val (.ref t), .val (.int N), .val (.ref g), .val (.int (2 : Int32)), .val (.int (0 : Int32)), .val (.int (46 : Int32)), .val (.int (N - (2 : Int32))), .val (.int j), s8, s9, s10] [(.int (46 : Int32)), (.int (ds.getD i 0))])
        rcases Classical.em ((ds.getD i 0) = (46 : Int32)) with h5 | h5
        · refine own_via (fun _ k => XS.icmpYes X0.here hx rfl (pc0 := 27) (pc' := 52) rfl (hb hby own_d_jdk_43_25_27) rfl (teq h5).1 (by decide) (by decide) k) ?_
          show own_Fin _ _ _ _ _ _ _ s₁ (mkF m 52 #[.val (.ref t), .val (.int N), .val (.ref g), .val (.int (2 : Int32)), .val (.int (0 : Int32)), .val (.int (46 : Int32)), .val (.int (N - (2 : Int32))), .val (.int j), s8, s9, s10] [])
          exact s52 i j hj (Nat.le_refl _) (by omega) hs (fun _ => h5)
        · refine own_via (fun _ k => XS.icmpNo X0.here hx rfl (hb hby own_d_jdk_43_25_27) rfl (feq h5).1 k) ?_
          show own_Fin _ _ _ _ _ _ _ s₁ (mkF m 30 #[.val (.ref t), .val (.int N), .val (.ref g), .val (.int (2 : Int32)), .val (.int (0 : Int32)), .val (.int (46 : Int32)), .val (.int (N - (2 : Int32))), .val (.int j), s8, s9, s10] [])
          exact s30 n i j hj (Nat.le_refl _) hi2 (by omega) (own_next hs (fun hp => h5 hp.2.1))
  exact s14 n 0 _ _ _ _ (Or.inl rfl) (Or.inl rfl) (Or.inl rfl) rfl (by omega) (by omega) (fun q hq => absurd hq (Nat.not_lt_zero q))
theorem own_d_jdk_43_24_0 : decode jdk_43_method_24_code 0 = .ok (.aload_n 1, 1) := by decide +kernel
theorem own_d_jdk_43_24_1 : decode jdk_43_method_24_code 1 = .ok (.arraylength, 1) := by decide +kernel
theorem own_d_jdk_43_24_2 : decode jdk_43_method_24_code 2 = .ok (.ifCond .ne 5, 3) := by decide +kernel
theorem own_d_jdk_43_24_7 : decode jdk_43_method_24_code 7 = .ok (.aload_n 0, 1) := by decide +kernel
theorem own_d_jdk_43_24_8 : decode jdk_43_method_24_code 8 = .ok (.arraylength, 1) := by decide +kernel
theorem own_d_jdk_43_24_9 : decode jdk_43_method_24_code 9 = .ok (.ifCond .ne 5, 3) := by decide +kernel
theorem own_d_jdk_43_24_14 : decode jdk_43_method_24_code 14 = .ok (.aload_n 0, 1) := by decide +kernel
theorem own_d_jdk_43_24_15 : decode jdk_43_method_24_code 15 = .ok (.aload_n 0, 1) := by decide +kernel
theorem own_d_jdk_43_24_16 : decode jdk_43_method_24_code 16 = .ok (.arraylength, 1) := by decide +kernel
theorem own_d_jdk_43_24_17 : decode jdk_43_method_24_code 17 = .ok (.aload_n 1, 1) := by decide +kernel
theorem own_d_jdk_43_24_18 : decode jdk_43_method_24_code 18 = .ok (.aload_n 1, 1) := by decide +kernel
theorem own_d_jdk_43_24_19 : decode jdk_43_method_24_code 19 = .ok (.arraylength, 1) := by decide +kernel
theorem own_d_jdk_43_24_20 : decode jdk_43_method_24_code 20 = .ok (.iconst 0, 1) := by decide +kernel
theorem own_d_jdk_43_24_21 : decode jdk_43_method_24_code 21 = .ok (.invokestatic 99, 3) := by decide +kernel
theorem own_pd9 : parseMethodDescriptor "([BI[BII)I" = some ⟨[(.array .byte), .int, (.array .byte), .int, .int], some .int⟩ := by decide +kernel
theorem own_d_jdk_43_24_24 : decode jdk_43_method_24_code 24 = .ok (.ireturn, 1) := by decide +kernel
theorem own_ef_ixBB (m : MethodId) (t : Addr) (g : Addr) : entryFrame m #[(.ref t), (.ref g)] 2 = mkF m 0 #[.val (.ref t), .val (.ref g)] [] := by (first | (simp [entryFrame, mkF, argsToLocals, Value.category]; done) | rfl)
def own_Q_ixBB (Z : State) (t : Addr) (kt : ClassId) (N : Int32) (ds : List Int32) (n : Nat) (g : Addr) (kg : ClassId) (h0 : Heap) (n0 : Nat) (vq : Option Value) (h : Heap) (Lq : List Loc) : Prop := ∃ (r : Int32), (vq = some (.int r)) ∧ (Fr n0 Lq) ∧ (h = h0) ∧ (own_fnd ds n r)
set_option maxRecDepth 65536 in
set_option maxHeartbeats 40000000 in
theorem own_rm_ixBB (l : Launch) (Z : State) (a0 : Array Value) (hw : ∀ d ∈ tables_1, d.before a0 Z = true) (ws : List Jvm.Cond) (t : Addr) (kt : ClassId) (N : Int32) (ds : List Int32) (n : Nat) (g : Addr) (kg : ClassId) (h0 : Heap) (n0 : Nat) (Z0 : n0 ≤ h0.size) (Va : Arv Z h0 t kt .byte N (ds.map Value.int) (.int 0)) (Vg : Arv Z h0 g kg .byte (2 : Int32) ([(.int (46 : Int32)), (.int (46 : Int32))]) (.int 0)) (hN : N = Int32.ofNat n) (hn : n ≤ 4000) (hz : ¬ N = (0 : Int32)) :
    MetFree l (⟨"java/lang/StringLatin1", "indexOf", "([B[B)I"⟩ : MethodName) (head1 (Jvm.Cond.code (⟨"java/lang/StringLatin1", "indexOf", "([B[B)I"⟩ : MethodName) jdk_43_method_24_code 2 (some .int) :: ws) ({ frames := 1, cells := 0, slots := 0, locals := 22 } : Room)) (fun aq Uq => aq = #[(.ref t), (.ref g)] ∧ Z.Warmed39 Uq.vm ∧ Uq.heap = h0) (fun _ _ _ _ _ => True) (fun _ Uq oq Uq' => ∃ vq Lq, oq = .returned vq ∧ own_Q_ixBB Z t kt N ds n g kg h0 n0 vq Uq'.heap Lq ∧ FrameEnd Uq oq Uq' Lq ({ frames := 1, cells := 0, slots := 0, locals := 22 } : Room).cells ({ frames := 1, cells := 0, slots := 0, locals := 22 } : Room).slots) := by
  refine MetFree.of_bodySF (plainFor_of_name own_pn2) hisR ?_
  intro p e s m args below meth cde s₁ Bd hml0 hP hK
  obtain ⟨rfl, hZ, hh⟩ := hP
  have hx := Bd.exec
  have hby := Bd.bytes
  have hml : cde.maxLocals = 2 := hml0
  have hown : s.vm.findClass "java/lang/StringLatin1" = some m.cls := findClass_of_methodNamed Bd.named
  have hnm := (name_of_methodNamed Bd.named Bd.method).1
  have X0 : Stand p l e ({ frames := 1, cells := 0, slots := 0, locals := 22 } : Room) s m #[(.ref t), (.ref g)] below meth cde s₁ [] 0 0 := Stand.of_body Bd
  have e0 : s₁.heap = h0 := by rw [← hh, Bd.state]; rfl
  have N0 := Fr.nil n0
  show own_Fin p e s below (own_Q_ixBB Z t kt N ds n g kg h0 n0) ({ frames := 1, cells := 0, slots := 0, locals := 22 } : Room).cells ({ frames := 1, cells := 0, slots := 0, locals := 22 } : Room).slots s₁ (entryFrame m #[(.ref t), (.ref g)] 2)
  rw [own_ef_ixBB m t g]
  refine own_via (fun _ k => XS.aloadN X0.here hx rfl (hb hby own_d_jdk_43_24_0) rfl rfl k) ?_
  show own_Fin _ _ _ _ _ _ _ s₁ (mkF m 1 #[.val (.ref t), .val (.ref g)] [(.ref g)])
  obtain ⟨c1_, Ar1_, -, S1_, M1_, -, -⟩ := (id Vg)
  refine own_via (fun _ k => X0.arraylength hx (by rw [e0]; exact Ar1_.1) (State.isArrayOf_alike hZ.alike Ar1_.2.1) (g := (mkF m 1 #[.val (.ref t), .val (.ref g)] [(.ref g)])) rfl rfl (hb hby own_d_jdk_43_24_1) _ (by rw [len_of S1_ M1_]; exact k)) ?_
  show own_Fin _ _ _ _ _ _ _ s₁ (mkF m 2 #[.val (.ref t), .val (.ref g)] [(.int (2 : Int32))])
  refine own_via (fun _ k => XS.ifYes X0.here hx rfl (pc0 := 2) (pc' := 7) rfl (hb hby own_d_jdk_43_24_2) rfl ((if0 _ _).trans (feq (by decide)).2) (by decide) (by decide) k) ?_
  show own_Fin _ _ _ _ _ _ _ s₁ (mkF m 7 #[.val (.ref t), .val (.ref g)] [])
  refine own_via (fun _ k => XS.aloadN X0.here hx rfl (hb hby own_d_jdk_43_24_7) rfl rfl k) ?_
  show own_Fin _ _ _ _ _ _ _ s₁ (mkF m 8 #[.val (.ref t), .val (.ref g)] [(.ref t)])
  obtain ⟨c2_, Ar2_, -, S2_, M2_, -, -⟩ := (id Va)
  refine own_via (fun _ k => X0.arraylength hx (by rw [e0]; exact Ar2_.1) (State.isArrayOf_alike hZ.alike Ar2_.2.1) (g := (mkF m 8 #[.val (.ref t), .val (.ref g)] [(.ref t)])) rfl rfl (hb hby own_d_jdk_43_24_8) _ (by rw [len_of S2_ M2_]; exact k)) ?_
  show own_Fin _ _ _ _ _ _ _ s₁ (mkF m 9 #[.val (.ref t), .val (.ref g)] [(.int N)])
  refine own_via (fun _ k => XS.ifYes X0.here hx rfl (pc0 := 9) (pc' := 14) rfl (hb hby own_d_jdk_43_24_9) rfl ((if0 _ _).trans (feq hz).2) (by decide) (by decide) k) ?_
  show own_Fin _ _ _ _ _ _ _ s₁ (mkF m 14 #[.val (.ref t), .val (.ref g)] [])
  refine own_via (fun _ k => XS.aloadN X0.here hx rfl (hb hby own_d_jdk_43_24_14) rfl rfl k) ?_
  show own_Fin _ _ _ _ _ _ _ s₁ (mkF m 15 #[.val (.ref t), .val (.ref g)] [(.ref t)])
  refine own_via (fun _ k => XS.aloadN X0.here hx rfl (hb hby own_d_jdk_43_24_15) rfl rfl k) ?_
  show own_Fin _ _ _ _ _ _ _ s₁ (mkF m 16 #[.val (.ref t), .val (.ref g)] [(.ref t), (.ref t)])
  obtain ⟨c3_, Ar3_, -, S3_, M3_, -, -⟩ := (id Va)
  refine own_via (fun _ k => X0.arraylength hx (by rw [e0]; exact Ar3_.1) (State.isArrayOf_alike hZ.alike Ar3_.2.1) (g := (mkF m 16 #[.val (.ref t), .val (.ref g)] [(.ref t), (.ref t)])) rfl rfl (hb hby own_d_jdk_43_24_16) _ (by rw [len_of S3_ M3_]; exact k)) ?_
  show own_Fin _ _ _ _ _ _ _ s₁ (mkF m 17 #[.val (.ref t), .val (.ref g)] [(.int N), (.ref t)])
  refine own_via (fun _ k => XS.aloadN X0.here hx rfl (hb hby own_d_jdk_43_24_17) rfl rfl k) ?_
  show own_Fin _ _ _ _ _ _ _ s₁ (mkF m 18 #[.val (.ref t), .val (.ref g)] [(.ref g), (.int N), (.ref t)])
  refine own_via (fun _ k => XS.aloadN X0.here hx rfl (hb hby own_d_jdk_43_24_18) rfl rfl k) ?_
  show own_Fin _ _ _ _ _ _ _ s₁ (mkF m 19 #[.val (.ref t), .val (.ref g)] [(.ref g), (.ref g), (.int N), (.ref t)])
  obtain ⟨c4_, Ar4_, -, S4_, M4_, -, -⟩ := (id Vg)
  refine own_via (fun _ k => X0.arraylength hx (by rw [e0]; exact Ar4_.1) (State.isArrayOf_alike hZ.alike Ar4_.2.1) (g := (mkF m 19 #[.val (.ref t), .val (.ref g)] [(.ref g), (.ref g), (.int N), (.ref t)])) rfl rfl (hb hby own_d_jdk_43_24_19) _ (by rw [len_of S4_ M4_]; exact k)) ?_
  show own_Fin _ _ _ _ _ _ _ s₁ (mkF m 20 #[.val (.ref t), .val (.ref g)] [(.int (2 : Int32)), (.ref g), (.int N), (.ref t)])
  refine own_via (fun _ k => XS.iconst X0.here hx rfl (hb hby own_d_jdk_43_24_20) k) ?_
  show own_Fin _ _ _ _ _ _ _ s₁ (mkF m 21 #[.val (.ref t), .val (.ref g)] [(.int (0 : Int32)), (.int (2 : Int32)), (.ref g), (.int N), (.ref t)])
  obtain ⟨_, _, ⟨T5_, L5_, k5_, n5_⟩, -, X5_, ⟨Lc5_, hQ5_, l5_, y5_, z5_⟩, st5_⟩ := Jvm.LawKit.callS X0 hx (y := (⟨"java/lang/StringLatin1", "indexOf", "([BI[BII)I"⟩ : MethodName)) hown (mvT hZ (hw _ (List.mem_of_getElem? (i := 131) rfl))) (mvT hZ (hw _ (List.mem_of_getElem? (i := 132) rfl))) (mvT hZ (hw _ (List.mem_of_getElem? (i := 76) rfl))) (mvT hZ (hw _ (List.mem_of_getElem? (i := 133) rfl))) (by decide) (backOf (W := 0) (own_rm_ix5 l Z a0 hw [] t kt N ds n g kg h0 n0 Z0 Va Vg hN hn) hZ (hw _ (List.mem_of_getElem? (i := 133) rfl)) (hw _ (List.mem_of_getElem? (i := 76) rfl)) (by decide) (by decide)) (g := (mkF m 21 #[.val (.ref t), .val (.ref g)] [(.int (0 : Int32)), (.int (2 : Int32)), (.ref g), (.int N), (.ref t)])) rfl (by rw [hml]; rfl) (argsL := [(.ref t), (.int N), (.ref g), (.int (2 : Int32)), (.int (0 : Int32))]) (rest := []) (lenOf own_pd9 rfl) rfl (by show 2 * 0 + _ ≤ _; exact Nat.le_of_eq rfl) (hb hby own_d_jdk_43_24_21) (fun _ _ => ⟨rfl, e0, (by decide : 0 + 0 ≤ _), (by decide : 0 + 0 ≤ _)⟩)
  dsimp only [Pt.U, Pt.locs, Pt.cells, Pt.slots] at X5_ l5_ y5_ z5_ st5_ hQ5_
  subst l5_ y5_ z5_
  obtain ⟨r, rfl, Nq5_, hh5_, hr⟩ := hQ5_
  have N5_ := Fr.app N0 Nq5_
  refine own_via (fun _ k => st5_ _ k) ?_
  show own_Fin _ _ _ _ _ _ _ T5_ (mkF m 24 #[.val (.ref t), .val (.ref g)] [(.int r)])
  exact own_retI X5_ hx Bd.returns Bd.notSynchronized (hb hby own_d_jdk_43_24_24) hh5_ rfl ⟨r, rfl, N5_, rfl, hr⟩ (by decide) (by decide)
theorem own_d_jdk_42_84_0 : decode jdk_42_method_84_code 0 = .ok (.aload_n 0, 1) := by decide +kernel
theorem own_d_jdk_42_84_1 : decode jdk_42_method_84_code 1 = .ok (.invokevirtual 335, 3) := by decide +kernel
theorem own_d_jdk_42_84_4 : decode jdk_42_method_84_code 4 = .ok (.istore_n 2, 1) := by decide +kernel
theorem own_d_jdk_42_84_5 : decode jdk_42_method_84_code 5 = .ok (.iload_n 2, 1) := by decide +kernel
theorem own_d_jdk_42_84_6 : decode jdk_42_method_84_code 6 = .ok (.aload_n 1, 1) := by decide +kernel
theorem own_d_jdk_42_84_7 : decode jdk_42_method_84_code 7 = .ok (.invokevirtual 335, 3) := by decide +kernel
theorem own_d_jdk_42_84_10 : decode jdk_42_method_84_code 10 = .ok (.if_icmp .ne 36, 3) := by decide +kernel
theorem own_d_jdk_42_84_13 : decode jdk_42_method_84_code 13 = .ok (.aload_n 0, 1) := by decide +kernel
theorem own_d_jdk_42_84_14 : decode jdk_42_method_84_code 14 = .ok (.invokevirtual 492, 3) := by decide +kernel
theorem own_d_jdk_42_84_17 : decode jdk_42_method_84_code 17 = .ok (.ifCond .eq 17, 3) := by decide +kernel
theorem own_d_jdk_42_84_20 : decode jdk_42_method_84_code 20 = .ok (.aload_n 0, 1) := by decide +kernel
theorem own_d_jdk_42_84_21 : decode jdk_42_method_84_code 21 = .ok (.getfield 9, 3) := by decide +kernel
theorem own_d_jdk_42_84_24 : decode jdk_42_method_84_code 24 = .ok (.aload_n 1, 1) := by decide +kernel
theorem own_d_jdk_42_84_25 : decode jdk_42_method_84_code 25 = .ok (.getfield 9, 3) := by decide +kernel
theorem own_d_jdk_42_84_28 : decode jdk_42_method_84_code 28 = .ok (.invokestatic 647, 3) := by decide +kernel
theorem own_pd10 : parseMethodDescriptor "([B[B)I" = some ⟨[(.array .byte), (.array .byte)], some .int⟩ := by decide +kernel
theorem own_d_jdk_42_84_31 : decode jdk_42_method_84_code 31 = .ok (.goto 14, 3) := by decide +kernel
theorem own_d_jdk_42_84_45 : decode jdk_42_method_84_code 45 = .ok (.ireturn, 1) := by decide +kernel
theorem own_ef_ixS (m : MethodId) (a1 : Addr) (a2 : Addr) : entryFrame m #[(.ref a1), (.ref a2)] 3 = mkF m 0 #[.val (.ref a1), .val (.ref a2), .unset] [] := by (first | (simp [entryFrame, mkF, argsToLocals, Value.category]; done) | rfl)
def own_Q_ixS (Z : State) (a1 : Addr) (cz : Int32) (t : Addr) (kt : ClassId) (N : Int32) (ds : List Int32) (n : Nat) (a2 : Addr) (g : Addr) (kg : ClassId) (h0 : Heap) (n0 : Nat) (vq : Option Value) (h : Heap) (Lq : List Loc) : Prop := ∃ (r : Int32), (vq = some (.int r)) ∧ (Fr n0 Lq) ∧ (h = h0) ∧ (own_fnd ds n r)
set_option maxRecDepth 65536 in
set_option maxHeartbeats 40000000 in
theorem own_rm_ixS (l : Launch) (Z : State) (a0 : Array Value) (hw : ∀ d ∈ tables_1, d.before a0 Z = true) (ws : List Jvm.Cond) (a1 : Addr) (cz : Int32) (t : Addr) (kt : ClassId) (N : Int32) (ds : List Int32) (n : Nat) (a2 : Addr) (g : Addr) (kg : ClassId) (h0 : Heap) (n0 : Nat) (Z0 : n0 ≤ h0.size) (O0 : Old Z n0 h0) (S1 : Sta Z Z.heap "java/lang/String" "COMPACT_STRINGS" "Z" (.int cz)) (P5 : ¬ cz = (0 : Int32)) (E1 : Exa Z h0 a1 "java/lang/String") (F1 : Fld Z h0 a1 "java/lang/String" "coder" "B" (.int (0 : Int32))) (F2 : Fld Z h0 a1 "java/lang/String" "value" "[B" (.ref t)) (Va : Arv Z h0 t kt .byte N (ds.map Value.int) (.int 0)) (E3 : Exa Z h0 a2 "java/lang/String") (F3 : Fld Z h0 a2 "java/lang/String" "coder" "B" (.int (0 : Int32))) (F4 : Fld Z h0 a2 "java/lang/String" "value" "[B" (.ref g)) (Vg : Arv Z h0 g kg .byte (2 : Int32) ([(.int (46 : Int32)), (.int (46 : Int32))]) (.int 0)) (hN : N = Int32.ofNat n) (hn : n ≤ 4000) (hz : ¬ N = (0 : Int32)) :
    MetFree l (⟨"java/lang/String", "indexOf", "(Ljava/lang/String;)I"⟩ : MethodName) (head1 (Jvm.Cond.code (⟨"java/lang/String", "indexOf", "(Ljava/lang/String;)I"⟩ : MethodName) jdk_42_method_84_code 3 (some .int) :: ws) ({ frames := 2, cells := 0, slots := 0, locals := 35 } : Room)) (fun aq Uq => aq = #[(.ref a1), (.ref a2)] ∧ Z.Warmed39 Uq.vm ∧ Uq.heap = h0) (fun _ _ _ _ _ => True) (fun _ Uq oq Uq' => ∃ vq Lq, oq = .returned vq ∧ own_Q_ixS Z a1 cz t kt N ds n a2 g kg h0 n0 vq Uq'.heap Lq ∧ FrameEnd Uq oq Uq' Lq ({ frames := 2, cells := 0, slots := 0, locals := 35 } : Room).cells ({ frames := 2, cells := 0, slots := 0, locals := 35 } : Room).slots) := by
  refine MetFree.of_bodySF (plainFor_of_name own_pn0) hisR ?_
  intro p e s m args below meth cde s₁ Bd hml0 hP hK
  obtain ⟨rfl, hZ, hh⟩ := hP
  have hx := Bd.exec
  have hby := Bd.bytes
  have hml : cde.maxLocals = 3 := hml0
  have hown : s.vm.findClass "java/lang/String" = some m.cls := findClass_of_methodNamed Bd.named
  have hnm := (name_of_methodNamed Bd.named Bd.method).1
  have X0 : Stand p l e ({ frames := 2, cells := 0, slots := 0, locals := 35 } : Room) s m #[(.ref a1), (.ref a2)] below meth cde s₁ [] 0 0 := Stand.of_body Bd
  have e0 : s₁.heap = h0 := by rw [← hh, Bd.state]; rfl
  have N0 := Fr.nil n0
  show own_Fin p e s below (own_Q_ixS Z a1 cz t kt N ds n a2 g kg h0 n0) ({ frames := 2, cells := 0, slots := 0, locals := 35 } : Room).cells ({ frames := 2, cells := 0, slots := 0, locals := 35 } : Room).slots s₁ (entryFrame m #[(.ref a1), (.ref a2)] 3)
  rw [own_ef_ixS m a1 a2]
  refine own_via (fun _ k => XS.aloadN X0.here hx rfl (hb hby own_d_jdk_42_84_0) rfl rfl k) ?_
  show own_Fin _ _ _ _ _ _ _ s₁ (mkF m 1 #[.val (.ref a1), .val (.ref a2), .unset] [(.ref a1)])
  obtain ⟨cq1_, kq1_, q1_a, q1_b, q1_c⟩ := isOf hZ e0 E1
  obtain ⟨_, _, ⟨T1_, L1_, k1_, n1_⟩, -, X1_, ⟨Lc1_, hQ1_, l1_, y1_, z1_⟩, st1_⟩ := X0.virtualBack hx (y := (⟨"java/lang/String", "coder", "()B"⟩ : MethodName)) (z := (⟨"java/lang/String", "coder", "()B"⟩ : MethodName)) hown (mvT hZ (hw _ (List.mem_of_getElem? (i := 69) rfl))) (mvT hZ (hw _ (List.mem_of_getElem? (i := 70) rfl))) (notFace_of_selects (args := #[]) (mvT hZ (hw _ (List.mem_of_getElem? (i := 72) rfl)))) (mvT hZ (hw _ (List.mem_of_getElem? (i := 72) rfl))) (mvT hZ (hw _ (List.mem_of_getElem? (i := 71) rfl))) (by decide) (backOf (W := 0) (own_rm_coder l Z a0 hw [] a1 cz h0 n0 Z0 O0 S1 (by first | assumption | decide) F1) hZ (hw _ (List.mem_of_getElem? (i := 73) rfl)) (hw _ (List.mem_of_getElem? (i := 9) rfl)) (by decide) (by decide)) q1_a q1_c (g := (mkF m 1 #[.val (.ref a1), .val (.ref a2), .unset] [(.ref a1)])) rfl (by rw [hml]; rfl) (Steps.refl _) (argsL := []) (rest := []) (lenOf own_pd0 rfl) rfl (by show 2 * 0 + _ ≤ _; exact Nat.le_of_eq rfl) (hb hby own_d_jdk_42_84_1) (fun _ _ => ⟨rfl, e0, (by decide : 0 + 0 ≤ _), (by decide : 0 + 0 ≤ _)⟩)
  dsimp only [Pt.U, Pt.locs, Pt.cells, Pt.slots] at X1_ l1_ y1_ z1_ st1_ hQ1_
  subst l1_ y1_ z1_
  obtain ⟨rfl, Nq1_, hh1_⟩ := hQ1_
  have N1_ := Fr.app N0 Nq1_
  refine own_via (fun _ k => st1_.trans k) ?_
  show own_Fin _ _ _ _ _ _ _ T1_ (mkF m 4 #[.val (.ref a1), .val (.ref a2), .unset] [(.int (0 : Int32))])
  refine own_via (fun _ k => XS.istoreN X1_.here hx rfl (hb hby own_d_jdk_42_84_4) rfl (l' := #[.val (.ref a1), .val (.ref a2), .val (.int (0 : Int32))]) rfl k) ?_
  show own_Fin _ _ _ _ _ _ _ T1_ (mkF m 5 #[.val (.ref a1), .val (.ref a2), .val (.int (0 : Int32))] [])
  refine own_via (fun _ k => XS.iloadN X1_.here hx rfl (hb hby own_d_jdk_42_84_5) rfl k) ?_
  show own_Fin _ _ _ _ _ _ _ T1_ (mkF m 6 #[.val (.ref a1), .val (.ref a2), .val (.int (0 : Int32))] [(.int (0 : Int32))])
  refine own_via (fun _ k => XS.aloadN X1_.here hx rfl (hb hby own_d_jdk_42_84_6) rfl rfl k) ?_
  show own_Fin _ _ _ _ _ _ _ T1_ (mkF m 7 #[.val (.ref a1), .val (.ref a2), .val (.int (0 : Int32))] [(.ref a2), (.int (0 : Int32))])
  obtain ⟨cq2_, kq2_, q2_a, q2_b, q2_c⟩ := isOf hZ hh1_ E3
  obtain ⟨_, _, ⟨T2_, L2_, k2_, n2_⟩, -, X2_, ⟨Lc2_, hQ2_, l2_, y2_, z2_⟩, st2_⟩ := X1_.virtualBack hx (y := (⟨"java/lang/String", "coder", "()B"⟩ : MethodName)) (z := (⟨"java/lang/String", "coder", "()B"⟩ : MethodName)) hown (mvT hZ (hw _ (List.mem_of_getElem? (i := 69) rfl))) (mvT hZ (hw _ (List.mem_of_getElem? (i := 70) rfl))) (notFace_of_selects (args := #[]) (mvT hZ (hw _ (List.mem_of_getElem? (i := 72) rfl)))) (mvT hZ (hw _ (List.mem_of_getElem? (i := 72) rfl))) (mvT hZ (hw _ (List.mem_of_getElem? (i := 71) rfl))) (by decide) (backOf (W := 1) (own_rm_coder l Z a0 hw [] a2 cz h0 n0 Z0 O0 S1 (by first | assumption | decide) F3) hZ (hw _ (List.mem_of_getElem? (i := 73) rfl)) (hw _ (List.mem_of_getElem? (i := 9) rfl)) (by decide) (by decide)) q2_a q2_c (g := (mkF m 7 #[.val (.ref a1), .val (.ref a2), .val (.int (0 : Int32))] [(.ref a2), (.int (0 : Int32))])) rfl (by rw [hml]; rfl) (Steps.refl _) (argsL := []) (rest := [(.int (0 : Int32))]) (lenOf own_pd0 rfl) rfl (by show 2 * 0 + _ ≤ _; exact Nat.le_of_eq rfl) (hb hby own_d_jdk_42_84_7) (fun _ _ => ⟨rfl, hh1_, (by decide : 0 + 0 + 0 ≤ _), (by decide : 0 + 0 + 0 ≤ _)⟩)
  dsimp only [Pt.U, Pt.locs, Pt.cells, Pt.slots] at X2_ l2_ y2_ z2_ st2_ hQ2_
  subst l2_ y2_ z2_
  obtain ⟨rfl, Nq2_, hh2_⟩ := hQ2_
  have N2_ := Fr.app N1_ Nq2_
  refine own_via (fun _ k => st2_.trans k) ?_
  show own_Fin _ _ _ _ _ _ _ T2_ (mkF m 10 #[.val (.ref a1), .val (.ref a2), .val (.int (0 : Int32))] [(.int (0 : Int32)), (.int (0 : Int32))])
  refine own_via (fun _ k => XS.icmpNo X2_.here hx rfl (hb hby own_d_jdk_42_84_10) rfl (teq rfl).2 k) ?_
  show own_Fin _ _ _ _ _ _ _ T2_ (mkF m 13 #[.val (.ref a1), .val (.ref a2), .val (.int (0 : Int32))] [])
  refine own_via (fun _ k => XS.aloadN X2_.here hx rfl (hb hby own_d_jdk_42_84_13) rfl rfl k) ?_
  show own_Fin _ _ _ _ _ _ _ T2_ (mkF m 14 #[.val (.ref a1), .val (.ref a2), .val (.int (0 : Int32))] [(.ref a1)])
  obtain ⟨cq3_, kq3_, q3_a, q3_b, q3_c⟩ := isOf hZ hh2_ E1
  obtain ⟨_, _, ⟨T3_, L3_, k3_, n3_⟩, -, X3_, ⟨Lc3_, hQ3_, l3_, y3_, z3_⟩, st3_⟩ := X2_.virtualBack hx (y := (⟨"java/lang/String", "isLatin1", "()Z"⟩ : MethodName)) (z := (⟨"java/lang/String", "isLatin1", "()Z"⟩ : MethodName)) hown (mvT hZ (hw _ (List.mem_of_getElem? (i := 59) rfl))) (mvT hZ (hw _ (List.mem_of_getElem? (i := 60) rfl))) (notFace_of_selects (args := #[]) (mvT hZ (hw _ (List.mem_of_getElem? (i := 62) rfl)))) (mvT hZ (hw _ (List.mem_of_getElem? (i := 62) rfl))) (mvT hZ (hw _ (List.mem_of_getElem? (i := 61) rfl))) (by decide) (backOf (W := 0) (own_rm_isLat l Z a0 hw [] a1 cz h0 n0 Z0 O0 S1 (by first | assumption | decide) F1) hZ (hw _ (List.mem_of_getElem? (i := 63) rfl)) (hw _ (List.mem_of_getElem? (i := 9) rfl)) (by decide) (by decide)) q3_a q3_c (g := (mkF m 14 #[.val (.ref a1), .val (.ref a2), .val (.int (0 : Int32))] [(.ref a1)])) rfl (by rw [hml]; rfl) (Steps.refl _) (argsL := []) (rest := []) (lenOf own_pd3 rfl) rfl (by show 2 * 0 + _ ≤ _; exact Nat.le_of_eq rfl) (hb hby own_d_jdk_42_84_14) (fun _ _ => ⟨rfl, hh2_, (by decide : 0 + 0 + 0 + 0 ≤ _), (by decide : 0 + 0 + 0 + 0 ≤ _)⟩)
  dsimp only [Pt.U, Pt.locs, Pt.cells, Pt.slots] at X3_ l3_ y3_ z3_ st3_ hQ3_
  subst l3_ y3_ z3_
  obtain ⟨rfl, Nq3_, hh3_⟩ := hQ3_
  have N3_ := Fr.app N2_ Nq3_
  refine own_via (fun _ k => st3_.trans k) ?_
  show own_Fin _ _ _ _ _ _ _ T3_ (mkF m 17 #[.val (.ref a1), .val (.ref a2), .val (.int (0 : Int32))] [(.int (1 : Int32))])
  refine own_via (fun _ k => XS.ifNo X3_.here hx rfl (hb hby own_d_jdk_42_84_17) rfl ((if0 _ _).trans (feq (by decide)).1) k) ?_
  show own_Fin _ _ _ _ _ _ _ T3_ (mkF m 20 #[.val (.ref a1), .val (.ref a2), .val (.int (0 : Int32))] [])
  refine own_via (fun _ k => XS.aloadN X3_.here hx rfl (hb hby own_d_jdk_42_84_20) rfl rfl k) ?_
  show own_Fin _ _ _ _ _ _ _ T3_ (mkF m 21 #[.val (.ref a1), .val (.ref a2), .val (.int (0 : Int32))] [(.ref a1)])
  obtain ⟨T4_, X4_, e4_, st4_⟩ := getF X3_ hx hZ hown (host := "") (Or.inl (hw _ (List.mem_of_getElem? (i := 27) rfl))) Via.refl hh3_ F2 (g := (mkF m 21 #[.val (.ref a1), .val (.ref a2), .val (.int (0 : Int32))] [(.ref a1)])) rfl rfl (hb hby own_d_jdk_42_84_21)
  refine own_via (fun _ k => st4_ _ k) ?_
  show own_Fin _ _ _ _ _ _ _ T4_ (mkF m 24 #[.val (.ref a1), .val (.ref a2), .val (.int (0 : Int32))] [(.ref t)])
  refine own_via (fun _ k => XS.aloadN X4_.here hx rfl (hb hby own_d_jdk_42_84_24) rfl rfl k) ?_
  show own_Fin _ _ _ _ _ _ _ T4_ (mkF m 25 #[.val (.ref a1), .val (.ref a2), .val (.int (0 : Int32))] [(.ref a2), (.ref t)])
  obtain ⟨T5_, X5_, e5_, st5_⟩ := getF X4_ hx hZ hown (host := "") (Or.inl (hw _ (List.mem_of_getElem? (i := 27) rfl))) Via.refl e4_ F4 (g := (mkF m 25 #[.val (.ref a1), .val (.ref a2), .val (.int (0 : Int32))] [(.ref a2), (.ref t)])) rfl rfl (hb hby own_d_jdk_42_84_25)
  refine own_via (fun _ k => st5_ _ k) ?_
  show own_Fin _ _ _ _ _ _ _ T5_ (mkF m 28 #[.val (.ref a1), .val (.ref a2), .val (.int (0 : Int32))] [(.ref g), (.ref t)])
  obtain ⟨_, _, ⟨T6_, L6_, k6_, n6_⟩, -, X6_, ⟨Lc6_, hQ6_, l6_, y6_, z6_⟩, st6_⟩ := Jvm.LawKit.callS X5_ hx (y := (⟨"java/lang/StringLatin1", "indexOf", "([B[B)I"⟩ : MethodName)) hown (mvT hZ (hw _ (List.mem_of_getElem? (i := 128) rfl))) (mvT hZ (hw _ (List.mem_of_getElem? (i := 129) rfl))) (mvT hZ (hw _ (List.mem_of_getElem? (i := 76) rfl))) (mvT hZ (hw _ (List.mem_of_getElem? (i := 130) rfl))) (by decide) (backOf (W := 0) (own_rm_ixBB l Z a0 hw [] t kt N ds n g kg h0 n0 Z0 Va Vg hN hn hz) hZ (hw _ (List.mem_of_getElem? (i := 130) rfl)) (hw _ (List.mem_of_getElem? (i := 76) rfl)) (by decide) (by decide)) (g := (mkF m 28 #[.val (.ref a1), .val (.ref a2), .val (.int (0 : Int32))] [(.ref g), (.ref t)])) rfl (by rw [hml]; rfl) (argsL := [(.ref t), (.ref g)]) (rest := []) (lenOf own_pd10 rfl) rfl (by show 2 * 0 + _ ≤ _; exact Nat.le_of_eq rfl) (hb hby own_d_jdk_42_84_28) (fun _ _ => ⟨rfl, e5_, (by decide : 0 + 0 + 0 + 0 + 0 ≤ _), (by decide : 0 + 0 + 0 + 0 + 0 ≤ _)⟩)
  dsimp only [Pt.U, Pt.locs, Pt.cells, Pt.slots] at X6_ l6_ y6_ z6_ st6_ hQ6_
  subst l6_ y6_ z6_
  obtain ⟨r, rfl, Nq6_, hh6_, hr⟩ := hQ6_
  have N6_ := Fr.app N3_ Nq6_
  refine own_via (fun _ k => st6_ _ k) ?_
  show own_Fin _ _ _ _ _ _ _ T6_ (mkF m 31 #[.val (.ref a1), .val (.ref a2), .val (.int (0 : Int32))] [(.int r)])
  refine own_via (fun _ k => XS.goto X6_.here hx rfl (pc0 := 31) (pc' := 45) rfl (hb hby own_d_jdk_42_84_31) (by decide) (by decide) k) ?_
  show own_Fin _ _ _ _ _ _ _ T6_ (mkF m 45 #[.val (.ref a1), .val (.ref a2), .val (.int (0 : Int32))] [(.int r)])
  exact own_retI X6_ hx Bd.returns Bd.notSynchronized (hb hby own_d_jdk_42_84_45) hh6_ rfl ⟨r, rfl, N6_, rfl, hr⟩ (by decide) (by decide)
theorem own_d_jdk_42_126_0 : decode jdk_42_method_126_code 0 = .ok (.aload_n 0, 1) := by decide +kernel
theorem own_d_jdk_42_126_1 : decode jdk_42_method_126_code 1 = .ok (.areturn, 1) := by decide +kernel
theorem own_ef_toS (m : MethodId) (a1 : Addr) : entryFrame m #[(.ref a1)] 1 = mkF m 0 #[.val (.ref a1)] [] := by (first | (simp [entryFrame, mkF, argsToLocals, Value.category]; done) | rfl)
def own_Q_toS (Z : State) (a1 : Addr) (h0 : Heap) (n0 : Nat) (vq : Option Value) (h : Heap) (Lq : List Loc) : Prop := (vq = some (.ref a1)) ∧ (Fr n0 Lq) ∧ (h = h0)
set_option maxRecDepth 65536 in
set_option maxHeartbeats 40000000 in
theorem own_rm_toS (l : Launch) (Z : State) (a0 : Array Value) (hw : ∀ d ∈ tables_1, d.before a0 Z = true) (ws : List Jvm.Cond) (a1 : Addr) (h0 : Heap) (n0 : Nat) (Z0 : n0 ≤ h0.size) :
    MetFree l (⟨"java/lang/String", "toString", "()Ljava/lang/String;"⟩ : MethodName) (head1 (Jvm.Cond.code (⟨"java/lang/String", "toString", "()Ljava/lang/String;"⟩ : MethodName) jdk_42_method_126_code 1 (some (.object "java/lang/String")) :: ws) ({ frames := 0, cells := 0, slots := 0, locals := 0 } : Room)) (fun aq Uq => aq = #[(.ref a1)] ∧ Z.Warmed39 Uq.vm ∧ Uq.heap = h0) (fun _ _ _ _ _ => True) (fun _ Uq oq Uq' => ∃ vq Lq, oq = .returned vq ∧ own_Q_toS Z a1 h0 n0 vq Uq'.heap Lq ∧ FrameEnd Uq oq Uq' Lq ({ frames := 0, cells := 0, slots := 0, locals := 0 } : Room).cells ({ frames := 0, cells := 0, slots := 0, locals := 0 } : Room).slots) := by
  refine MetFree.of_bodySF (plainFor_of_name own_pn0) hisR ?_
  intro p e s m args below meth cde s₁ Bd hml0 hP hK
  obtain ⟨rfl, hZ, hh⟩ := hP
  have hx := Bd.exec
  have hby := Bd.bytes
  have hml : cde.maxLocals = 1 := hml0
  have hown : s.vm.findClass "java/lang/String" = some m.cls := findClass_of_methodNamed Bd.named
  have hnm := (name_of_methodNamed Bd.named Bd.method).1
  have X0 : Stand p l e ({ frames := 0, cells := 0, slots := 0, locals := 0 } : Room) s m #[(.ref a1)] below meth cde s₁ [] 0 0 := Stand.of_body Bd
  have e0 : s₁.heap = h0 := by rw [← hh, Bd.state]; rfl
  have N0 := Fr.nil n0
  show own_Fin p e s below (own_Q_toS Z a1 h0 n0) ({ frames := 0, cells := 0, slots := 0, locals := 0 } : Room).cells ({ frames := 0, cells := 0, slots := 0, locals := 0 } : Room).slots s₁ (entryFrame m #[(.ref a1)] 1)
  rw [own_ef_toS m a1]
  refine own_via (fun _ k => XS.aloadN X0.here hx rfl (hb hby own_d_jdk_42_126_0) rfl rfl k) ?_
  show own_Fin _ _ _ _ _ _ _ s₁ (mkF m 1 #[.val (.ref a1)] [(.ref a1)])
  exact own_retA X0 hx Bd.returns Bd.notSynchronized rfl rfl (hb hby own_d_jdk_42_126_1) e0 ⟨rfl, N0, rfl⟩ (by decide) (by decide)
theorem own_d_jdk_42_97_0 : decode jdk_42_method_97_code 0 = .ok (.aload_n 0, 1) := by decide +kernel
theorem own_d_jdk_42_97_1 : decode jdk_42_method_97_code 1 = .ok (.aload_n 1, 1) := by decide +kernel
theorem own_d_jdk_42_97_2 : decode jdk_42_method_97_code 2 = .ok (.invokeinterface 710 1, 5) := by decide +kernel
theorem own_pd11 : parseMethodDescriptor "()Ljava/lang/String;" = some ⟨[], some (.object "java/lang/String")⟩ := by decide +kernel
theorem own_d_jdk_42_97_7 : decode jdk_42_method_97_code 7 = .ok (.invokevirtual 711, 3) := by decide +kernel
theorem own_pd12 : parseMethodDescriptor "(Ljava/lang/String;)I" = some ⟨[(.object "java/lang/String")], some .int⟩ := by decide +kernel
theorem own_d_jdk_42_97_10 : decode jdk_42_method_97_code 10 = .ok (.ifCond .lt 7, 3) := by decide +kernel
theorem own_d_jdk_42_97_17 : decode jdk_42_method_97_code 17 = .ok (.iconst 0, 1) := by decide +kernel
theorem own_d_jdk_42_97_18 : decode jdk_42_method_97_code 18 = .ok (.ireturn, 1) := by decide +kernel
theorem own_d_jdk_42_97_13 : decode jdk_42_method_97_code 13 = .ok (.iconst 1, 1) := by decide +kernel
theorem own_d_jdk_42_97_14 : decode jdk_42_method_97_code 14 = .ok (.goto 4, 3) := by decide +kernel
theorem own_ef_conts (m : MethodId) (a1 : Addr) (a2 : Addr) : entryFrame m #[(.ref a1), (.ref a2)] 2 = mkF m 0 #[.val (.ref a1), .val (.ref a2)] [] := by (first | (simp [entryFrame, mkF, argsToLocals, Value.category]; done) | rfl)
def own_Q_conts (Z : State) (a1 : Addr) (cz : Int32) (t : Addr) (kt : ClassId) (N : Int32) (ds : List Int32) (n : Nat) (a2 : Addr) (g : Addr) (kg : ClassId) (h0 : Heap) (n0 : Nat) (vq : Option Value) (h : Heap) (Lq : List Loc) : Prop := ∃ (r : Int32), (vq = some (.int r)) ∧ (Fr n0 Lq) ∧ (h = h0) ∧ (own_two01 ds n r)
set_option maxRecDepth 65536 in
set_option maxHeartbeats 40000000 in
theorem own_rm_conts (l : Launch) (Z : State) (a0 : Array Value) (hw : ∀ d ∈ tables_1, d.before a0 Z = true) (ws : List Jvm.Cond) (a1 : Addr) (cz : Int32) (t : Addr) (kt : ClassId) (N : Int32) (ds : List Int32) (n : Nat) (a2 : Addr) (g : Addr) (kg : ClassId) (h0 : Heap) (n0 : Nat) (Z0 : n0 ≤ h0.size) (O0 : Old Z n0 h0) (S1 : Sta Z Z.heap "java/lang/String" "COMPACT_STRINGS" "Z" (.int cz)) (P5 : ¬ cz = (0 : Int32)) (E1 : Exa Z h0 a1 "java/lang/String") (F1 : Fld Z h0 a1 "java/lang/String" "coder" "B" (.int (0 : Int32))) (F2 : Fld Z h0 a1 "java/lang/String" "value" "[B" (.ref t)) (Va : Arv Z h0 t kt .byte N (ds.map Value.int) (.int 0)) (E3 : Exa Z h0 a2 "java/lang/String") (F3 : Fld Z h0 a2 "java/lang/String" "coder" "B" (.int (0 : Int32))) (F4 : Fld Z h0 a2 "java/lang/String" "value" "[B" (.ref g)) (Vg : Arv Z h0 g kg .byte (2 : Int32) ([(.int (46 : Int32)), (.int (46 : Int32))]) (.int 0)) (hN : N = Int32.ofNat n) (hn : n ≤ 4000) (hz : ¬ N = (0 : Int32)) :
    MetFree l (⟨"java/lang/String", "contains", "(Ljava/lang/CharSequence;)Z"⟩ : MethodName) (head1 (Jvm.Cond.code (⟨"java/lang/String", "contains", "(Ljava/lang/CharSequence;)Z"⟩ : MethodName) jdk_42_method_97_code 2 (some .boolean) :: ws) ({ frames := 3, cells := 0, slots := 0, locals := 49 } : Room)) (fun aq Uq => aq = #[(.ref a1), (.ref a2)] ∧ Z.Warmed39 Uq.vm ∧ Uq.heap = h0) (fun _ _ _ _ _ => True) (fun _ Uq oq Uq' => ∃ vq Lq, oq = .returned vq ∧ own_Q_conts Z a1 cz t kt N ds n a2 g kg h0 n0 vq Uq'.heap Lq ∧ FrameEnd Uq oq Uq' Lq ({ frames := 3, cells := 0, slots := 0, locals := 49 } : Room).cells ({ frames := 3, cells := 0, slots := 0, locals := 49 } : Room).slots) := by
  refine MetFree.of_bodySF (plainFor_of_name own_pn0) hisR ?_
  intro p e s m args below meth cde s₁ Bd hml0 hP hK
  obtain ⟨rfl, hZ, hh⟩ := hP
  have hx := Bd.exec
  have hby := Bd.bytes
  have hml : cde.maxLocals = 2 := hml0
  have hown : s.vm.findClass "java/lang/String" = some m.cls := findClass_of_methodNamed Bd.named
  have hnm := (name_of_methodNamed Bd.named Bd.method).1
  have X0 : Stand p l e ({ frames := 3, cells := 0, slots := 0, locals := 49 } : Room) s m #[(.ref a1), (.ref a2)] below meth cde s₁ [] 0 0 := Stand.of_body Bd
  have e0 : s₁.heap = h0 := by rw [← hh, Bd.state]; rfl
  have N0 := Fr.nil n0
  show own_Fin p e s below (own_Q_conts Z a1 cz t kt N ds n a2 g kg h0 n0) ({ frames := 3, cells := 0, slots := 0, locals := 49 } : Room).cells ({ frames := 3, cells := 0, slots := 0, locals := 49 } : Room).slots s₁ (entryFrame m #[(.ref a1), (.ref a2)] 2)
  rw [own_ef_conts m a1 a2]
  refine own_via (fun _ k => XS.aloadN X0.here hx rfl (hb hby own_d_jdk_42_97_0) rfl rfl k) ?_
  show own_Fin _ _ _ _ _ _ _ s₁ (mkF m 1 #[.val (.ref a1), .val (.ref a2)] [(.ref a1)])
  refine own_via (fun _ k => XS.aloadN X0.here hx rfl (hb hby own_d_jdk_42_97_1) rfl rfl k) ?_
  show own_Fin _ _ _ _ _ _ _ s₁ (mkF m 2 #[.val (.ref a1), .val (.ref a2)] [(.ref a2), (.ref a1)])
  obtain ⟨cq1_, kq1_, q1_a, q1_b, q1_c⟩ := isOf hZ e0 E3
  obtain ⟨_, _, ⟨T1_, L1_, k1_, n1_⟩, -, X1_, ⟨Lc1_, hQ1_, l1_, y1_, z1_⟩, st1_⟩ := X0.interfaceBack hx (xi := (⟨"java/lang/CharSequence", "toString", "()Ljava/lang/String;"⟩ : MethodName)) (y := (⟨"java/lang/String", "toString", "()Ljava/lang/String;"⟩ : MethodName)) hown (mvT hZ (hw _ (List.mem_of_getElem? (i := 114) rfl))) (mvT hZ (hw _ (List.mem_of_getElem? (i := 115) rfl))) (mvT hZ (hw _ (List.mem_of_getElem? (i := 116) rfl))) (mvT hZ (hw _ (List.mem_of_getElem? (i := 117) rfl))) (mvT hZ (hw _ (List.mem_of_getElem? (i := 118) rfl))) (mvT hZ (hw _ (List.mem_of_getElem? (i := 119) rfl))) (mvT hZ (hw _ (List.mem_of_getElem? (i := 120) rfl))) (mvT hZ (hw _ (List.mem_of_getElem? (i := 121) rfl))) (by decide) (backOf (W := 1) (own_rm_toS l Z a0 hw [] a2 h0 n0 Z0 ) hZ (hw _ (List.mem_of_getElem? (i := 122) rfl)) (hw _ (List.mem_of_getElem? (i := 9) rfl)) (by decide) (by decide)) q1_a q1_b q1_c (g := (mkF m 2 #[.val (.ref a1), .val (.ref a2)] [(.ref a2), (.ref a1)])) rfl (by rw [hml]; rfl) (Steps.refl _) (argsL := []) (rest := [(.ref a1)]) (lenOf own_pd11 rfl) rfl (by show 2 * 0 + _ ≤ _; exact Nat.le_of_eq rfl) (hb hby own_d_jdk_42_97_2) (fun _ _ => ⟨rfl, e0, (by decide : 0 + 0 ≤ _), (by decide : 0 + 0 ≤ _)⟩)
  dsimp only [Pt.U, Pt.locs, Pt.cells, Pt.slots] at X1_ l1_ y1_ z1_ st1_ hQ1_
  subst l1_ y1_ z1_
  obtain ⟨rfl, Nq1_, hh1_⟩ := hQ1_
  have N1_ := Fr.app N0 Nq1_
  refine own_via (fun _ k => st1_.trans k) ?_
  show own_Fin _ _ _ _ _ _ _ T1_ (mkF m 7 #[.val (.ref a1), .val (.ref a2)] [(.ref a2), (.ref a1)])
  obtain ⟨cq2_, kq2_, q2_a, q2_b, q2_c⟩ := isOf hZ hh1_ E1
  obtain ⟨_, _, ⟨T2_, L2_, k2_, n2_⟩, -, X2_, ⟨Lc2_, hQ2_, l2_, y2_, z2_⟩, st2_⟩ := X1_.virtualBack hx (y := (⟨"java/lang/String", "indexOf", "(Ljava/lang/String;)I"⟩ : MethodName)) (z := (⟨"java/lang/String", "indexOf", "(Ljava/lang/String;)I"⟩ : MethodName)) hown (mvT hZ (hw _ (List.mem_of_getElem? (i := 123) rfl))) (mvT hZ (hw _ (List.mem_of_getElem? (i := 124) rfl))) (notFace_of_selects (args := #[]) (mvT hZ (hw _ (List.mem_of_getElem? (i := 126) rfl)))) (mvT hZ (hw _ (List.mem_of_getElem? (i := 126) rfl))) (mvT hZ (hw _ (List.mem_of_getElem? (i := 125) rfl))) (by decide) (backOf (W := 0) (own_rm_ixS l Z a0 hw [] a1 cz t kt N ds n a2 g kg h0 n0 Z0 O0 S1 (by first | assumption | decide) E1 F1 F2 Va E3 F3 F4 Vg hN hn hz) hZ (hw _ (List.mem_of_getElem? (i := 127) rfl)) (hw _ (List.mem_of_getElem? (i := 9) rfl)) (by decide) (by decide)) q2_a q2_c (g := (mkF m 7 #[.val (.ref a1), .val (.ref a2)] [(.ref a2), (.ref a1)])) rfl (by rw [hml]; rfl) (Steps.refl _) (argsL := [(.ref a2)]) (rest := []) (lenOf own_pd12 rfl) rfl (by show 2 * 0 + _ ≤ _; exact Nat.le_of_eq rfl) (hb hby own_d_jdk_42_97_7) (fun _ _ => ⟨rfl, hh1_, (by decide : 0 + 0 + 0 ≤ _), (by decide : 0 + 0 + 0 ≤ _)⟩)
  dsimp only [Pt.U, Pt.locs, Pt.cells, Pt.slots] at X2_ l2_ y2_ z2_ st2_ hQ2_
  subst l2_ y2_ z2_
  obtain ⟨r, rfl, Nq2_, hh2_, hr⟩ := hQ2_
  have N2_ := Fr.app N1_ Nq2_
  refine own_via (fun _ k => st2_.trans k) ?_
  show own_Fin _ _ _ _ _ _ _ T2_ (mkF m 10 #[.val (.ref a1), .val (.ref a2)] [(.int r)])
  rcases Classical.em (r < (0 : Int32)) with hg | hg
  · refine own_via (fun _ k => XS.ifYes X2_.here hx rfl (pc0 := 10) (pc' := 17) rfl (hb hby own_d_jdk_42_97_10) rfl ((if0 _ _).trans (tlt hg).1) (by decide) (by decide) k) ?_
    show own_Fin _ _ _ _ _ _ _ T2_ (mkF m 17 #[.val (.ref a1), .val (.ref a2)] [])
    refine own_via (fun _ k => XS.iconst X2_.here hx rfl (hb hby own_d_jdk_42_97_17) k) ?_
    show own_Fin _ _ _ _ _ _ _ T2_ (mkF m 18 #[.val (.ref a1), .val (.ref a2)] [(.int (0 : Int32))])
    exact own_retN X2_ hx (t := .boolean) Bd.returns Bd.notSynchronized (by simp) (hb hby own_d_jdk_42_97_18) hh2_ rfl ⟨(0 : Int32), rfl, N2_, rfl, (Or.inr ⟨rfl, (hr.resolve_right fun q => q.1 hg).2⟩)⟩ (by decide) (by decide)
  · refine own_via (fun _ k => XS.ifNo X2_.here hx rfl (hb hby own_d_jdk_42_97_10) rfl ((if0 _ _).trans (flt hg).1) k) ?_
    show own_Fin _ _ _ _ _ _ _ T2_ (mkF m 13 #[.val (.ref a1), .val (.ref a2)] [])
    refine own_via (fun _ k => XS.iconst X2_.here hx rfl (hb hby own_d_jdk_42_97_13) k) ?_
    show own_Fin _ _ _ _ _ _ _ T2_ (mkF m 14 #[.val (.ref a1), .val (.ref a2)] [(.int (1 : Int32))])
    refine own_via (fun _ k => XS.goto X2_.here hx rfl (pc0 := 14) (pc' := 18) rfl (hb hby own_d_jdk_42_97_14) (by decide) (by decide) k) ?_
    show own_Fin _ _ _ _ _ _ _ T2_ (mkF m 18 #[.val (.ref a1), .val (.ref a2)] [(.int (1 : Int32))])
    exact own_retN X2_ hx (t := .boolean) Bd.returns Bd.notSynchronized (by simp) (hb hby own_d_jdk_42_97_18) hh2_ rfl ⟨(1 : Int32), rfl, N2_, rfl, (Or.inl ⟨rfl, (hr.resolve_left fun q => hg q.1).2⟩)⟩ (by decide) (by decide)
theorem own_d_prog_12_29_0 : decode prog_12_method_29_code 0 = .ok (.aload_n 0, 1) := by decide +kernel
theorem own_d_prog_12_29_1 : decode prog_12_method_29_code 1 = .ok (.invokevirtual 142, 3) := by decide +kernel
theorem own_d_prog_12_29_4 : decode prog_12_method_29_code 4 = .ok (.ifCond .ne 50, 3) := by decide +kernel
theorem own_d_prog_12_29_7 : decode prog_12_method_29_code 7 = .ok (.aload_n 0, 1) := by decide +kernel
theorem own_d_prog_12_29_8 : decode prog_12_method_29_code 8 = .ok (.bipush 46, 2) := by decide +kernel
theorem own_d_prog_12_29_10 : decode prog_12_method_29_code 10 = .ok (.invokevirtual 146, 3) := by decide +kernel
theorem own_pd13 : parseMethodDescriptor "(I)I" = some ⟨[.int], some .int⟩ := by decide +kernel
theorem own_d_prog_12_29_13 : decode prog_12_method_29_code 13 = .ok (.ifCond .lt 37, 3) := by decide +kernel
theorem own_d_prog_12_29_50 : decode prog_12_method_29_code 50 = .ok (.iconst 1, 1) := by decide +kernel
theorem own_d_prog_12_29_51 : decode prog_12_method_29_code 51 = .ok (.goto 4, 3) := by decide +kernel
theorem own_d_prog_12_29_55 : decode prog_12_method_29_code 55 = .ok (.ireturn, 1) := by decide +kernel
theorem own_d_prog_12_29_16 : decode prog_12_method_29_code 16 = .ok (.aload_n 0, 1) := by decide +kernel
theorem own_d_prog_12_29_17 : decode prog_12_method_29_code 17 = .ok (.iconst 0, 1) := by decide +kernel
theorem own_d_prog_12_29_18 : decode prog_12_method_29_code 18 = .ok (.invokevirtual 150, 3) := by decide +kernel
theorem own_pd14 : parseMethodDescriptor "(I)C" = some ⟨[.int], some .char⟩ := by decide +kernel
theorem own_d_prog_12_29_21 : decode prog_12_method_29_code 21 = .ok (.bipush 46, 2) := by decide +kernel
theorem own_d_prog_12_29_23 : decode prog_12_method_29_code 23 = .ok (.if_icmp .eq 31, 3) := by decide +kernel
theorem own_d_prog_12_29_54 : decode prog_12_method_29_code 54 = .ok (.iconst 0, 1) := by decide +kernel
theorem own_d_prog_12_29_26 : decode prog_12_method_29_code 26 = .ok (.aload_n 0, 1) := by decide +kernel
theorem own_d_prog_12_29_27 : decode prog_12_method_29_code 27 = .ok (.aload_n 0, 1) := by decide +kernel
theorem own_d_prog_12_29_28 : decode prog_12_method_29_code 28 = .ok (.invokevirtual 154, 3) := by decide +kernel
theorem own_d_prog_12_29_31 : decode prog_12_method_29_code 31 = .ok (.iconst 1, 1) := by decide +kernel
theorem own_d_prog_12_29_32 : decode prog_12_method_29_code 32 = .ok (.isub, 1) := by decide +kernel
theorem own_d_prog_12_29_33 : decode prog_12_method_29_code 33 = .ok (.invokevirtual 150, 3) := by decide +kernel
theorem own_d_prog_12_29_36 : decode prog_12_method_29_code 36 = .ok (.bipush 46, 2) := by decide +kernel
theorem own_d_prog_12_29_38 : decode prog_12_method_29_code 38 = .ok (.if_icmp .eq 16, 3) := by decide +kernel
theorem own_d_prog_12_29_41 : decode prog_12_method_29_code 41 = .ok (.aload_n 0, 1) := by decide +kernel
theorem own_d_prog_12_29_42 : decode prog_12_method_29_code 42 = .ok (.ldc 158, 2) := by decide +kernel
theorem own_d_prog_12_29_44 : decode prog_12_method_29_code 44 = .ok (.invokevirtual 160, 3) := by decide +kernel
theorem own_pd15 : parseMethodDescriptor "(Ljava/lang/CharSequence;)Z" = some ⟨[(.object "java/lang/CharSequence")], some .boolean⟩ := by decide +kernel
theorem own_d_prog_12_29_47 : decode prog_12_method_29_code 47 = .ok (.ifCond .ne 7, 3) := by decide +kernel
theorem own_pn3 : plainName "com/example/dependency_container/dependencycontainer/BeanDefinition" = true := by first | (simp [plainName, overriddenIn]; done) | decide +kernel
theorem own_ef_ipp (m : MethodId) (a1 : Addr) : entryFrame m #[(.ref a1)] 1 = mkF m 0 #[.val (.ref a1)] [] := by (first | (simp [entryFrame, mkF, argsToLocals, Value.category]; done) | rfl)
def own_Q_ipp (Z : State) (a1 : Addr) (cz : Int32) (t : Addr) (kt : ClassId) (N : Int32) (ds : List Int32) (n : Nat) (fm : Value) (h0 : Heap) (n0 : Nat) (vq : Option Value) (h : Heap) (Lq : List Loc) : Prop := ∃ (r : Int32), (vq = some (.int r)) ∧ (Fr n0 Lq) ∧ (Keep h0 h []) ∧ ((r = (1 : Int32) ∧ own_good ds n) ∨ (r = (0 : Int32) ∧ ¬ own_good ds n))
set_option maxRecDepth 65536 in
set_option maxHeartbeats 40000000 in
theorem own_rm_ipp (l : Launch) (Z : State) (a0 : Array Value) (hw : ∀ d ∈ tables_1, d.before a0 Z = true) (ws : List Jvm.Cond) (a1 : Addr) (cz : Int32) (t : Addr) (kt : ClassId) (N : Int32) (ds : List Int32) (n : Nat) (fm : Value) (h0 : Heap) (n0 : Nat) (Z0 : n0 ≤ h0.size) (O0 : Old Z n0 h0) (S1 : Sta Z Z.heap "java/lang/String" "COMPACT_STRINGS" "Z" (.int cz)) (P5 : ¬ cz = (0 : Int32)) (E1 : Exa Z h0 a1 "java/lang/String") (F1 : Fld Z h0 a1 "java/lang/String" "coder" "B" (.int (0 : Int32))) (F2 : Fld Z h0 a1 "java/lang/String" "value" "[B" (.ref t)) (Va : Arv Z h0 t kt .byte N (ds.map Value.int) (.int 0)) (S2 : Sta Z Z.heap "jdk/internal/util/Preconditions" "SIOOBE_FORMATTER" "Ljava/util/function/BiFunction;" fm) (r_fm : fm.isRef = true) (hN : N = Int32.ofNat n) (hn : n ≤ 4000) (hp0 : 0 < n) (hbd : ∀ q, own_byte (ds.getD q 0)) :
    MetFree l (⟨"com/example/dependency_container/dependencycontainer/BeanDefinition", "isPropertyPath", "(Ljava/lang/String;)Z"⟩ : MethodName) (head1 (Jvm.Cond.code (⟨"com/example/dependency_container/dependencycontainer/BeanDefinition", "isPropertyPath", "(Ljava/lang/String;)Z"⟩ : MethodName) prog_12_method_29_code 1 (some .boolean) :: ws) ({ frames := 4, cells := 2, slots := 12, locals := 62 } : Room)) (fun aq Uq => aq = #[(.ref a1)] ∧ Z.Warmed39 Uq.vm ∧ Uq.heap = h0 ∧ CHv Z own_EL Uq.vm h0) (fun _ _ _ _ _ => True) (fun _ Uq oq Uq' => ∃ vq Lq, oq = .returned vq ∧ own_Q_ipp Z a1 cz t kt N ds n fm h0 n0 vq Uq'.heap Lq ∧ CHr Z own_EL Uq.vm Uq.heap Uq'.vm Uq'.heap ∧ ReturnedEndW Uq oq Uq' Lq ({ frames := 4, cells := 2, slots := 12, locals := 62 } : Room).cells ({ frames := 4, cells := 2, slots := 12, locals := 62 } : Room).slots) := by
  refine MetFree.of_bodySF (plainFor_of_name own_pn3) hisR ?_
  intro p e s m args below meth cde s₁ Bd hml0 hP hK
  obtain ⟨rfl, hZ, hh, H0⟩ := hP
  have hx := Bd.exec
  have hby := Bd.bytes
  have hml : cde.maxLocals = 1 := hml0
  have hown : s.vm.findClass "com/example/dependency_container/dependencycontainer/BeanDefinition" = some m.cls := findClass_of_methodNamed Bd.named
  have hnm := (name_of_methodNamed Bd.named Bd.method).1
  have X0 : Stand p l e ({ frames := 4, cells := 2, slots := 12, locals := 62 } : Room) (s.setVm s.vm) m #[(.ref a1)] below meth cde s₁ [] 0 0 := Stand.of_body Bd
  have e0 : s₁.heap = h0 := by rw [← hh, Bd.state]; rfl
  have N0 := Fr.nil n0
  have hS0 : s.Since s.vm h0.size := (State.WarmedH.refl s).since _
  have hk0 : h0.size ≤ h0.size := Nat.le_refl _
  have C0 : CHr Z own_EL s.vm h0 s.vm h0 := CHr.refl H0
  show own_FinH p e s below Z own_EL (own_Q_ipp Z a1 cz t kt N ds n fm h0 n0) ({ frames := 4, cells := 2, slots := 12, locals := 62 } : Room).cells ({ frames := 4, cells := 2, slots := 12, locals := 62 } : Room).slots s₁ (entryFrame m #[(.ref a1)] 1)
  rw [own_ef_ipp m a1]
  have hz : ¬ N = (0 : Int32) := own_nz hN hp0 hn
  have h0N : (0 : Int32) < N := own_pos hN hp0 hn
  refine own_viaH (fun _ k => XS.aloadN X0.here hx rfl (hb hby own_d_prog_12_29_0) rfl rfl k) ?_
  show own_FinH _ _ _ _ _ _ _ _ _ s₁ (mkF m 1 #[.val (.ref a1)] [(.ref a1)])
  obtain ⟨cq1_, kq1_, q1_a, q1_b, q1_c⟩ := isOf hZ e0 E1
  obtain ⟨_, _, ⟨T1_, L1_, k1_, n1_⟩, -, X1_, ⟨Lc1_, hQ1_, l1_, y1_, z1_⟩, st1_⟩ := X0.virtualBack hx (y := (⟨"java/lang/String", "isEmpty", "()Z"⟩ : MethodName)) (z := (⟨"java/lang/String", "isEmpty", "()Z"⟩ : MethodName)) hown (mvT hZ (hw _ (List.mem_of_getElem? (i := 33) rfl))) (mvT hZ (hw _ (List.mem_of_getElem? (i := 34) rfl))) (notFace_of_selects (args := #[]) (mvT hZ (hw _ (List.mem_of_getElem? (i := 36) rfl)))) (mvT hZ (hw _ (List.mem_of_getElem? (i := 36) rfl))) (mvT hZ (hw _ (List.mem_of_getElem? (i := 35) rfl))) (by decide) (backOf (W := 0) (own_rm_emp l Z a0 hw [] a1 t kt N ds h0 n0 Z0 F2 Va hz) hZ (hw _ (List.mem_of_getElem? (i := 37) rfl)) (hw _ (List.mem_of_getElem? (i := 9) rfl)) (by decide) (by decide)) q1_a q1_c (g := (mkF m 1 #[.val (.ref a1)] [(.ref a1)])) rfl (by rw [hml]; rfl) (Steps.refl _) (argsL := []) (rest := []) (lenOf own_pd3 rfl) rfl (by show 2 * 0 + _ ≤ _; exact Nat.le_of_eq rfl) (hb hby own_d_prog_12_29_1) (fun _ _ => ⟨rfl, e0, (by decide : 0 + 0 ≤ _), (by decide : 0 + 0 ≤ _)⟩)
  dsimp only [Pt.U, Pt.locs, Pt.cells, Pt.slots] at X1_ l1_ y1_ z1_ st1_ hQ1_
  subst l1_ y1_ z1_
  obtain ⟨rfl, Nq1_, hh1_⟩ := hQ1_
  have N1_ := Fr.app N0 Nq1_
  refine own_viaH (fun _ k => st1_.trans k) ?_
  show own_FinH _ _ _ _ _ _ _ _ _ T1_ (mkF m 4 #[.val (.ref a1)] [(.int (0 : Int32))])
  refine own_viaH (fun _ k => XS.ifNo X1_.here hx rfl (hb hby own_d_prog_12_29_4) rfl ((if0 _ _).trans (teq rfl).2) k) ?_
  show own_FinH _ _ _ _ _ _ _ _ _ T1_ (mkF m 7 #[.val (.ref a1)] [])
  refine own_viaH (fun _ k => XS.aloadN X1_.here hx rfl (hb hby own_d_prog_12_29_7) rfl rfl k) ?_
  show own_FinH _ _ _ _ _ _ _ _ _ T1_ (mkF m 8 #[.val (.ref a1)] [(.ref a1)])
  refine own_viaH (fun _ k => XS.bipush X1_.here hx rfl (hb hby own_d_prog_12_29_8) k) ?_
  show own_FinH _ _ _ _ _ _ _ _ _ T1_ (mkF m 10 #[.val (.ref a1)] [(.int (46 : Int32)), (.ref a1)])
  obtain ⟨cq2_, kq2_, q2_a, q2_b, q2_c⟩ := isOf hZ hh1_ E1
  obtain ⟨_, _, ⟨T2_, L2_, k2_, n2_⟩, -, X2_, ⟨Lc2_, hQ2_, l2_, y2_, z2_⟩, st2_⟩ := X1_.virtualBack hx (y := (⟨"java/lang/String", "indexOf", "(I)I"⟩ : MethodName)) (z := (⟨"java/lang/String", "indexOf", "(I)I"⟩ : MethodName)) hown (mvT hZ (hw _ (List.mem_of_getElem? (i := 49) rfl))) (mvT hZ (hw _ (List.mem_of_getElem? (i := 50) rfl))) (notFace_of_selects (args := #[]) (mvT hZ (hw _ (List.mem_of_getElem? (i := 52) rfl)))) (mvT hZ (hw _ (List.mem_of_getElem? (i := 52) rfl))) (mvT hZ (hw _ (List.mem_of_getElem? (i := 51) rfl))) (by decide) (backOf (W := 0) (own_rm_ix1 l Z a0 hw [] a1 cz t kt N ds n h0 n0 Z0 O0 S1 (by first | assumption | decide) E1 F1 F2 Va hN hn h0N) hZ (hw _ (List.mem_of_getElem? (i := 53) rfl)) (hw _ (List.mem_of_getElem? (i := 9) rfl)) (by decide) (by decide)) q2_a q2_c (g := (mkF m 10 #[.val (.ref a1)] [(.int (46 : Int32)), (.ref a1)])) rfl (by rw [hml]; rfl) (Steps.refl _) (argsL := [(.int (46 : Int32))]) (rest := []) (lenOf own_pd13 rfl) rfl (by show 2 * 0 + _ ≤ _; exact Nat.le_of_eq rfl) (hb hby own_d_prog_12_29_10) (fun _ _ => ⟨rfl, hh1_, (by decide : 0 + 0 + 0 ≤ _), (by decide : 0 + 0 + 0 ≤ _)⟩)
  dsimp only [Pt.U, Pt.locs, Pt.cells, Pt.slots] at X2_ l2_ y2_ z2_ st2_ hQ2_
  subst l2_ y2_ z2_
  obtain ⟨r1, rfl, Nq2_, hh2_, hr1⟩ := hQ2_
  have N2_ := Fr.app N1_ Nq2_
  refine own_viaH (fun _ k => st2_.trans k) ?_
  show own_FinH _ _ _ _ _ _ _ _ _ T2_ (mkF m 13 #[.val (.ref a1)] [(.int r1)])
  rcases Classical.em (r1 < (0 : Int32)) with h1 | h1
  · refine own_viaH (fun _ k => XS.ifYes X2_.here hx rfl (pc0 := 13) (pc' := 50) rfl (hb hby own_d_prog_12_29_13) rfl ((if0 _ _).trans (tlt h1).1) (by decide) (by decide) k) ?_
    show own_FinH _ _ _ _ _ _ _ _ _ T2_ (mkF m 50 #[.val (.ref a1)] [])
    refine own_viaH (fun _ k => XS.iconst X2_.here hx rfl (hb hby own_d_prog_12_29_50) k) ?_
    show own_FinH _ _ _ _ _ _ _ _ _ T2_ (mkF m 51 #[.val (.ref a1)] [(.int (1 : Int32))])
    refine own_viaH (fun _ k => XS.goto X2_.here hx rfl (pc0 := 51) (pc' := 55) rfl (hb hby own_d_prog_12_29_51) (by decide) (by decide) k) ?_
    show own_FinH _ _ _ _ _ _ _ _ _ T2_ (mkF m 55 #[.val (.ref a1)] [(.int (1 : Int32))])
    exact own_retNH X2_ hx (t := .boolean) Bd.returns Bd.notSynchronized (own_ew hw) hZ hS0 hk0 hh C0 (by simp) (hb hby own_d_prog_12_29_55) hh2_ rfl ⟨(1 : Int32), rfl, N2_, (Keep.refl h0 []), (Or.inl ⟨rfl, own_good_no hp0 (hr1.resolve_right fun q => q.1 h1).2⟩)⟩ (by decide) (by decide)
  · refine own_viaH (fun _ k => XS.ifNo X2_.here hx rfl (hb hby own_d_prog_12_29_13) rfl ((if0 _ _).trans (flt h1).1) k) ?_
    show own_FinH _ _ _ _ _ _ _ _ _ T2_ (mkF m 16 #[.val (.ref a1)] [])
    refine own_viaH (fun _ k => XS.aloadN X2_.here hx rfl (hb hby own_d_prog_12_29_16) rfl rfl k) ?_
    show own_FinH _ _ _ _ _ _ _ _ _ T2_ (mkF m 17 #[.val (.ref a1)] [(.ref a1)])
    refine own_viaH (fun _ k => XS.iconst X2_.here hx rfl (hb hby own_d_prog_12_29_17) k) ?_
    show own_FinH _ _ _ _ _ _ _ _ _ T2_ (mkF m 18 #[.val (.ref a1)] [(.int (0 : Int32)), (.ref a1)])
    obtain ⟨cq3_, kq3_, q3_a, q3_b, q3_c⟩ := isOf hZ hh2_ E1
    obtain ⟨_, _, ⟨T3_, L3_, k3_, n3_⟩, -, X3_, ⟨Lc3_, hQ3_, l3_, y3_, z3_⟩, st3_⟩ := X2_.virtualBack hx (y := (⟨"java/lang/String", "charAt", "(I)C"⟩ : MethodName)) (z := (⟨"java/lang/String", "charAt", "(I)C"⟩ : MethodName)) hown (mvT hZ (hw _ (List.mem_of_getElem? (i := 91) rfl))) (mvT hZ (hw _ (List.mem_of_getElem? (i := 92) rfl))) (notFace_of_selects (args := #[]) (mvT hZ (hw _ (List.mem_of_getElem? (i := 94) rfl)))) (mvT hZ (hw _ (List.mem_of_getElem? (i := 94) rfl))) (mvT hZ (hw _ (List.mem_of_getElem? (i := 93) rfl))) (by decide) (backOf (W := 0) (own_rm_chA l Z a0 hw [] a1 cz t kt N ds (0 : Int32) fm h0 n0 Z0 O0 S1 (by first | assumption | decide) E1 F1 F2 Va S2 r_fm (by decide) h0N) hZ (hw _ (List.mem_of_getElem? (i := 95) rfl)) (hw _ (List.mem_of_getElem? (i := 9) rfl)) (by decide) (by decide)) q3_a q3_c (g := (mkF m 18 #[.val (.ref a1)] [(.int (0 : Int32)), (.ref a1)])) rfl (by rw [hml]; rfl) (Steps.refl _) (argsL := [(.int (0 : Int32))]) (rest := []) (lenOf own_pd14 rfl) rfl (by show 2 * 0 + _ ≤ _; exact Nat.le_of_eq rfl) (hb hby own_d_prog_12_29_18) (fun _ _ => ⟨rfl, hh2_, (by decide : 0 + 0 + 0 + 0 ≤ _), (by decide : 0 + 0 + 0 + 0 ≤ _)⟩)
    dsimp only [Pt.U, Pt.locs, Pt.cells, Pt.slots] at X3_ l3_ y3_ z3_ st3_ hQ3_
    subst l3_ y3_ z3_
    obtain ⟨rfl, Nq3_, hh3_⟩ := hQ3_
    have N3_ := Fr.app N2_ Nq3_
    refine own_viaH (fun _ k => st3_.trans k) ?_
    show own_FinH _ _ _ _ _ _ _ _ _ T3_ (mkF m 21 #[.val (.ref a1)] [(.int ((ds.getD (0 : Int32).toNatClampNeg 0) &&& (255 : Int32)))])
    refine own_viaH (fun _ k => XS.bipush X3_.here hx rfl (hb hby own_d_prog_12_29_21) k) ?_
    show own_FinH _ _ _ _ _ _ _ _ _ T3_ (mkF m 23 #[.val (.ref a1)] [(.int (46 : Int32)), (.int ((ds.getD (0 : Int32).toNatClampNeg 0) &&& (255 : Int32)))])
    rcases Classical.em (((ds.getD (0 : Int32).toNatClampNeg 0) &&& (255 : Int32)) = (46 : Int32)) with h2 | h2
    · refine own_viaH (fun _ k => XS.icmpYes X3_.here hx rfl (pc0 := 23) (pc' := 54) rfl (hb hby own_d_prog_12_29_23) rfl (teq h2).1 (by decide) (by decide) k) ?_
      show own_FinH _ _ _ _ _ _ _ _ _ T3_ (mkF m 54 #[.val (.ref a1)] [])
      refine own_viaH (fun _ k => XS.iconst X3_.here hx rfl (hb hby own_d_prog_12_29_54) k) ?_
      show own_FinH _ _ _ _ _ _ _ _ _ T3_ (mkF m 55 #[.val (.ref a1)] [(.int (0 : Int32))])
      exact own_retNH X3_ hx (t := .boolean) Bd.returns Bd.notSynchronized (own_ew hw) hZ hS0 hk0 hh C0 (by simp) (hb hby own_d_prog_12_29_55) hh3_ rfl ⟨(0 : Int32), rfl, N3_, (Keep.refl h0 []), (Or.inr ⟨rfl, fun g => g.2.1 ((own_ch46 (hbd _)).mp h2)⟩)⟩ (by decide) (by decide)
    · refine own_viaH (fun _ k => XS.icmpNo X3_.here hx rfl (hb hby own_d_prog_12_29_23) rfl (feq h2).1 k) ?_
      show own_FinH _ _ _ _ _ _ _ _ _ T3_ (mkF m 26 #[.val (.ref a1)] [])
      refine own_viaH (fun _ k => XS.aloadN X3_.here hx rfl (hb hby own_d_prog_12_29_26) rfl rfl k) ?_
      show own_FinH _ _ _ _ _ _ _ _ _ T3_ (mkF m 27 #[.val (.ref a1)] [(.ref a1)])
      refine own_viaH (fun _ k => XS.aloadN X3_.here hx rfl (hb hby own_d_prog_12_29_27) rfl rfl k) ?_
      show own_FinH _ _ _ _ _ _ _ _ _ T3_ (mkF m 28 #[.val (.ref a1)] [(.ref a1), (.ref a1)])
      obtain ⟨cq4_, kq4_, q4_a, q4_b, q4_c⟩ := isOf hZ hh3_ E1
      obtain ⟨_, _, ⟨T4_, L4_, k4_, n4_⟩, -, X4_, ⟨Lc4_, hQ4_, l4_, y4_, z4_⟩, st4_⟩ := X3_.virtualBack hx (y := (⟨"java/lang/String", "length", "()I"⟩ : MethodName)) (z := (⟨"java/lang/String", "length", "()I"⟩ : MethodName)) hown (mvT hZ (hw _ (List.mem_of_getElem? (i := 107) rfl))) (mvT hZ (hw _ (List.mem_of_getElem? (i := 65) rfl))) (notFace_of_selects (args := #[]) (mvT hZ (hw _ (List.mem_of_getElem? (i := 67) rfl)))) (mvT hZ (hw _ (List.mem_of_getElem? (i := 67) rfl))) (mvT hZ (hw _ (List.mem_of_getElem? (i := 66) rfl))) (by decide) (backOf (W := 1) (own_rm_len l Z a0 hw [] a1 cz t kt N ds h0 n0 Z0 O0 S1 (by first | assumption | decide) E1 F1 F2 Va) hZ (hw _ (List.mem_of_getElem? (i := 68) rfl)) (hw _ (List.mem_of_getElem? (i := 9) rfl)) (by decide) (by decide)) q4_a q4_c (g := (mkF m 28 #[.val (.ref a1)] [(.ref a1), (.ref a1)])) rfl (by rw [hml]; rfl) (Steps.refl _) (argsL := []) (rest := [(.ref a1)]) (lenOf own_pd8 rfl) rfl (by show 2 * 0 + _ ≤ _; exact Nat.le_of_eq rfl) (hb hby own_d_prog_12_29_28) (fun _ _ => ⟨rfl, hh3_, (by decide : 0 + 0 + 0 + 0 + 0 ≤ _), (by decide : 0 + 0 + 0 + 0 + 0 ≤ _)⟩)
      dsimp only [Pt.U, Pt.locs, Pt.cells, Pt.slots] at X4_ l4_ y4_ z4_ st4_ hQ4_
      subst l4_ y4_ z4_
      obtain ⟨rfl, Nq4_, hh4_⟩ := hQ4_
      have N4_ := Fr.app N3_ Nq4_
      refine own_viaH (fun _ k => st4_.trans k) ?_
      show own_FinH _ _ _ _ _ _ _ _ _ T4_ (mkF m 31 #[.val (.ref a1)] [(.int N), (.ref a1)])
      refine own_viaH (fun _ k => XS.iconst X4_.here hx rfl (hb hby own_d_prog_12_29_31) k) ?_
      show own_FinH _ _ _ _ _ _ _ _ _ T4_ (mkF m 32 #[.val (.ref a1)] [(.int (1 : Int32)), (.int N), (.ref a1)])
      refine own_viaH (fun _ k => XS.isub X4_.here hx rfl (hb hby own_d_prog_12_29_32) rfl k) ?_
      show own_FinH _ _ _ _ _ _ _ _ _ T4_ (mkF m 33 #[.val (.ref a1)] [(.int (N - (1 : Int32))), (.ref a1)])
      obtain ⟨cq5_, kq5_, q5_a, q5_b, q5_c⟩ := isOf hZ hh4_ E1
      obtain ⟨_, _, ⟨T5_, L5_, k5_, n5_⟩, -, X5_, ⟨Lc5_, hQ5_, l5_, y5_, z5_⟩, st5_⟩ := X4_.virtualBack hx (y := (⟨"java/lang/String", "charAt", "(I)C"⟩ : MethodName)) (z := (⟨"java/lang/String", "charAt", "(I)C"⟩ : MethodName)) hown (mvT hZ (hw _ (List.mem_of_getElem? (i := 91) rfl))) (mvT hZ (hw _ (List.mem_of_getElem? (i := 92) rfl))) (notFace_of_selects (args := #[]) (mvT hZ (hw _ (List.mem_of_getElem? (i := 94) rfl)))) (mvT hZ (hw _ (List.mem_of_getElem? (i := 94) rfl))) (mvT hZ (hw _ (List.mem_of_getElem? (i := 93) rfl))) (by decide) (backOf (W := 0) (own_rm_chA l Z a0 hw [] a1 cz t kt N ds (N - (1 : Int32)) fm h0 n0 Z0 O0 S1 (by first | assumption | decide) E1 F1 F2 Va S2 r_fm (own_m1 hN hp0 hn).1 (own_m1 hN hp0 hn).2.1) hZ (hw _ (List.mem_of_getElem? (i := 95) rfl)) (hw _ (List.mem_of_getElem? (i := 9) rfl)) (by decide) (by decide)) q5_a q5_c (g := (mkF m 33 #[.val (.ref a1)] [(.int (N - (1 : Int32))), (.ref a1)])) rfl (by rw [hml]; rfl) (Steps.refl _) (argsL := [(.int (N - (1 : Int32)))]) (rest := []) (lenOf own_pd14 rfl) rfl (by show 2 * 0 + _ ≤ _; exact Nat.le_of_eq rfl) (hb hby own_d_prog_12_29_33) (fun _ _ => ⟨rfl, hh4_, (by decide : 0 + 0 + 0 + 0 + 0 + 0 ≤ _), (by decide : 0 + 0 + 0 + 0 + 0 + 0 ≤ _)⟩)
      dsimp only [Pt.U, Pt.locs, Pt.cells, Pt.slots] at X5_ l5_ y5_ z5_ st5_ hQ5_
      subst l5_ y5_ z5_
      obtain ⟨rfl, Nq5_, hh5_⟩ := hQ5_
      have N5_ := Fr.app N4_ Nq5_
      refine own_viaH (fun _ k => st5_.trans k) ?_
      show own_FinH _ _ _ _ _ _ _ _ _ T5_ (mkF m 36 #[.val (.ref a1)] [(.int ((ds.getD (N - (1 : Int32)).toNatClampNeg 0) &&& (255 : Int32)))])
      refine own_viaH (fun _ k => XS.bipush X5_.here hx rfl (hb hby own_d_prog_12_29_36) k) ?_
      show own_FinH _ _ _ _ _ _ _ _ _ T5_ (mkF m 38 #[.val (.ref a1)] [(.int (46 : Int32)), (.int ((ds.getD (N - (1 : Int32)).toNatClampNeg 0) &&& (255 : Int32)))])
      rcases Classical.em (((ds.getD (N - (1 : Int32)).toNatClampNeg 0) &&& (255 : Int32)) = (46 : Int32)) with h3 | h3
      · refine own_viaH (fun _ k => XS.icmpYes X5_.here hx rfl (pc0 := 38) (pc' := 54) rfl (hb hby own_d_prog_12_29_38) rfl (teq h3).1 (by decide) (by decide) k) ?_
        show own_FinH _ _ _ _ _ _ _ _ _ T5_ (mkF m 54 #[.val (.ref a1)] [])
        refine own_viaH (fun _ k => XS.iconst X5_.here hx rfl (hb hby own_d_prog_12_29_54) k) ?_
        show own_FinH _ _ _ _ _ _ _ _ _ T5_ (mkF m 55 #[.val (.ref a1)] [(.int (0 : Int32))])
        exact own_retNH X5_ hx (t := .boolean) Bd.returns Bd.notSynchronized (own_ew hw) hZ hS0 hk0 hh C0 (by simp) (hb hby own_d_prog_12_29_55) hh5_ rfl ⟨(0 : Int32), rfl, N5_, (Keep.refl h0 []), (Or.inr ⟨rfl, fun g => g.2.2.1 (by have q := (own_ch46 (hbd _)).mp h3; rw [(own_m1 hN hp0 hn).2.2] at q; exact q)⟩)⟩ (by decide) (by decide)
      · refine own_viaH (fun _ k => XS.icmpNo X5_.here hx rfl (hb hby own_d_prog_12_29_38) rfl (feq h3).1 k) ?_
        show own_FinH _ _ _ _ _ _ _ _ _ T5_ (mkF m 41 #[.val (.ref a1)] [])
        refine own_viaH (fun _ k => XS.aloadN X5_.here hx rfl (hb hby own_d_prog_12_29_41) rfl rfl k) ?_
        show own_FinH _ _ _ _ _ _ _ _ _ T5_ (mkF m 42 #[.val (.ref a1)] [(.ref a1)])
        obtain ⟨a6_, T6_, h6_, k6_, b6_, kb6_, X6_, e6_, E6_, hS6_, hk6_, hZ6_, hown6_, rE6_, rC6_, rV6_, rA6_, -, -, Cq6_, -, Sx6_, st6_⟩ := ldcCH X5_ hx hZ hown (hw _ (List.mem_of_getElem? (i := 108) rfl)) (own_atoms hw) hh5_ hS0 hk0 (own_ew hw) (List.mem_of_getElem? (i := 0) rfl) H0 (vs := [(.int (46 : Int32)), (.int (46 : Int32))]) (z := (2 : Int32)) ⟨by decide, by decide⟩ (by decide) (by decide) (g := (mkF m 42 #[.val (.ref a1)] [(.ref a1)])) rfl (hb hby own_d_prog_12_29_42) (n := 8) (by decide) (by decide) (by decide) (by decide)
        refine own_viaH (fun _ k => st6_ _ k) ?_
        show own_FinH _ _ _ _ _ _ _ _ _ T6_ (mkF m 44 #[.val (.ref a1)] [(.ref a6_), (.ref a1)])
        obtain ⟨cq7_, kq7_, q7_a, q7_b, q7_c⟩ := isOf hZ6_ e6_ (E1.ext E6_)
        obtain ⟨_, _, ⟨T7_, L7_, k7_, n7_⟩, -, X7_, ⟨Lc7_, hQ7_, l7_, y7_, z7_⟩, st7_⟩ := X6_.virtualBack hx (y := (⟨"java/lang/String", "contains", "(Ljava/lang/CharSequence;)Z"⟩ : MethodName)) (z := (⟨"java/lang/String", "contains", "(Ljava/lang/CharSequence;)Z"⟩ : MethodName)) hown6_ (mvT hZ6_ (hw _ (List.mem_of_getElem? (i := 109) rfl))) (mvT hZ6_ (hw _ (List.mem_of_getElem? (i := 110) rfl))) (notFace_of_selects (args := #[]) (mvT hZ6_ (hw _ (List.mem_of_getElem? (i := 112) rfl)))) (mvT hZ6_ (hw _ (List.mem_of_getElem? (i := 112) rfl))) (mvT hZ6_ (hw _ (List.mem_of_getElem? (i := 111) rfl))) (by decide) (backOf (W := 0) (own_rm_conts l Z a0 hw [] a1 cz t kt N ds n a6_ b6_ kb6_ h6_ n0 (Nat.le_trans Z0 E6_.1) (O0.ext E6_) S1 (by first | assumption | decide) (E1.ext E6_) (F1.ext E6_) (F2.ext E6_) (Va.ext E6_) rE6_ rC6_ rV6_ rA6_ hN hn hz) hZ6_ (hw _ (List.mem_of_getElem? (i := 113) rfl)) (hw _ (List.mem_of_getElem? (i := 9) rfl)) (by decide) (by decide)) q7_a q7_c (g := (mkF m 44 #[.val (.ref a1)] [(.ref a6_), (.ref a1)])) rfl (by rw [hml]; rfl) (Steps.refl _) (argsL := [(.ref a6_)]) (rest := []) (lenOf own_pd15 rfl) rfl (by show 2 * 0 + _ ≤ _; exact Nat.le_of_eq rfl) (hb hby own_d_prog_12_29_44) (fun _ _ => ⟨rfl, e6_, (by decide : 0 + 0 + 0 + 0 + 0 + 0 + 2 + 0 ≤ _), (by decide : 0 + 0 + 0 + 0 + 0 + 0 + (8 + 4) + 0 ≤ _)⟩)
        dsimp only [Pt.U, Pt.locs, Pt.cells, Pt.slots] at X7_ l7_ y7_ z7_ st7_ hQ7_
        subst l7_ y7_ z7_
        obtain ⟨r3, rfl, Nq7_, hh7_, hr3⟩ := hQ7_
        have N7_ := Fr.app N5_ Nq7_
        refine own_viaH (fun _ k => st7_.trans k) ?_
        show own_FinH _ _ _ _ _ _ _ _ _ T7_ (mkF m 47 #[.val (.ref a1)] [(.int r3)])
        rcases Classical.em (r3 = (0 : Int32)) with h4 | h4
        · refine own_viaH (fun _ k => XS.ifNo X7_.here hx rfl (hb hby own_d_prog_12_29_47) rfl ((if0 _ _).trans (teq h4).2) k) ?_
          show own_FinH _ _ _ _ _ _ _ _ _ T7_ (mkF m 50 #[.val (.ref a1)] [])
          refine own_viaH (fun _ k => XS.iconst X7_.here hx rfl (hb hby own_d_prog_12_29_50) k) ?_
          show own_FinH _ _ _ _ _ _ _ _ _ T7_ (mkF m 51 #[.val (.ref a1)] [(.int (1 : Int32))])
          refine own_viaH (fun _ k => XS.goto X7_.here hx rfl (pc0 := 51) (pc' := 55) rfl (hb hby own_d_prog_12_29_51) (by decide) (by decide) k) ?_
          show own_FinH _ _ _ _ _ _ _ _ _ T7_ (mkF m 55 #[.val (.ref a1)] [(.int (1 : Int32))])
          have C9_ := C0.trans Cq6_
          have H9_ := C9_.1
          exact own_retNH X7_ hx (t := .boolean) Bd.returns Bd.notSynchronized (own_ew hw) hZ6_ hS6_ hk6_ hh C9_ (by simp) (hb hby own_d_prog_12_29_55) hh7_ rfl ⟨(1 : Int32), rfl, N7_, ((Keep.refl h0 []).ext E6_), (Or.inl ⟨rfl, hp0, fun q => h2 ((own_ch46 (hbd _)).mpr q), fun q => h3 (by rw [(own_m1 hN hp0 hn).2.2]; exact (own_ch46 (hbd _)).mpr q), (hr3.resolve_left fun q => absurd (q.1.symm.trans h4) (by decide)).2⟩)⟩ (by decide) (by decide)
        · refine own_viaH (fun _ k => XS.ifYes X7_.here hx rfl (pc0 := 47) (pc' := 54) rfl (hb hby own_d_prog_12_29_47) rfl ((if0 _ _).trans (feq h4).2) (by decide) (by decide) k) ?_
          show own_FinH _ _ _ _ _ _ _ _ _ T7_ (mkF m 54 #[.val (.ref a1)] [])
          refine own_viaH (fun _ k => XS.iconst X7_.here hx rfl (hb hby own_d_prog_12_29_54) k) ?_
          show own_FinH _ _ _ _ _ _ _ _ _ T7_ (mkF m 55 #[.val (.ref a1)] [(.int (0 : Int32))])
          have C8_ := C0.trans Cq6_
          have H8_ := C8_.1
          exact own_retNH X7_ hx (t := .boolean) Bd.returns Bd.notSynchronized (own_ew hw) hZ6_ hS6_ hk6_ hh C8_ (by simp) (hb hby own_d_prog_12_29_55) hh7_ rfl ⟨(0 : Int32), rfl, N7_, ((Keep.refl h0 []).ext E6_), (Or.inr ⟨rfl, fun g => (hr3.resolve_right fun q => h4 q.1).2.elim g.2.2.2⟩)⟩ (by decide) (by decide)
theorem own_ef_ipp0 (m : MethodId) (a1 : Addr) : entryFrame m #[(.ref a1)] 1 = mkF m 0 #[.val (.ref a1)] [] := by (first | (simp [entryFrame, mkF, argsToLocals, Value.category]; done) | rfl)
def own_Q_ipp0 (Z : State) (a1 : Addr) (t : Addr) (kt : ClassId) (h0 : Heap) (n0 : Nat) (vq : Option Value) (h : Heap) (Lq : List Loc) : Prop := (vq = some (.int (0 : Int32))) ∧ (Fr n0 Lq) ∧ (h = h0)
set_option maxRecDepth 65536 in
set_option maxHeartbeats 40000000 in
theorem own_rm_ipp0 (l : Launch) (Z : State) (a0 : Array Value) (hw : ∀ d ∈ tables_1, d.before a0 Z = true) (ws : List Jvm.Cond) (a1 : Addr) (t : Addr) (kt : ClassId) (h0 : Heap) (n0 : Nat) (Z0 : n0 ≤ h0.size) (E1 : Exa Z h0 a1 "java/lang/String") (F2 : Fld Z h0 a1 "java/lang/String" "value" "[B" (.ref t)) (Va : Arv Z h0 t kt .byte (0 : Int32) ([]) (.int 0)) :
    MetFree l (⟨"com/example/dependency_container/dependencycontainer/BeanDefinition", "isPropertyPath", "(Ljava/lang/String;)Z"⟩ : MethodName) (head1 (Jvm.Cond.code (⟨"com/example/dependency_container/dependencycontainer/BeanDefinition", "isPropertyPath", "(Ljava/lang/String;)Z"⟩ : MethodName) prog_12_method_29_code 1 (some .boolean) :: ws) ({ frames := 1, cells := 0, slots := 0, locals := 12 } : Room)) (fun aq Uq => aq = #[(.ref a1)] ∧ Z.Warmed39 Uq.vm ∧ Uq.heap = h0) (fun _ _ _ _ _ => True) (fun _ Uq oq Uq' => ∃ vq Lq, oq = .returned vq ∧ own_Q_ipp0 Z a1 t kt h0 n0 vq Uq'.heap Lq ∧ FrameEnd Uq oq Uq' Lq ({ frames := 1, cells := 0, slots := 0, locals := 12 } : Room).cells ({ frames := 1, cells := 0, slots := 0, locals := 12 } : Room).slots) := by
  refine MetFree.of_bodySF (plainFor_of_name own_pn3) hisR ?_
  intro p e s m args below meth cde s₁ Bd hml0 hP hK
  obtain ⟨rfl, hZ, hh⟩ := hP
  have hx := Bd.exec
  have hby := Bd.bytes
  have hml : cde.maxLocals = 1 := hml0
  have hown : s.vm.findClass "com/example/dependency_container/dependencycontainer/BeanDefinition" = some m.cls := findClass_of_methodNamed Bd.named
  have hnm := (name_of_methodNamed Bd.named Bd.method).1
  have X0 : Stand p l e ({ frames := 1, cells := 0, slots := 0, locals := 12 } : Room) s m #[(.ref a1)] below meth cde s₁ [] 0 0 := Stand.of_body Bd
  have e0 : s₁.heap = h0 := by rw [← hh, Bd.state]; rfl
  have N0 := Fr.nil n0
  show own_Fin p e s below (own_Q_ipp0 Z a1 t kt h0 n0) ({ frames := 1, cells := 0, slots := 0, locals := 12 } : Room).cells ({ frames := 1, cells := 0, slots := 0, locals := 12 } : Room).slots s₁ (entryFrame m #[(.ref a1)] 1)
  rw [own_ef_ipp0 m a1]
  refine own_via (fun _ k => XS.aloadN X0.here hx rfl (hb hby own_d_prog_12_29_0) rfl rfl k) ?_
  show own_Fin _ _ _ _ _ _ _ s₁ (mkF m 1 #[.val (.ref a1)] [(.ref a1)])
  obtain ⟨cq1_, kq1_, q1_a, q1_b, q1_c⟩ := isOf hZ e0 E1
  obtain ⟨_, _, ⟨T1_, L1_, k1_, n1_⟩, -, X1_, ⟨Lc1_, hQ1_, l1_, y1_, z1_⟩, st1_⟩ := X0.virtualBack hx (y := (⟨"java/lang/String", "isEmpty", "()Z"⟩ : MethodName)) (z := (⟨"java/lang/String", "isEmpty", "()Z"⟩ : MethodName)) hown (mvT hZ (hw _ (List.mem_of_getElem? (i := 33) rfl))) (mvT hZ (hw _ (List.mem_of_getElem? (i := 34) rfl))) (notFace_of_selects (args := #[]) (mvT hZ (hw _ (List.mem_of_getElem? (i := 36) rfl)))) (mvT hZ (hw _ (List.mem_of_getElem? (i := 36) rfl))) (mvT hZ (hw _ (List.mem_of_getElem? (i := 35) rfl))) (by decide) (backOf (W := 0) (own_rm_emp0 l Z a0 hw [] a1 t kt h0 n0 Z0 F2 Va) hZ (hw _ (List.mem_of_getElem? (i := 37) rfl)) (hw _ (List.mem_of_getElem? (i := 9) rfl)) (by decide) (by decide)) q1_a q1_c (g := (mkF m 1 #[.val (.ref a1)] [(.ref a1)])) rfl (by rw [hml]; rfl) (Steps.refl _) (argsL := []) (rest := []) (lenOf own_pd3 rfl) rfl (by show 2 * 0 + _ ≤ _; exact Nat.le_of_eq rfl) (hb hby own_d_prog_12_29_1) (fun _ _ => ⟨rfl, e0, (by decide : 0 + 0 ≤ _), (by decide : 0 + 0 ≤ _)⟩)
  dsimp only [Pt.U, Pt.locs, Pt.cells, Pt.slots] at X1_ l1_ y1_ z1_ st1_ hQ1_
  subst l1_ y1_ z1_
  obtain ⟨rfl, Nq1_, hh1_⟩ := hQ1_
  have N1_ := Fr.app N0 Nq1_
  refine own_via (fun _ k => st1_.trans k) ?_
  show own_Fin _ _ _ _ _ _ _ T1_ (mkF m 4 #[.val (.ref a1)] [(.int (1 : Int32))])
  refine own_via (fun _ k => XS.ifYes X1_.here hx rfl (pc0 := 4) (pc' := 54) rfl (hb hby own_d_prog_12_29_4) rfl ((if0 _ _).trans (feq (by decide)).2) (by decide) (by decide) k) ?_
  show own_Fin _ _ _ _ _ _ _ T1_ (mkF m 54 #[.val (.ref a1)] [])
  refine own_via (fun _ k => XS.iconst X1_.here hx rfl (hb hby own_d_prog_12_29_54) k) ?_
  show own_Fin _ _ _ _ _ _ _ T1_ (mkF m 55 #[.val (.ref a1)] [(.int (0 : Int32))])
  exact own_retN X1_ hx (t := .boolean) Bd.returns Bd.notSynchronized (by simp) (hb hby own_d_prog_12_29_55) hh1_ rfl ⟨rfl, N1_, rfl⟩ (by decide) (by decide)
theorem own_d_2_0 : decode method_2_code 0 = .ok (.iload_n 0, 1) := by decide +kernel
theorem own_d_2_1 : decode method_2_code 1 = .ok (.bipush 8, 2) := by decide +kernel
theorem own_d_2_3 : decode method_2_code 3 = .ok (.iushr, 1) := by decide +kernel
theorem own_d_2_4 : decode method_2_code 4 = .ok (.iconst 1, 1) := by decide +kernel
theorem own_d_2_5 : decode method_2_code 5 = .ok (.iand, 1) := by decide +kernel
theorem own_d_2_6 : decode method_2_code 6 = .ok (.ifCond .eq 8, 3) := by decide +kernel
theorem own_d_2_14 : decode method_2_code 14 = .ok (.iload_n 0, 1) := by decide +kernel
theorem own_d_2_15 : decode method_2_code 15 = .ok (.sipush 255, 3) := by decide +kernel
theorem own_d_2_18 : decode method_2_code 18 = .ok (.iand, 1) := by decide +kernel
theorem own_d_2_19 : decode method_2_code 19 = .ok (.i2c, 1) := by decide +kernel
theorem own_d_2_20 : decode method_2_code 20 = .ok (.ireturn, 1) := by decide +kernel
theorem own_d_2_9 : decode method_2_code 9 = .ok (.bipush 46, 2) := by decide +kernel
theorem own_d_2_11 : decode method_2_code 11 = .ok (.goto 9, 3) := by decide +kernel
theorem own_pn4 : plainName "com/example/dependency_container/dependencycontainer/BeanDefinitionIsPropertyPathPinLaw" = true := by first | (simp [plainName, overriddenIn]; done) | decide +kernel
theorem own_ef_pick (m : MethodId) (x : Int32) : entryFrame m #[(.int x)] 1 = mkF m 0 #[.val (.int x)] [] := by (first | (simp [entryFrame, mkF, argsToLocals, Value.category]; done) | rfl)
def own_Q_pick (Z : State) (x : Int32) (h0 : Heap) (n0 : Nat) (vq : Option Value) (h : Heap) (Lq : List Loc) : Prop := ∃ (r : Int32), (vq = some (.int r)) ∧ (Fr n0 Lq) ∧ (h = h0) ∧ (own_lat r)
set_option maxRecDepth 65536 in
set_option maxHeartbeats 40000000 in
theorem own_rm_pick (l : Launch) (Z : State) (a0 : Array Value) (hw : ∀ d ∈ tables_1, d.before a0 Z = true) (ws : List Jvm.Cond) (x : Int32) (h0 : Heap) (n0 : Nat) (Z0 : n0 ≤ h0.size) :
    MetFree l (⟨"com/example/dependency_container/dependencycontainer/BeanDefinitionIsPropertyPathPinLaw", "pick", "(I)C"⟩ : MethodName) (head1 (Jvm.Cond.code (⟨"com/example/dependency_container/dependencycontainer/BeanDefinitionIsPropertyPathPinLaw", "pick", "(I)C"⟩ : MethodName) method_2_code 1 (some .char) :: ws) ({ frames := 0, cells := 0, slots := 0, locals := 0 } : Room)) (fun aq Uq => aq = #[(.int x)] ∧ Z.Warmed39 Uq.vm ∧ Uq.heap = h0) (fun _ _ _ _ _ => True) (fun _ Uq oq Uq' => ∃ vq Lq, oq = .returned vq ∧ own_Q_pick Z x h0 n0 vq Uq'.heap Lq ∧ FrameEnd Uq oq Uq' Lq ({ frames := 0, cells := 0, slots := 0, locals := 0 } : Room).cells ({ frames := 0, cells := 0, slots := 0, locals := 0 } : Room).slots) := by
  refine MetFree.of_bodySF (plainFor_of_name own_pn4) hisR ?_
  intro p e s m args below meth cde s₁ Bd hml0 hP hK
  obtain ⟨rfl, hZ, hh⟩ := hP
  have hx := Bd.exec
  have hby := Bd.bytes
  have hml : cde.maxLocals = 1 := hml0
  have hown : s.vm.findClass "com/example/dependency_container/dependencycontainer/BeanDefinitionIsPropertyPathPinLaw" = some m.cls := findClass_of_methodNamed Bd.named
  have hnm := (name_of_methodNamed Bd.named Bd.method).1
  have X0 : Stand p l e ({ frames := 0, cells := 0, slots := 0, locals := 0 } : Room) s m #[(.int x)] below meth cde s₁ [] 0 0 := Stand.of_body Bd
  have e0 : s₁.heap = h0 := by rw [← hh, Bd.state]; rfl
  have N0 := Fr.nil n0
  show own_Fin p e s below (own_Q_pick Z x h0 n0) ({ frames := 0, cells := 0, slots := 0, locals := 0 } : Room).cells ({ frames := 0, cells := 0, slots := 0, locals := 0 } : Room).slots s₁ (entryFrame m #[(.int x)] 1)
  rw [own_ef_pick m x]
  refine own_via (fun _ k => XS.iloadN X0.here hx rfl (hb hby own_d_2_0) rfl k) ?_
  show own_Fin _ _ _ _ _ _ _ s₁ (mkF m 1 #[.val (.int x)] [(.int x)])
  refine own_via (fun _ k => XS.bipush X0.here hx rfl (hb hby own_d_2_1) k) ?_
  show own_Fin _ _ _ _ _ _ _ s₁ (mkF m 3 #[.val (.int x)] [(.int (8 : Int32)), (.int x)])
  refine own_via (fun _ k => XS.iushr X0.here hx rfl (hb hby own_d_2_3) rfl k) ?_
  show own_Fin _ _ _ _ _ _ _ s₁ (mkF m 4 #[.val (.int x)] [(.int ((x.toUInt32 >>> ((8 : Int32) &&& 31).toUInt32).toInt32))])
  refine own_via (fun _ k => XS.iconst X0.here hx rfl (hb hby own_d_2_4) k) ?_
  show own_Fin _ _ _ _ _ _ _ s₁ (mkF m 5 #[.val (.int x)] [(.int (1 : Int32)), (.int ((x.toUInt32 >>> ((8 : Int32) &&& 31).toUInt32).toInt32))])
  refine own_via (fun _ k => XS.iand X0.here hx rfl (hb hby own_d_2_5) rfl k) ?_
  show own_Fin _ _ _ _ _ _ _ s₁ (mkF m 6 #[.val (.int x)] [(.int (((x.toUInt32 >>> ((8 : Int32) &&& 31).toUInt32).toInt32) &&& (1 : Int32)))])
  rcases Classical.em ((((x.toUInt32 >>> ((8 : Int32) &&& 31).toUInt32).toInt32) &&& (1 : Int32)) = (0 : Int32)) with h1 | h1
  · refine own_via (fun _ k => XS.ifYes X0.here hx rfl (pc0 := 6) (pc' := 14) rfl (hb hby own_d_2_6) rfl ((if0 _ _).trans (teq h1).1) (by decide) (by decide) k) ?_
    show own_Fin _ _ _ _ _ _ _ s₁ (mkF m 14 #[.val (.int x)] [])
    refine own_via (fun _ k => XS.iloadN X0.here hx rfl (hb hby own_d_2_14) rfl k) ?_
    show own_Fin _ _ _ _ _ _ _ s₁ (mkF m 15 #[.val (.int x)] [(.int x)])
    refine own_via (fun _ k => XS.sipush X0.here hx rfl (hb hby own_d_2_15) k) ?_
    show own_Fin _ _ _ _ _ _ _ s₁ (mkF m 18 #[.val (.int x)] [(.int (255 : Int32)), (.int x)])
    refine own_via (fun _ k => XS.iand X0.here hx rfl (hb hby own_d_2_18) rfl k) ?_
    show own_Fin _ _ _ _ _ _ _ s₁ (mkF m 19 #[.val (.int x)] [(.int (x &&& (255 : Int32)))])
    refine own_via (fun _ k => XS.i2c X0.here hx rfl (hb hby own_d_2_19) rfl k) ?_
    show own_Fin _ _ _ _ _ _ _ s₁ (mkF m 20 #[.val (.int x)] [(.int ((x &&& (255 : Int32)).toUInt32.toUInt16.toUInt32.toInt32))])
    exact own_retN X0 hx (t := .char) Bd.returns Bd.notSynchronized (by simp) (hb hby own_d_2_20) e0 (own_dbl _) ⟨(x &&& (255 : Int32)), rfl, N0, rfl, (own_m255 x)⟩ (by decide) (by decide)
  · refine own_via (fun _ k => XS.ifNo X0.here hx rfl (hb hby own_d_2_6) rfl ((if0 _ _).trans (feq h1).1) k) ?_
    show own_Fin _ _ _ _ _ _ _ s₁ (mkF m 9 #[.val (.int x)] [])
    refine own_via (fun _ k => XS.bipush X0.here hx rfl (hb hby own_d_2_9) k) ?_
    show own_Fin _ _ _ _ _ _ _ s₁ (mkF m 11 #[.val (.int x)] [(.int (46 : Int32))])
    refine own_via (fun _ k => XS.goto X0.here hx rfl (pc0 := 11) (pc' := 20) rfl (hb hby own_d_2_11) (by decide) (by decide) k) ?_
    show own_Fin _ _ _ _ _ _ _ s₁ (mkF m 20 #[.val (.int x)] [(.int (46 : Int32))])
    exact own_retN X0 hx (t := .char) Bd.returns Bd.notSynchronized (by simp) (hb hby own_d_2_20) e0 rfl ⟨(46 : Int32), rfl, N0, rfl, (by unfold own_lat; decide)⟩ (by decide) (by decide)
theorem own_d_3_0 : decode method_3_code 0 = .ok (.iload_n 0, 1) := by decide +kernel
theorem own_d_3_1 : decode method_3_code 1 = .ok (.ifCond .ne 14, 3) := by decide +kernel
theorem own_d_3_15 : decode method_3_code 15 = .ok (.iload_n 0, 1) := by decide +kernel
theorem own_d_3_16 : decode method_3_code 16 = .ok (.iconst 1, 1) := by decide +kernel
theorem own_d_3_17 : decode method_3_code 17 = .ok (.if_icmp .ne 18, 3) := by decide +kernel
theorem own_d_3_20 : decode method_3_code 20 = .ok (.new 7, 3) := by decide +kernel
theorem own_d_3_23 : decode method_3_code 23 = .ok (.dup, 1) := by decide +kernel
theorem own_d_3_24 : decode method_3_code 24 = .ok (.iconst 1, 1) := by decide +kernel
theorem own_d_3_25 : decode method_3_code 25 = .ok (.newarray .char, 2) := by decide +kernel
theorem own_d_3_27 : decode method_3_code 27 = .ok (.dup, 1) := by decide +kernel
theorem own_d_3_28 : decode method_3_code 28 = .ok (.iconst 0, 1) := by decide +kernel
theorem own_d_3_29 : decode method_3_code 29 = .ok (.iload_n 1, 1) := by decide +kernel
theorem own_d_3_30 : decode method_3_code 30 = .ok (.castore, 1) := by decide +kernel
theorem own_d_3_31 : decode method_3_code 31 = .ok (.invokespecial 9, 3) := by decide +kernel
theorem own_pd16 : parseMethodDescriptor "([C)V" = some ⟨[(.array .char)], none⟩ := by decide +kernel
theorem own_d_3_34 : decode method_3_code 34 = .ok (.areturn, 1) := by decide +kernel
theorem own_ef_make1 (m : MethodId) (c1 : Int32) (c2 : Int32) (c3 : Int32) (c4 : Int32) (c5 : Int32) : entryFrame m #[(.int (1 : Int32)), (.int c1), (.int c2), (.int c3), (.int c4), (.int c5)] 6 = mkF m 0 #[.val (.int (1 : Int32)), .val (.int c1), .val (.int c2), .val (.int c3), .val (.int c4), .val (.int c5)] [] := by (first | (simp [entryFrame, mkF, argsToLocals, Value.category]; done) | rfl)
def own_Q_make1 (Z : State) (c1 : Int32) (c2 : Int32) (c3 : Int32) (c4 : Int32) (c5 : Int32) (cz : Int32) (h0 : Heap) (n0 : Nat) (vq : Option Value) (h : Heap) (Lq : List Loc) : Prop := ∃ (x : Addr) (t : Addr) (kt : ClassId), (vq = some (.ref x)) ∧ (Fr n0 Lq) ∧ (Keep h0 h []) ∧ (h0.size ≤ x) ∧ (Exa Z h x "java/lang/String") ∧ (Fld Z h x "java/lang/String" "coder" "B" (.int (0 : Int32))) ∧ (Fld Z h x "java/lang/String" "value" "[B" (.ref t)) ∧ (Arv Z h t kt .byte (1 : Int32) ([(.int (c1.toInt8.toInt32))]) (.int 0))
set_option maxRecDepth 65536 in
set_option maxHeartbeats 40000000 in
theorem own_rm_make1 (l : Launch) (Z : State) (a0 : Array Value) (hw : ∀ d ∈ tables_1, d.before a0 Z = true) (ws : List Jvm.Cond) (c1 : Int32) (c2 : Int32) (c3 : Int32) (c4 : Int32) (c5 : Int32) (cz : Int32) (h0 : Heap) (n0 : Nat) (Z0 : n0 ≤ h0.size) (O0 : Old Z n0 h0) (S1 : Sta Z Z.heap "java/lang/String" "COMPACT_STRINGS" "Z" (.int cz)) (P5 : ¬ cz = (0 : Int32)) (hc1 : own_lat c1) (hc2 : own_lat c2) (hc3 : own_lat c3) (hc4 : own_lat c4) (hc5 : own_lat c5) :
    MetFree l (⟨"com/example/dependency_container/dependencycontainer/BeanDefinitionIsPropertyPathPinLaw", "make", "(ICCCCC)Ljava/lang/String;"⟩ : MethodName) (head1 (Jvm.Cond.code (⟨"com/example/dependency_container/dependencycontainer/BeanDefinitionIsPropertyPathPinLaw", "make", "(ICCCCC)Ljava/lang/String;"⟩ : MethodName) method_3_code 6 (some (.object "java/lang/String")) :: ws) ({ frames := 4, cells := 3, slots := 6, locals := 66 } : Room)) (fun aq Uq => aq = #[(.int (1 : Int32)), (.int c1), (.int c2), (.int c3), (.int c4), (.int c5)] ∧ Z.Warmed39 Uq.vm ∧ Uq.heap = h0) (fun _ _ _ _ _ => True) (fun _ Uq oq Uq' => ∃ vq Lq, oq = .returned vq ∧ own_Q_make1 Z c1 c2 c3 c4 c5 cz h0 n0 vq Uq'.heap Lq ∧ FrameEnd Uq oq Uq' Lq ({ frames := 4, cells := 3, slots := 6, locals := 66 } : Room).cells ({ frames := 4, cells := 3, slots := 6, locals := 66 } : Room).slots) := by
  refine MetFree.of_bodySF (plainFor_of_name own_pn4) hisR ?_
  intro p e s m args below meth cde s₁ Bd hml0 hP hK
  obtain ⟨rfl, hZ, hh⟩ := hP
  have hx := Bd.exec
  have hby := Bd.bytes
  have hml : cde.maxLocals = 6 := hml0
  have hown : s.vm.findClass "com/example/dependency_container/dependencycontainer/BeanDefinitionIsPropertyPathPinLaw" = some m.cls := findClass_of_methodNamed Bd.named
  have hnm := (name_of_methodNamed Bd.named Bd.method).1
  have X0 : Stand p l e ({ frames := 4, cells := 3, slots := 6, locals := 66 } : Room) s m #[(.int (1 : Int32)), (.int c1), (.int c2), (.int c3), (.int c4), (.int c5)] below meth cde s₁ [] 0 0 := Stand.of_body Bd
  have e0 : s₁.heap = h0 := by rw [← hh, Bd.state]; rfl
  have N0 := Fr.nil n0
  show own_Fin p e s below (own_Q_make1 Z c1 c2 c3 c4 c5 cz h0 n0) ({ frames := 4, cells := 3, slots := 6, locals := 66 } : Room).cells ({ frames := 4, cells := 3, slots := 6, locals := 66 } : Room).slots s₁ (entryFrame m #[(.int (1 : Int32)), (.int c1), (.int c2), (.int c3), (.int c4), (.int c5)] 6)
  rw [own_ef_make1 m c1 c2 c3 c4 c5]
  have own_hws : ∀ d ∈ StrChars.Road.words, d.before a0 Z = true := fun d hd => hw d ((by decide +kernel : ∀ d ∈ StrChars.Road.words, d ∈ tables_1) d hd)
  refine own_via (fun _ k => XS.iloadN X0.here hx rfl (hb hby own_d_3_0) rfl k) ?_
  show own_Fin _ _ _ _ _ _ _ s₁ (mkF m 1 #[.val (.int (1 : Int32)), .val (.int c1), .val (.int c2), .val (.int c3), .val (.int c4), .val (.int c5)] [(.int (1 : Int32))])
  refine own_via (fun _ k => XS.ifYes X0.here hx rfl (pc0 := 1) (pc' := 15) rfl (hb hby own_d_3_1) rfl ((if0 _ _).trans (feq (by decide)).2) (by decide) (by decide) k) ?_
  show own_Fin _ _ _ _ _ _ _ s₁ (mkF m 15 #[.val (.int (1 : Int32)), .val (.int c1), .val (.int c2), .val (.int c3), .val (.int c4), .val (.int c5)] [])
  refine own_via (fun _ k => XS.iloadN X0.here hx rfl (hb hby own_d_3_15) rfl k) ?_
  show own_Fin _ _ _ _ _ _ _ s₁ (mkF m 16 #[.val (.int (1 : Int32)), .val (.int c1), .val (.int c2), .val (.int c3), .val (.int c4), .val (.int c5)] [(.int (1 : Int32))])
  refine own_via (fun _ k => XS.iconst X0.here hx rfl (hb hby own_d_3_16) k) ?_
  show own_Fin _ _ _ _ _ _ _ s₁ (mkF m 17 #[.val (.int (1 : Int32)), .val (.int c1), .val (.int c2), .val (.int c3), .val (.int c4), .val (.int c5)] [(.int (1 : Int32)), (.int (1 : Int32))])
  refine own_via (fun _ k => XS.icmpNo X0.here hx rfl (hb hby own_d_3_17) rfl (teq rfl).2 k) ?_
  show own_Fin _ _ _ _ _ _ _ s₁ (mkF m 20 #[.val (.int (1 : Int32)), .val (.int c1), .val (.int c2), .val (.int c3), .val (.int c4), .val (.int c5)] [])
  obtain ⟨T1_, h1_, X1_, e1_, E1_, A1_, D1_, -, st1_⟩ := newO X0 hx hZ hown (hw _ (List.mem_of_getElem? (i := 7) rfl)) (hw _ (List.mem_of_getElem? (i := 8) rfl)) (hw _ (List.mem_of_getElem? (i := 9) rfl)) e0 (g := (mkF m 20 #[.val (.int (1 : Int32)), .val (.int c1), .val (.int c2), .val (.int c3), .val (.int c4), .val (.int c5)] [])) rfl (hb hby own_d_3_20) (by decide) (by decide)
  obtain ⟨b1_, g1_⟩ : ∃ z, z = h0.size := ⟨_, rfl⟩
  rw [← g1_] at A1_ D1_ st1_
  have F2_ : Fld Z h1_ b1_ "java/lang/String" "value" "[B" .null := D1_ (Or.inr (hw _ (List.mem_of_getElem? (i := 23) rfl))) (ty := (.array .byte)) (by decide)
  have F3_ : Fld Z h1_ b1_ "java/lang/String" "coder" "B" (.int (0 : Int32)) := D1_ (Or.inr (hw _ (List.mem_of_getElem? (i := 24) rfl))) (ty := .byte) (by decide)
  refine own_via (fun _ k => st1_ _ k) ?_
  show own_Fin _ _ _ _ _ _ _ T1_ (mkF m 23 #[.val (.int (1 : Int32)), .val (.int c1), .val (.int c2), .val (.int c3), .val (.int c4), .val (.int c5)] [(.ref b1_)])
  refine own_via (fun _ k => XS.dup X1_.here hx rfl (hb hby own_d_3_23) rfl rfl k) ?_
  show own_Fin _ _ _ _ _ _ _ T1_ (mkF m 24 #[.val (.int (1 : Int32)), .val (.int c1), .val (.int c2), .val (.int c3), .val (.int c4), .val (.int c5)] [(.ref b1_), (.ref b1_)])
  refine own_via (fun _ k => XS.iconst X1_.here hx rfl (hb hby own_d_3_24) k) ?_
  show own_Fin _ _ _ _ _ _ _ T1_ (mkF m 25 #[.val (.int (1 : Int32)), .val (.int c1), .val (.int c2), .val (.int c3), .val (.int c4), .val (.int c5)] [(.int (1 : Int32)), (.ref b1_), (.ref b1_)])
  obtain ⟨T4_, h4_, k4_, X4_, e4_, E4_, A4_, st4_⟩ := newP X1_ hx hZ (hw _ (List.mem_of_getElem? (i := 10) rfl)) e1_ (g := (mkF m 25 #[.val (.int (1 : Int32)), .val (.int c1), .val (.int c2), .val (.int c3), .val (.int c4), .val (.int c5)] [(.int (1 : Int32)), (.ref b1_), (.ref b1_)])) rfl (hb hby own_d_3_25) rfl (by decide) (cap := 1) (by decide) (by decide) (by decide) (by decide)
  obtain ⟨b4_, g4_⟩ : ∃ z, z = h1_.size := ⟨_, rfl⟩
  rw [← g4_] at A4_ st4_
  have V4_ : Arv Z h4_ b4_ k4_ .char (1 : Int32) [(.int (0 : Int32))] (.int (0 : Int32)) := (Arv.new A4_ (by decide)).pad (pad_rep [] (.int (0 : Int32)) 1)
  refine own_via (fun _ k => st4_ _ k) ?_
  show own_Fin _ _ _ _ _ _ _ T4_ (mkF m 27 #[.val (.int (1 : Int32)), .val (.int c1), .val (.int c2), .val (.int c3), .val (.int c4), .val (.int c5)] [(.ref b4_), (.ref b1_), (.ref b1_)])
  refine own_via (fun _ k => XS.dup X4_.here hx rfl (hb hby own_d_3_27) rfl rfl k) ?_
  show own_Fin _ _ _ _ _ _ _ T4_ (mkF m 28 #[.val (.int (1 : Int32)), .val (.int c1), .val (.int c2), .val (.int c3), .val (.int c4), .val (.int c5)] [(.ref b4_), (.ref b4_), (.ref b1_), (.ref b1_)])
  refine own_via (fun _ k => XS.iconst X4_.here hx rfl (hb hby own_d_3_28) k) ?_
  show own_Fin _ _ _ _ _ _ _ T4_ (mkF m 29 #[.val (.int (1 : Int32)), .val (.int c1), .val (.int c2), .val (.int c3), .val (.int c4), .val (.int c5)] [(.int (0 : Int32)), (.ref b4_), (.ref b4_), (.ref b1_), (.ref b1_)])
  refine own_via (fun _ k => XS.iloadN X4_.here hx rfl (hb hby own_d_3_29) rfl k) ?_
  show own_Fin _ _ _ _ _ _ _ T4_ (mkF m 30 #[.val (.int (1 : Int32)), .val (.int c1), .val (.int c2), .val (.int c3), .val (.int c4), .val (.int c5)] [(.int c1), (.int (0 : Int32)), (.ref b4_), (.ref b4_), (.ref b1_), (.ref b1_)])
  obtain ⟨c5_, Ar5_, q5_, S5_, M5_, H5_, G5_⟩ := (id V4_)
  have hin5_ : ¬ ((0 : Int32) < 0 ∨ c5_.slots.size ≤ ((0 : Int32)).toNatClampNeg) := inb_of S5_ ⟨by decide, by decide⟩
  obtain ⟨T5_, h5_, X5_, e5_, W5_, st5_⟩ := stC X4_ hx hZ e4_ Ar5_ (j := (0 : Int32)) hin5_ (g := (mkF m 30 #[.val (.int (1 : Int32)), .val (.int c1), .val (.int c2), .val (.int c3), .val (.int c4), .val (.int c5)] [(.int c1), (.int (0 : Int32)), (.ref b4_), (.ref b4_), (.ref b1_), (.ref b1_)])) rfl rfl (hb hby own_d_3_30)
  have V5_ := Arv.set Ar5_ q5_ S5_ M5_ H5_ G5_ (fits_nar_char _) W5_ 0 rfl (Nat.le_of_ble_eq_true rfl)
  have U5_ : Arv Z h5_ b4_ k4_ .char (1 : Int32) ([(.int c1)]) (.int (0 : Int32)) := by
    have hq := V5_
    rw [show nar .char c1 = c1 from (own_narc hc1)] at hq
    exact hq
  have g6_ : n0 ≤ b4_ := Nat.le_trans (Nat.le_trans Z0 E1_.1) (Nat.le_of_eq g4_.symm)
  have N5_ := Fr.snoc X5_ N0 g6_
  refine own_via (fun _ k => st5_ _ k) ?_
  show own_Fin _ _ _ _ _ _ _ T5_ (mkF m 31 #[.val (.int (1 : Int32)), .val (.int c1), .val (.int c2), .val (.int c3), .val (.int c4), .val (.int c5)] [(.ref b4_), (.ref b1_), (.ref b1_)])
  have g8_ : n0 ≤ b1_ := Nat.le_trans Z0 (Nat.le_of_eq g1_.symm)
  have q9_ : b1_ ≠ b4_ := Nat.ne_of_lt (Nat.lt_of_lt_of_le A1_.lt (Nat.le_of_eq g4_.symm))
  obtain ⟨_, _, ⟨T7_, L7_, k7_, n7_⟩, -, X7_, ⟨Lc7_, hQ7_, l7_, y7_, z7_⟩, st7_⟩ := X5_.specialBack hx (y := (⟨"java/lang/String", "<init>", "([C)V"⟩ : MethodName)) rfl hown (mvT hZ (hw _ (List.mem_of_getElem? (i := 11) rfl))) (mvT hZ (hw _ (List.mem_of_getElem? (i := 12) rfl))) (mvT hZ (hw _ (List.mem_of_getElem? (i := 13) rfl))) (by decide) (StrChars.Road.backV (W := 1) hZ own_hws (kI := 4) (hw _ (List.mem_of_getElem? (i := 8) rfl)) (cs := ([c1] : List Int32)) (bs := ([c1] : List Int32).map (fun c => c.toInt8.toInt32)) (n := 1) g8_ (Nat.le_trans Z0 (Nat.le_trans (Nat.le_trans E1_.1 E4_.1) (Keep.of_wr W5_).1)) ((A1_.ext E4_).wr W5_) ((F2_.ext E4_).other W5_ (Or.inl q9_)) ((F3_.ext E4_).other W5_ (Or.inl q9_)) U5_ (S1.ext (((O0.ext E1_).ext E4_).wr W5_ g6_).2) P5 rfl rfl (by decide) (by decide) (own_lats1 hc1) rfl (by decide) (by decide)) (g := (mkF m 31 #[.val (.int (1 : Int32)), .val (.int c1), .val (.int c2), .val (.int c3), .val (.int c4), .val (.int c5)] [(.ref b4_), (.ref b1_), (.ref b1_)])) rfl (by rw [hml]; rfl) (Steps.refl _) (a := b1_) (argsL := [(.ref b4_)]) (rest := [(.ref b1_)]) (lenOf own_pd16 rfl) rfl (by show 2 * 0 + _ ≤ _; exact Nat.le_of_eq rfl) (hb hby own_d_3_31) (fun _ _ => ⟨rfl, e5_, (by decide : 0 + 1 + 1 + 1 ≤ _), (by decide : 0 + 4 + 1 + 1 ≤ _)⟩)
  dsimp only [Pt.U, Pt.locs, Pt.cells, Pt.slots] at X7_ l7_ y7_ z7_ st7_ hQ7_
  subst l7_ y7_ z7_
  obtain ⟨rfl, Nq7_, K7_, r12_, r13_, t10_, kb11_, r14_, r15_, r16_, r17_, r18_⟩ := hQ7_
  have N7_ := Fr.app N5_ Nq7_
  refine own_via (fun _ k => st7_.trans k) ?_
  show own_Fin _ _ _ _ _ _ _ T7_ (mkF m 34 #[.val (.int (1 : Int32)), .val (.int c1), .val (.int c2), .val (.int c3), .val (.int c4), .val (.int c5)] [(.ref b1_)])
  exact own_retA X7_ hx Bd.returns Bd.notSynchronized rfl rfl (hb hby own_d_3_34) rfl ⟨b1_, t10_, kb11_, rfl, N7_, (((((Keep.refl h0 []).ext E1_).ext E4_).wr W5_ (Or.inr (Nat.le_trans E1_.1 (Nat.le_of_eq g4_.symm)))).trans K7_ (allS (Or.inr (Nat.le_of_eq g1_.symm)) all0)), (Nat.le_of_eq g1_.symm), r12_, r13_, r17_, r18_⟩ (by decide) (by decide)
theorem own_d_3_35 : decode method_3_code 35 = .ok (.iload_n 0, 1) := by decide +kernel
theorem own_d_3_36 : decode method_3_code 36 = .ok (.iconst 2, 1) := by decide +kernel
theorem own_d_3_37 : decode method_3_code 37 = .ok (.if_icmp .ne 22, 3) := by decide +kernel
theorem own_d_3_40 : decode method_3_code 40 = .ok (.new 7, 3) := by decide +kernel
theorem own_d_3_43 : decode method_3_code 43 = .ok (.dup, 1) := by decide +kernel
theorem own_d_3_44 : decode method_3_code 44 = .ok (.iconst 2, 1) := by decide +kernel
theorem own_d_3_45 : decode method_3_code 45 = .ok (.newarray .char, 2) := by decide +kernel
theorem own_d_3_47 : decode method_3_code 47 = .ok (.dup, 1) := by decide +kernel
theorem own_d_3_48 : decode method_3_code 48 = .ok (.iconst 0, 1) := by decide +kernel
theorem own_d_3_49 : decode method_3_code 49 = .ok (.iload_n 1, 1) := by decide +kernel
theorem own_d_3_50 : decode method_3_code 50 = .ok (.castore, 1) := by decide +kernel
theorem own_d_3_51 : decode method_3_code 51 = .ok (.dup, 1) := by decide +kernel
theorem own_d_3_52 : decode method_3_code 52 = .ok (.iconst 1, 1) := by decide +kernel
theorem own_d_3_53 : decode method_3_code 53 = .ok (.iload_n 2, 1) := by decide +kernel
theorem own_d_3_54 : decode method_3_code 54 = .ok (.castore, 1) := by decide +kernel
theorem own_d_3_55 : decode method_3_code 55 = .ok (.invokespecial 9, 3) := by decide +kernel
theorem own_d_3_58 : decode method_3_code 58 = .ok (.areturn, 1) := by decide +kernel
theorem own_ef_make2 (m : MethodId) (c1 : Int32) (c2 : Int32) (c3 : Int32) (c4 : Int32) (c5 : Int32) : entryFrame m #[(.int (2 : Int32)), (.int c1), (.int c2), (.int c3), (.int c4), (.int c5)] 6 = mkF m 0 #[.val (.int (2 : Int32)), .val (.int c1), .val (.int c2), .val (.int c3), .val (.int c4), .val (.int c5)] [] := by (first | (simp [entryFrame, mkF, argsToLocals, Value.category]; done) | rfl)
def own_Q_make2 (Z : State) (c1 : Int32) (c2 : Int32) (c3 : Int32) (c4 : Int32) (c5 : Int32) (cz : Int32) (h0 : Heap) (n0 : Nat) (vq : Option Value) (h : Heap) (Lq : List Loc) : Prop := ∃ (x : Addr) (t : Addr) (kt : ClassId), (vq = some (.ref x)) ∧ (Fr n0 Lq) ∧ (Keep h0 h []) ∧ (h0.size ≤ x) ∧ (Exa Z h x "java/lang/String") ∧ (Fld Z h x "java/lang/String" "coder" "B" (.int (0 : Int32))) ∧ (Fld Z h x "java/lang/String" "value" "[B" (.ref t)) ∧ (Arv Z h t kt .byte (2 : Int32) ([(.int (c1.toInt8.toInt32)), (.int (c2.toInt8.toInt32))]) (.int 0))
set_option maxRecDepth 65536 in
set_option maxHeartbeats 40000000 in
theorem own_rm_make2 (l : Launch) (Z : State) (a0 : Array Value) (hw : ∀ d ∈ tables_1, d.before a0 Z = true) (ws : List Jvm.Cond) (c1 : Int32) (c2 : Int32) (c3 : Int32) (c4 : Int32) (c5 : Int32) (cz : Int32) (h0 : Heap) (n0 : Nat) (Z0 : n0 ≤ h0.size) (O0 : Old Z n0 h0) (S1 : Sta Z Z.heap "java/lang/String" "COMPACT_STRINGS" "Z" (.int cz)) (P5 : ¬ cz = (0 : Int32)) (hc1 : own_lat c1) (hc2 : own_lat c2) (hc3 : own_lat c3) (hc4 : own_lat c4) (hc5 : own_lat c5) :
    MetFree l (⟨"com/example/dependency_container/dependencycontainer/BeanDefinitionIsPropertyPathPinLaw", "make", "(ICCCCC)Ljava/lang/String;"⟩ : MethodName) (head1 (Jvm.Cond.code (⟨"com/example/dependency_container/dependencycontainer/BeanDefinitionIsPropertyPathPinLaw", "make", "(ICCCCC)Ljava/lang/String;"⟩ : MethodName) method_3_code 6 (some (.object "java/lang/String")) :: ws) ({ frames := 4, cells := 3, slots := 8, locals := 66 } : Room)) (fun aq Uq => aq = #[(.int (2 : Int32)), (.int c1), (.int c2), (.int c3), (.int c4), (.int c5)] ∧ Z.Warmed39 Uq.vm ∧ Uq.heap = h0) (fun _ _ _ _ _ => True) (fun _ Uq oq Uq' => ∃ vq Lq, oq = .returned vq ∧ own_Q_make2 Z c1 c2 c3 c4 c5 cz h0 n0 vq Uq'.heap Lq ∧ FrameEnd Uq oq Uq' Lq ({ frames := 4, cells := 3, slots := 8, locals := 66 } : Room).cells ({ frames := 4, cells := 3, slots := 8, locals := 66 } : Room).slots) := by
  refine MetFree.of_bodySF (plainFor_of_name own_pn4) hisR ?_
  intro p e s m args below meth cde s₁ Bd hml0 hP hK
  obtain ⟨rfl, hZ, hh⟩ := hP
  have hx := Bd.exec
  have hby := Bd.bytes
  have hml : cde.maxLocals = 6 := hml0
  have hown : s.vm.findClass "com/example/dependency_container/dependencycontainer/BeanDefinitionIsPropertyPathPinLaw" = some m.cls := findClass_of_methodNamed Bd.named
  have hnm := (name_of_methodNamed Bd.named Bd.method).1
  have X0 : Stand p l e ({ frames := 4, cells := 3, slots := 8, locals := 66 } : Room) s m #[(.int (2 : Int32)), (.int c1), (.int c2), (.int c3), (.int c4), (.int c5)] below meth cde s₁ [] 0 0 := Stand.of_body Bd
  have e0 : s₁.heap = h0 := by rw [← hh, Bd.state]; rfl
  have N0 := Fr.nil n0
  show own_Fin p e s below (own_Q_make2 Z c1 c2 c3 c4 c5 cz h0 n0) ({ frames := 4, cells := 3, slots := 8, locals := 66 } : Room).cells ({ frames := 4, cells := 3, slots := 8, locals := 66 } : Room).slots s₁ (entryFrame m #[(.int (2 : Int32)), (.int c1), (.int c2), (.int c3), (.int c4), (.int c5)] 6)
  rw [own_ef_make2 m c1 c2 c3 c4 c5]
  have own_hws : ∀ d ∈ StrChars.Road.words, d.before a0 Z = true := fun d hd => hw d ((by decide +kernel : ∀ d ∈ StrChars.Road.words, d ∈ tables_1) d hd)
  refine own_via (fun _ k => XS.iloadN X0.here hx rfl (hb hby own_d_3_0) rfl k) ?_
  show own_Fin _ _ _ _ _ _ _ s₁ (mkF m 1 #[.val (.int (2 : Int32)), .val (.int c1), .val (.int c2), .val (.int c3), .val (.int c4), .val (.int c5)] [(.int (2 : Int32))])
  refine own_via (fun _ k => XS.ifYes X0.here hx rfl (pc0 := 1) (pc' := 15) rfl (hb hby own_d_3_1) rfl ((if0 _ _).trans (feq (by decide)).2) (by decide) (by decide) k) ?_
  show own_Fin _ _ _ _ _ _ _ s₁ (mkF m 15 #[.val (.int (2 : Int32)), .val (.int c1), .val (.int c2), .val (.int c3), .val (.int c4), .val (.int c5)] [])
  refine own_via (fun _ k => XS.iloadN X0.here hx rfl (hb hby own_d_3_15) rfl k) ?_
  show own_Fin _ _ _ _ _ _ _ s₁ (mkF m 16 #[.val (.int (2 : Int32)), .val (.int c1), .val (.int c2), .val (.int c3), .val (.int c4), .val (.int c5)] [(.int (2 : Int32))])
  refine own_via (fun _ k => XS.iconst X0.here hx rfl (hb hby own_d_3_16) k) ?_
  show own_Fin _ _ _ _ _ _ _ s₁ (mkF m 17 #[.val (.int (2 : Int32)), .val (.int c1), .val (.int c2), .val (.int c3), .val (.int c4), .val (.int c5)] [(.int (1 : Int32)), (.int (2 : Int32))])
  refine own_via (fun _ k => XS.icmpYes X0.here hx rfl (pc0 := 17) (pc' := 35) rfl (hb hby own_d_3_17) rfl (feq (by decide)).2 (by decide) (by decide) k) ?_
  show own_Fin _ _ _ _ _ _ _ s₁ (mkF m 35 #[.val (.int (2 : Int32)), .val (.int c1), .val (.int c2), .val (.int c3), .val (.int c4), .val (.int c5)] [])
  refine own_via (fun _ k => XS.iloadN X0.here hx rfl (hb hby own_d_3_35) rfl k) ?_
  show own_Fin _ _ _ _ _ _ _ s₁ (mkF m 36 #[.val (.int (2 : Int32)), .val (.int c1), .val (.int c2), .val (.int c3), .val (.int c4), .val (.int c5)] [(.int (2 : Int32))])
  refine own_via (fun _ k => XS.iconst X0.here hx rfl (hb hby own_d_3_36) k) ?_
  show own_Fin _ _ _ _ _ _ _ s₁ (mkF m 37 #[.val (.int (2 : Int32)), .val (.int c1), .val (.int c2), .val (.int c3), .val (.int c4), .val (.int c5)] [(.int (2 : Int32)), (.int (2 : Int32))])
  refine own_via (fun _ k => XS.icmpNo X0.here hx rfl (hb hby own_d_3_37) rfl (teq rfl).2 k) ?_
  show own_Fin _ _ _ _ _ _ _ s₁ (mkF m 40 #[.val (.int (2 : Int32)), .val (.int c1), .val (.int c2), .val (.int c3), .val (.int c4), .val (.int c5)] [])
  obtain ⟨T1_, h1_, X1_, e1_, E1_, A1_, D1_, -, st1_⟩ := newO X0 hx hZ hown (hw _ (List.mem_of_getElem? (i := 7) rfl)) (hw _ (List.mem_of_getElem? (i := 8) rfl)) (hw _ (List.mem_of_getElem? (i := 9) rfl)) e0 (g := (mkF m 40 #[.val (.int (2 : Int32)), .val (.int c1), .val (.int c2), .val (.int c3), .val (.int c4), .val (.int c5)] [])) rfl (hb hby own_d_3_40) (by decide) (by decide)
  obtain ⟨b1_, g1_⟩ : ∃ z, z = h0.size := ⟨_, rfl⟩
  rw [← g1_] at A1_ D1_ st1_
  have F2_ : Fld Z h1_ b1_ "java/lang/String" "value" "[B" .null := D1_ (Or.inr (hw _ (List.mem_of_getElem? (i := 23) rfl))) (ty := (.array .byte)) (by decide)
  have F3_ : Fld Z h1_ b1_ "java/lang/String" "coder" "B" (.int (0 : Int32)) := D1_ (Or.inr (hw _ (List.mem_of_getElem? (i := 24) rfl))) (ty := .byte) (by decide)
  refine own_via (fun _ k => st1_ _ k) ?_
  show own_Fin _ _ _ _ _ _ _ T1_ (mkF m 43 #[.val (.int (2 : Int32)), .val (.int c1), .val (.int c2), .val (.int c3), .val (.int c4), .val (.int c5)] [(.ref b1_)])
  refine own_via (fun _ k => XS.dup X1_.here hx rfl (hb hby own_d_3_43) rfl rfl k) ?_
  show own_Fin _ _ _ _ _ _ _ T1_ (mkF m 44 #[.val (.int (2 : Int32)), .val (.int c1), .val (.int c2), .val (.int c3), .val (.int c4), .val (.int c5)] [(.ref b1_), (.ref b1_)])
  refine own_via (fun _ k => XS.iconst X1_.here hx rfl (hb hby own_d_3_44) k) ?_
  show own_Fin _ _ _ _ _ _ _ T1_ (mkF m 45 #[.val (.int (2 : Int32)), .val (.int c1), .val (.int c2), .val (.int c3), .val (.int c4), .val (.int c5)] [(.int (2 : Int32)), (.ref b1_), (.ref b1_)])
  obtain ⟨T4_, h4_, k4_, X4_, e4_, E4_, A4_, st4_⟩ := newP X1_ hx hZ (hw _ (List.mem_of_getElem? (i := 10) rfl)) e1_ (g := (mkF m 45 #[.val (.int (2 : Int32)), .val (.int c1), .val (.int c2), .val (.int c3), .val (.int c4), .val (.int c5)] [(.int (2 : Int32)), (.ref b1_), (.ref b1_)])) rfl (hb hby own_d_3_45) rfl (by decide) (cap := 2) (by decide) (by decide) (by decide) (by decide)
  obtain ⟨b4_, g4_⟩ : ∃ z, z = h1_.size := ⟨_, rfl⟩
  rw [← g4_] at A4_ st4_
  have V4_ : Arv Z h4_ b4_ k4_ .char (2 : Int32) [(.int (0 : Int32)), (.int (0 : Int32))] (.int (0 : Int32)) := (Arv.new A4_ (by decide)).pad (pad_rep [] (.int (0 : Int32)) 2)
  refine own_via (fun _ k => st4_ _ k) ?_
  show own_Fin _ _ _ _ _ _ _ T4_ (mkF m 47 #[.val (.int (2 : Int32)), .val (.int c1), .val (.int c2), .val (.int c3), .val (.int c4), .val (.int c5)] [(.ref b4_), (.ref b1_), (.ref b1_)])
  refine own_via (fun _ k => XS.dup X4_.here hx rfl (hb hby own_d_3_47) rfl rfl k) ?_
  show own_Fin _ _ _ _ _ _ _ T4_ (mkF m 48 #[.val (.int (2 : Int32)), .val (.int c1), .val (.int c2), .val (.int c3), .val (.int c4), .val (.int c5)] [(.ref b4_), (.ref b4_), (.ref b1_), (.ref b1_)])
  refine own_via (fun _ k => XS.iconst X4_.here hx rfl (hb hby own_d_3_48) k) ?_
  show own_Fin _ _ _ _ _ _ _ T4_ (mkF m 49 #[.val (.int (2 : Int32)), .val (.int c1), .val (.int c2), .val (.int c3), .val (.int c4), .val (.int c5)] [(.int (0 : Int32)), (.ref b4_), (.ref b4_), (.ref b1_), (.ref b1_)])
  refine own_via (fun _ k => XS.iloadN X4_.here hx rfl (hb hby own_d_3_49) rfl k) ?_
  show own_Fin _ _ _ _ _ _ _ T4_ (mkF m 50 #[.val (.int (2 : Int32)), .val (.int c1), .val (.int c2), .val (.int c3), .val (.int c4), .val (.int c5)] [(.int c1), (.int (0 : Int32)), (.ref b4_), (.ref b4_), (.ref b1_), (.ref b1_)])
  obtain ⟨c5_, Ar5_, q5_, S5_, M5_, H5_, G5_⟩ := (id V4_)
  have hin5_ : ¬ ((0 : Int32) < 0 ∨ c5_.slots.size ≤ ((0 : Int32)).toNatClampNeg) := inb_of S5_ ⟨by decide, by decide⟩
  obtain ⟨T5_, h5_, X5_, e5_, W5_, st5_⟩ := stC X4_ hx hZ e4_ Ar5_ (j := (0 : Int32)) hin5_ (g := (mkF m 50 #[.val (.int (2 : Int32)), .val (.int c1), .val (.int c2), .val (.int c3), .val (.int c4), .val (.int c5)] [(.int c1), (.int (0 : Int32)), (.ref b4_), (.ref b4_), (.ref b1_), (.ref b1_)])) rfl rfl (hb hby own_d_3_50)
  have V5_ := Arv.set Ar5_ q5_ S5_ M5_ H5_ G5_ (fits_nar_char _) W5_ 0 rfl (Nat.le_of_ble_eq_true rfl)
  have U5_ : Arv Z h5_ b4_ k4_ .char (2 : Int32) ([(.int c1), (.int (0 : Int32))]) (.int (0 : Int32)) := by
    have hq := V5_
    rw [show nar .char c1 = c1 from (own_narc hc1)] at hq
    exact hq
  have g6_ : n0 ≤ b4_ := Nat.le_trans (Nat.le_trans Z0 E1_.1) (Nat.le_of_eq g4_.symm)
  have N5_ := Fr.snoc X5_ N0 g6_
  refine own_via (fun _ k => st5_ _ k) ?_
  show own_Fin _ _ _ _ _ _ _ T5_ (mkF m 51 #[.val (.int (2 : Int32)), .val (.int c1), .val (.int c2), .val (.int c3), .val (.int c4), .val (.int c5)] [(.ref b4_), (.ref b1_), (.ref b1_)])
  refine own_via (fun _ k => XS.dup X5_.here hx rfl (hb hby own_d_3_51) rfl rfl k) ?_
  show own_Fin _ _ _ _ _ _ _ T5_ (mkF m 52 #[.val (.int (2 : Int32)), .val (.int c1), .val (.int c2), .val (.int c3), .val (.int c4), .val (.int c5)] [(.ref b4_), (.ref b4_), (.ref b1_), (.ref b1_)])
  refine own_via (fun _ k => XS.iconst X5_.here hx rfl (hb hby own_d_3_52) k) ?_
  show own_Fin _ _ _ _ _ _ _ T5_ (mkF m 53 #[.val (.int (2 : Int32)), .val (.int c1), .val (.int c2), .val (.int c3), .val (.int c4), .val (.int c5)] [(.int (1 : Int32)), (.ref b4_), (.ref b4_), (.ref b1_), (.ref b1_)])
  refine own_via (fun _ k => XS.iloadN X5_.here hx rfl (hb hby own_d_3_53) rfl k) ?_
  show own_Fin _ _ _ _ _ _ _ T5_ (mkF m 54 #[.val (.int (2 : Int32)), .val (.int c1), .val (.int c2), .val (.int c3), .val (.int c4), .val (.int c5)] [(.int c2), (.int (1 : Int32)), (.ref b4_), (.ref b4_), (.ref b1_), (.ref b1_)])
  obtain ⟨c7_, Ar7_, q7_, S7_, M7_, H7_, G7_⟩ := (id U5_)
  have hin7_ : ¬ ((1 : Int32) < 0 ∨ c7_.slots.size ≤ ((1 : Int32)).toNatClampNeg) := inb_of S7_ ⟨by decide, by decide⟩
  obtain ⟨T7_, h7_, X7_, e7_, W7_, st7_⟩ := stC X5_ hx hZ e5_ Ar7_ (j := (1 : Int32)) hin7_ (g := (mkF m 54 #[.val (.int (2 : Int32)), .val (.int c1), .val (.int c2), .val (.int c3), .val (.int c4), .val (.int c5)] [(.int c2), (.int (1 : Int32)), (.ref b4_), (.ref b4_), (.ref b1_), (.ref b1_)])) rfl rfl (hb hby own_d_3_54)
  have V7_ := Arv.set Ar7_ q7_ S7_ M7_ H7_ G7_ (fits_nar_char _) W7_ 1 rfl (Nat.le_of_ble_eq_true rfl)
  have U7_ : Arv Z h7_ b4_ k4_ .char (2 : Int32) ([(.int c1), (.int c2)]) (.int (0 : Int32)) := by
    have hq := V7_
    rw [show nar .char c2 = c2 from (own_narc hc2)] at hq
    exact hq
  have N7_ := Fr.snoc X7_ N5_ g6_
  refine own_via (fun _ k => st7_ _ k) ?_
  show own_Fin _ _ _ _ _ _ _ T7_ (mkF m 55 #[.val (.int (2 : Int32)), .val (.int c1), .val (.int c2), .val (.int c3), .val (.int c4), .val (.int c5)] [(.ref b4_), (.ref b1_), (.ref b1_)])
  have g9_ : n0 ≤ b1_ := Nat.le_trans Z0 (Nat.le_of_eq g1_.symm)
  have q10_ : b1_ ≠ b4_ := Nat.ne_of_lt (Nat.lt_of_lt_of_le A1_.lt (Nat.le_of_eq g4_.symm))
  have f11_ := (((F2_.ext E4_).other W5_ (Or.inl q10_)).other W7_ (Or.inl q10_))
  have f12_ := (((F3_.ext E4_).other W5_ (Or.inl q10_)).other W7_ (Or.inl q10_))
  obtain ⟨_, _, ⟨T8_, L8_, k8_, n8_⟩, -, X8_, ⟨Lc8_, hQ8_, l8_, y8_, z8_⟩, st8_⟩ := X7_.specialBack hx (y := (⟨"java/lang/String", "<init>", "([C)V"⟩ : MethodName)) rfl hown (mvT hZ (hw _ (List.mem_of_getElem? (i := 11) rfl))) (mvT hZ (hw _ (List.mem_of_getElem? (i := 12) rfl))) (mvT hZ (hw _ (List.mem_of_getElem? (i := 13) rfl))) (by decide) (StrChars.Road.backV (W := 1) hZ own_hws (kI := 4) (hw _ (List.mem_of_getElem? (i := 8) rfl)) (cs := ([c1, c2] : List Int32)) (bs := ([c1, c2] : List Int32).map (fun c => c.toInt8.toInt32)) (n := 2) g9_ (Nat.le_trans Z0 (Nat.le_trans (Nat.le_trans (Nat.le_trans E1_.1 E4_.1) (Keep.of_wr W5_).1) (Keep.of_wr W7_).1)) (((A1_.ext E4_).wr W5_).wr W7_) f11_ f12_ U7_ (S1.ext ((((O0.ext E1_).ext E4_).wr W5_ g6_).wr W7_ g6_).2) P5 rfl rfl (by decide) (by decide) (own_lats2 hc1 hc2) rfl (by decide) (by decide)) (g := (mkF m 55 #[.val (.int (2 : Int32)), .val (.int c1), .val (.int c2), .val (.int c3), .val (.int c4), .val (.int c5)] [(.ref b4_), (.ref b1_), (.ref b1_)])) rfl (by rw [hml]; rfl) (Steps.refl _) (a := b1_) (argsL := [(.ref b4_)]) (rest := [(.ref b1_)]) (lenOf own_pd16 rfl) rfl (by show 2 * 0 + _ ≤ _; exact Nat.le_of_eq rfl) (hb hby own_d_3_55) (fun _ _ => ⟨rfl, e7_, (by decide : 0 + 1 + 1 + 1 ≤ _), (by decide : 0 + 4 + 2 + 2 ≤ _)⟩)
  dsimp only [Pt.U, Pt.locs, Pt.cells, Pt.slots] at X8_ l8_ y8_ z8_ st8_ hQ8_
  subst l8_ y8_ z8_
  obtain ⟨rfl, Nq8_, K8_, r15_, r16_, t13_, kb14_, r17_, r18_, r19_, r20_, r21_⟩ := hQ8_
  have N8_ := Fr.app N7_ Nq8_
  refine own_via (fun _ k => st8_.trans k) ?_
  show own_Fin _ _ _ _ _ _ _ T8_ (mkF m 58 #[.val (.int (2 : Int32)), .val (.int c1), .val (.int c2), .val (.int c3), .val (.int c4), .val (.int c5)] [(.ref b1_)])
  exact own_retA X8_ hx Bd.returns Bd.notSynchronized rfl rfl (hb hby own_d_3_58) rfl ⟨b1_, t13_, kb14_, rfl, N8_, ((((((Keep.refl h0 []).ext E1_).ext E4_).wr W5_ (Or.inr (Nat.le_trans E1_.1 (Nat.le_of_eq g4_.symm)))).wr W7_ (Or.inr (Nat.le_trans E1_.1 (Nat.le_of_eq g4_.symm)))).trans K8_ (allS (Or.inr (Nat.le_of_eq g1_.symm)) all0)), (Nat.le_of_eq g1_.symm), r15_, r16_, r20_, r21_⟩ (by decide) (by decide)
theorem own_d_3_59 : decode method_3_code 59 = .ok (.iload_n 0, 1) := by decide +kernel
theorem own_d_3_60 : decode method_3_code 60 = .ok (.iconst 3, 1) := by decide +kernel
theorem own_d_3_61 : decode method_3_code 61 = .ok (.if_icmp .ne 26, 3) := by decide +kernel
theorem own_d_3_64 : decode method_3_code 64 = .ok (.new 7, 3) := by decide +kernel
theorem own_d_3_67 : decode method_3_code 67 = .ok (.dup, 1) := by decide +kernel
theorem own_d_3_68 : decode method_3_code 68 = .ok (.iconst 3, 1) := by decide +kernel
theorem own_d_3_69 : decode method_3_code 69 = .ok (.newarray .char, 2) := by decide +kernel
theorem own_d_3_71 : decode method_3_code 71 = .ok (.dup, 1) := by decide +kernel
theorem own_d_3_72 : decode method_3_code 72 = .ok (.iconst 0, 1) := by decide +kernel
theorem own_d_3_73 : decode method_3_code 73 = .ok (.iload_n 1, 1) := by decide +kernel
theorem own_d_3_74 : decode method_3_code 74 = .ok (.castore, 1) := by decide +kernel
theorem own_d_3_75 : decode method_3_code 75 = .ok (.dup, 1) := by decide +kernel
theorem own_d_3_76 : decode method_3_code 76 = .ok (.iconst 1, 1) := by decide +kernel
theorem own_d_3_77 : decode method_3_code 77 = .ok (.iload_n 2, 1) := by decide +kernel
theorem own_d_3_78 : decode method_3_code 78 = .ok (.castore, 1) := by decide +kernel
theorem own_d_3_79 : decode method_3_code 79 = .ok (.dup, 1) := by decide +kernel
theorem own_d_3_80 : decode method_3_code 80 = .ok (.iconst 2, 1) := by decide +kernel
theorem own_d_3_81 : decode method_3_code 81 = .ok (.iload_n 3, 1) := by decide +kernel
theorem own_d_3_82 : decode method_3_code 82 = .ok (.castore, 1) := by decide +kernel
theorem own_d_3_83 : decode method_3_code 83 = .ok (.invokespecial 9, 3) := by decide +kernel
theorem own_d_3_86 : decode method_3_code 86 = .ok (.areturn, 1) := by decide +kernel
theorem own_ef_make3 (m : MethodId) (c1 : Int32) (c2 : Int32) (c3 : Int32) (c4 : Int32) (c5 : Int32) : entryFrame m #[(.int (3 : Int32)), (.int c1), (.int c2), (.int c3), (.int c4), (.int c5)] 6 = mkF m 0 #[.val (.int (3 : Int32)), .val (.int c1), .val (.int c2), .val (.int c3), .val (.int c4), .val (.int c5)] [] := by (first | (simp [entryFrame, mkF, argsToLocals, Value.category]; done) | rfl)
def own_Q_make3 (Z : State) (c1 : Int32) (c2 : Int32) (c3 : Int32) (c4 : Int32) (c5 : Int32) (cz : Int32) (h0 : Heap) (n0 : Nat) (vq : Option Value) (h : Heap) (Lq : List Loc) : Prop := ∃ (x : Addr) (t : Addr) (kt : ClassId), (vq = some (.ref x)) ∧ (Fr n0 Lq) ∧ (Keep h0 h []) ∧ (h0.size ≤ x) ∧ (Exa Z h x "java/lang/String") ∧ (Fld Z h x "java/lang/String" "coder" "B" (.int (0 : Int32))) ∧ (Fld Z h x "java/lang/String" "value" "[B" (.ref t)) ∧ (Arv Z h t kt .byte (3 : Int32) ([(.int (c1.toInt8.toInt32)), (.int (c2.toInt8.toInt32)), (.int (c3.toInt8.toInt32))]) (.int 0))
set_option maxRecDepth 65536 in
set_option maxHeartbeats 40000000 in
theorem own_rm_make3 (l : Launch) (Z : State) (a0 : Array Value) (hw : ∀ d ∈ tables_1, d.before a0 Z = true) (ws : List Jvm.Cond) (c1 : Int32) (c2 : Int32) (c3 : Int32) (c4 : Int32) (c5 : Int32) (cz : Int32) (h0 : Heap) (n0 : Nat) (Z0 : n0 ≤ h0.size) (O0 : Old Z n0 h0) (S1 : Sta Z Z.heap "java/lang/String" "COMPACT_STRINGS" "Z" (.int cz)) (P5 : ¬ cz = (0 : Int32)) (hc1 : own_lat c1) (hc2 : own_lat c2) (hc3 : own_lat c3) (hc4 : own_lat c4) (hc5 : own_lat c5) :
    MetFree l (⟨"com/example/dependency_container/dependencycontainer/BeanDefinitionIsPropertyPathPinLaw", "make", "(ICCCCC)Ljava/lang/String;"⟩ : MethodName) (head1 (Jvm.Cond.code (⟨"com/example/dependency_container/dependencycontainer/BeanDefinitionIsPropertyPathPinLaw", "make", "(ICCCCC)Ljava/lang/String;"⟩ : MethodName) method_3_code 6 (some (.object "java/lang/String")) :: ws) ({ frames := 4, cells := 3, slots := 10, locals := 66 } : Room)) (fun aq Uq => aq = #[(.int (3 : Int32)), (.int c1), (.int c2), (.int c3), (.int c4), (.int c5)] ∧ Z.Warmed39 Uq.vm ∧ Uq.heap = h0) (fun _ _ _ _ _ => True) (fun _ Uq oq Uq' => ∃ vq Lq, oq = .returned vq ∧ own_Q_make3 Z c1 c2 c3 c4 c5 cz h0 n0 vq Uq'.heap Lq ∧ FrameEnd Uq oq Uq' Lq ({ frames := 4, cells := 3, slots := 10, locals := 66 } : Room).cells ({ frames := 4, cells := 3, slots := 10, locals := 66 } : Room).slots) := by
  refine MetFree.of_bodySF (plainFor_of_name own_pn4) hisR ?_
  intro p e s m args below meth cde s₁ Bd hml0 hP hK
  obtain ⟨rfl, hZ, hh⟩ := hP
  have hx := Bd.exec
  have hby := Bd.bytes
  have hml : cde.maxLocals = 6 := hml0
  have hown : s.vm.findClass "com/example/dependency_container/dependencycontainer/BeanDefinitionIsPropertyPathPinLaw" = some m.cls := findClass_of_methodNamed Bd.named
  have hnm := (name_of_methodNamed Bd.named Bd.method).1
  have X0 : Stand p l e ({ frames := 4, cells := 3, slots := 10, locals := 66 } : Room) s m #[(.int (3 : Int32)), (.int c1), (.int c2), (.int c3), (.int c4), (.int c5)] below meth cde s₁ [] 0 0 := Stand.of_body Bd
  have e0 : s₁.heap = h0 := by rw [← hh, Bd.state]; rfl
  have N0 := Fr.nil n0
  show own_Fin p e s below (own_Q_make3 Z c1 c2 c3 c4 c5 cz h0 n0) ({ frames := 4, cells := 3, slots := 10, locals := 66 } : Room).cells ({ frames := 4, cells := 3, slots := 10, locals := 66 } : Room).slots s₁ (entryFrame m #[(.int (3 : Int32)), (.int c1), (.int c2), (.int c3), (.int c4), (.int c5)] 6)
  rw [own_ef_make3 m c1 c2 c3 c4 c5]
  have own_hws : ∀ d ∈ StrChars.Road.words, d.before a0 Z = true := fun d hd => hw d ((by decide +kernel : ∀ d ∈ StrChars.Road.words, d ∈ tables_1) d hd)
  refine own_via (fun _ k => XS.iloadN X0.here hx rfl (hb hby own_d_3_0) rfl k) ?_
  show own_Fin _ _ _ _ _ _ _ s₁ (mkF m 1 #[.val (.int (3 : Int32)), .val (.int c1), .val (.int c2), .val (.int c3), .val (.int c4), .val (.int c5)] [(.int (3 : Int32))])
  refine own_via (fun _ k => XS.ifYes X0.here hx rfl (pc0 := 1) (pc' := 15) rfl (hb hby own_d_3_1) rfl ((if0 _ _).trans (feq (by decide)).2) (by decide) (by decide) k) ?_
  show own_Fin _ _ _ _ _ _ _ s₁ (mkF m 15 #[.val (.int (3 : Int32)), .val (.int c1), .val (.int c2), .val (.int c3), .val (.int c4), .val (.int c5)] [])
  refine own_via (fun _ k => XS.iloadN X0.here hx rfl (hb hby own_d_3_15) rfl k) ?_
  show own_Fin _ _ _ _ _ _ _ s₁ (mkF m 16 #[.val (.int (3 : Int32)), .val (.int c1), .val (.int c2), .val (.int c3), .val (.int c4), .val (.int c5)] [(.int (3 : Int32))])
  refine own_via (fun _ k => XS.iconst X0.here hx rfl (hb hby own_d_3_16) k) ?_
  show own_Fin _ _ _ _ _ _ _ s₁ (mkF m 17 #[.val (.int (3 : Int32)), .val (.int c1), .val (.int c2), .val (.int c3), .val (.int c4), .val (.int c5)] [(.int (1 : Int32)), (.int (3 : Int32))])
  refine own_via (fun _ k => XS.icmpYes X0.here hx rfl (pc0 := 17) (pc' := 35) rfl (hb hby own_d_3_17) rfl (feq (by decide)).2 (by decide) (by decide) k) ?_
  show own_Fin _ _ _ _ _ _ _ s₁ (mkF m 35 #[.val (.int (3 : Int32)), .val (.int c1), .val (.int c2), .val (.int c3), .val (.int c4), .val (.int c5)] [])
  refine own_via (fun _ k => XS.iloadN X0.here hx rfl (hb hby own_d_3_35) rfl k) ?_
  show own_Fin _ _ _ _ _ _ _ s₁ (mkF m 36 #[.val (.int (3 : Int32)), .val (.int c1), .val (.int c2), .val (.int c3), .val (.int c4), .val (.int c5)] [(.int (3 : Int32))])
  refine own_via (fun _ k => XS.iconst X0.here hx rfl (hb hby own_d_3_36) k) ?_
  show own_Fin _ _ _ _ _ _ _ s₁ (mkF m 37 #[.val (.int (3 : Int32)), .val (.int c1), .val (.int c2), .val (.int c3), .val (.int c4), .val (.int c5)] [(.int (2 : Int32)), (.int (3 : Int32))])
  refine own_via (fun _ k => XS.icmpYes X0.here hx rfl (pc0 := 37) (pc' := 59) rfl (hb hby own_d_3_37) rfl (feq (by decide)).2 (by decide) (by decide) k) ?_
  show own_Fin _ _ _ _ _ _ _ s₁ (mkF m 59 #[.val (.int (3 : Int32)), .val (.int c1), .val (.int c2), .val (.int c3), .val (.int c4), .val (.int c5)] [])
  refine own_via (fun _ k => XS.iloadN X0.here hx rfl (hb hby own_d_3_59) rfl k) ?_
  show own_Fin _ _ _ _ _ _ _ s₁ (mkF m 60 #[.val (.int (3 : Int32)), .val (.int c1), .val (.int c2), .val (.int c3), .val (.int c4), .val (.int c5)] [(.int (3 : Int32))])
  refine own_via (fun _ k => XS.iconst X0.here hx rfl (hb hby own_d_3_60) k) ?_
  show own_Fin _ _ _ _ _ _ _ s₁ (mkF m 61 #[.val (.int (3 : Int32)), .val (.int c1), .val (.int c2), .val (.int c3), .val (.int c4), .val (.int c5)] [(.int (3 : Int32)), (.int (3 : Int32))])
  refine own_via (fun _ k => XS.icmpNo X0.here hx rfl (hb hby own_d_3_61) rfl (teq rfl).2 k) ?_
  show own_Fin _ _ _ _ _ _ _ s₁ (mkF m 64 #[.val (.int (3 : Int32)), .val (.int c1), .val (.int c2), .val (.int c3), .val (.int c4), .val (.int c5)] [])
  obtain ⟨T1_, h1_, X1_, e1_, E1_, A1_, D1_, -, st1_⟩ := newO X0 hx hZ hown (hw _ (List.mem_of_getElem? (i := 7) rfl)) (hw _ (List.mem_of_getElem? (i := 8) rfl)) (hw _ (List.mem_of_getElem? (i := 9) rfl)) e0 (g := (mkF m 64 #[.val (.int (3 : Int32)), .val (.int c1), .val (.int c2), .val (.int c3), .val (.int c4), .val (.int c5)] [])) rfl (hb hby own_d_3_64) (by decide) (by decide)
  obtain ⟨b1_, g1_⟩ : ∃ z, z = h0.size := ⟨_, rfl⟩
  rw [← g1_] at A1_ D1_ st1_
  have F2_ : Fld Z h1_ b1_ "java/lang/String" "value" "[B" .null := D1_ (Or.inr (hw _ (List.mem_of_getElem? (i := 23) rfl))) (ty := (.array .byte)) (by decide)
  have F3_ : Fld Z h1_ b1_ "java/lang/String" "coder" "B" (.int (0 : Int32)) := D1_ (Or.inr (hw _ (List.mem_of_getElem? (i := 24) rfl))) (ty := .byte) (by decide)
  refine own_via (fun _ k => st1_ _ k) ?_
  show own_Fin _ _ _ _ _ _ _ T1_ (mkF m 67 #[.val (.int (3 : Int32)), .val (.int c1), .val (.int c2), .val (.int c3), .val (.int c4), .val (.int c5)] [(.ref b1_)])
  refine own_via (fun _ k => XS.dup X1_.here hx rfl (hb hby own_d_3_67) rfl rfl k) ?_
  show own_Fin _ _ _ _ _ _ _ T1_ (mkF m 68 #[.val (.int (3 : Int32)), .val (.int c1), .val (.int c2), .val (.int c3), .val (.int c4), .val (.int c5)] [(.ref b1_), (.ref b1_)])
  refine own_via (fun _ k => XS.iconst X1_.here hx rfl (hb hby own_d_3_68) k) ?_
  show own_Fin _ _ _ _ _ _ _ T1_ (mkF m 69 #[.val (.int (3 : Int32)), .val (.int c1), .val (.int c2), .val (.int c3), .val (.int c4), .val (.int c5)] [(.int (3 : Int32)), (.ref b1_), (.ref b1_)])
  obtain ⟨T4_, h4_, k4_, X4_, e4_, E4_, A4_, st4_⟩ := newP X1_ hx hZ (hw _ (List.mem_of_getElem? (i := 10) rfl)) e1_ (g := (mkF m 69 #[.val (.int (3 : Int32)), .val (.int c1), .val (.int c2), .val (.int c3), .val (.int c4), .val (.int c5)] [(.int (3 : Int32)), (.ref b1_), (.ref b1_)])) rfl (hb hby own_d_3_69) rfl (by decide) (cap := 3) (by decide) (by decide) (by decide) (by decide)
  obtain ⟨b4_, g4_⟩ : ∃ z, z = h1_.size := ⟨_, rfl⟩
  rw [← g4_] at A4_ st4_
  have V4_ : Arv Z h4_ b4_ k4_ .char (3 : Int32) [(.int (0 : Int32)), (.int (0 : Int32)), (.int (0 : Int32))] (.int (0 : Int32)) := (Arv.new A4_ (by decide)).pad (pad_rep [] (.int (0 : Int32)) 3)
  refine own_via (fun _ k => st4_ _ k) ?_
  show own_Fin _ _ _ _ _ _ _ T4_ (mkF m 71 #[.val (.int (3 : Int32)), .val (.int c1), .val (.int c2), .val (.int c3), .val (.int c4), .val (.int c5)] [(.ref b4_), (.ref b1_), (.ref b1_)])
  refine own_via (fun _ k => XS.dup X4_.here hx rfl (hb hby own_d_3_71) rfl rfl k) ?_
  show own_Fin _ _ _ _ _ _ _ T4_ (mkF m 72 #[.val (.int (3 : Int32)), .val (.int c1), .val (.int c2), .val (.int c3), .val (.int c4), .val (.int c5)] [(.ref b4_), (.ref b4_), (.ref b1_), (.ref b1_)])
  refine own_via (fun _ k => XS.iconst X4_.here hx rfl (hb hby own_d_3_72) k) ?_
  show own_Fin _ _ _ _ _ _ _ T4_ (mkF m 73 #[.val (.int (3 : Int32)), .val (.int c1), .val (.int c2), .val (.int c3), .val (.int c4), .val (.int c5)] [(.int (0 : Int32)), (.ref b4_), (.ref b4_), (.ref b1_), (.ref b1_)])
  refine own_via (fun _ k => XS.iloadN X4_.here hx rfl (hb hby own_d_3_73) rfl k) ?_
  show own_Fin _ _ _ _ _ _ _ T4_ (mkF m 74 #[.val (.int (3 : Int32)), .val (.int c1), .val (.int c2), .val (.int c3), .val (.int c4), .val (.int c5)] [(.int c1), (.int (0 : Int32)), (.ref b4_), (.ref b4_), (.ref b1_), (.ref b1_)])
  obtain ⟨c5_, Ar5_, q5_, S5_, M5_, H5_, G5_⟩ := (id V4_)
  have hin5_ : ¬ ((0 : Int32) < 0 ∨ c5_.slots.size ≤ ((0 : Int32)).toNatClampNeg) := inb_of S5_ ⟨by decide, by decide⟩
  obtain ⟨T5_, h5_, X5_, e5_, W5_, st5_⟩ := stC X4_ hx hZ e4_ Ar5_ (j := (0 : Int32)) hin5_ (g := (mkF m 74 #[.val (.int (3 : Int32)), .val (.int c1), .val (.int c2), .val (.int c3), .val (.int c4), .val (.int c5)] [(.int c1), (.int (0 : Int32)), (.ref b4_), (.ref b4_), (.ref b1_), (.ref b1_)])) rfl rfl (hb hby own_d_3_74)
  have V5_ := Arv.set Ar5_ q5_ S5_ M5_ H5_ G5_ (fits_nar_char _) W5_ 0 rfl (Nat.le_of_ble_eq_true rfl)
  have U5_ : Arv Z h5_ b4_ k4_ .char (3 : Int32) ([(.int c1), (.int (0 : Int32)), (.int (0 : Int32))]) (.int (0 : Int32)) := by
    have hq := V5_
    rw [show nar .char c1 = c1 from (own_narc hc1)] at hq
    exact hq
  have g6_ : n0 ≤ b4_ := Nat.le_trans (Nat.le_trans Z0 E1_.1) (Nat.le_of_eq g4_.symm)
  have N5_ := Fr.snoc X5_ N0 g6_
  refine own_via (fun _ k => st5_ _ k) ?_
  show own_Fin _ _ _ _ _ _ _ T5_ (mkF m 75 #[.val (.int (3 : Int32)), .val (.int c1), .val (.int c2), .val (.int c3), .val (.int c4), .val (.int c5)] [(.ref b4_), (.ref b1_), (.ref b1_)])
  refine own_via (fun _ k => XS.dup X5_.here hx rfl (hb hby own_d_3_75) rfl rfl k) ?_
  show own_Fin _ _ _ _ _ _ _ T5_ (mkF m 76 #[.val (.int (3 : Int32)), .val (.int c1), .val (.int c2), .val (.int c3), .val (.int c4), .val (.int c5)] [(.ref b4_), (.ref b4_), (.ref b1_), (.ref b1_)])
  refine own_via (fun _ k => XS.iconst X5_.here hx rfl (hb hby own_d_3_76) k) ?_
  show own_Fin _ _ _ _ _ _ _ T5_ (mkF m 77 #[.val (.int (3 : Int32)), .val (.int c1), .val (.int c2), .val (.int c3), .val (.int c4), .val (.int c5)] [(.int (1 : Int32)), (.ref b4_), (.ref b4_), (.ref b1_), (.ref b1_)])
  refine own_via (fun _ k => XS.iloadN X5_.here hx rfl (hb hby own_d_3_77) rfl k) ?_
  show own_Fin _ _ _ _ _ _ _ T5_ (mkF m 78 #[.val (.int (3 : Int32)), .val (.int c1), .val (.int c2), .val (.int c3), .val (.int c4), .val (.int c5)] [(.int c2), (.int (1 : Int32)), (.ref b4_), (.ref b4_), (.ref b1_), (.ref b1_)])
  obtain ⟨c7_, Ar7_, q7_, S7_, M7_, H7_, G7_⟩ := (id U5_)
  have hin7_ : ¬ ((1 : Int32) < 0 ∨ c7_.slots.size ≤ ((1 : Int32)).toNatClampNeg) := inb_of S7_ ⟨by decide, by decide⟩
  obtain ⟨T7_, h7_, X7_, e7_, W7_, st7_⟩ := stC X5_ hx hZ e5_ Ar7_ (j := (1 : Int32)) hin7_ (g := (mkF m 78 #[.val (.int (3 : Int32)), .val (.int c1), .val (.int c2), .val (.int c3), .val (.int c4), .val (.int c5)] [(.int c2), (.int (1 : Int32)), (.ref b4_), (.ref b4_), (.ref b1_), (.ref b1_)])) rfl rfl (hb hby own_d_3_78)
  have V7_ := Arv.set Ar7_ q7_ S7_ M7_ H7_ G7_ (fits_nar_char _) W7_ 1 rfl (Nat.le_of_ble_eq_true rfl)
  have U7_ : Arv Z h7_ b4_ k4_ .char (3 : Int32) ([(.int c1), (.int c2), (.int (0 : Int32))]) (.int (0 : Int32)) := by
    have hq := V7_
    rw [show nar .char c2 = c2 from (own_narc hc2)] at hq
    exact hq
  have N7_ := Fr.snoc X7_ N5_ g6_
  refine own_via (fun _ k => st7_ _ k) ?_
  show own_Fin _ _ _ _ _ _ _ T7_ (mkF m 79 #[.val (.int (3 : Int32)), .val (.int c1), .val (.int c2), .val (.int c3), .val (.int c4), .val (.int c5)] [(.ref b4_), (.ref b1_), (.ref b1_)])
  refine own_via (fun _ k => XS.dup X7_.here hx rfl (hb hby own_d_3_79) rfl rfl k) ?_
  show own_Fin _ _ _ _ _ _ _ T7_ (mkF m 80 #[.val (.int (3 : Int32)), .val (.int c1), .val (.int c2), .val (.int c3), .val (.int c4), .val (.int c5)] [(.ref b4_), (.ref b4_), (.ref b1_), (.ref b1_)])
  refine own_via (fun _ k => XS.iconst X7_.here hx rfl (hb hby own_d_3_80) k) ?_
  show own_Fin _ _ _ _ _ _ _ T7_ (mkF m 81 #[.val (.int (3 : Int32)), .val (.int c1), .val (.int c2), .val (.int c3), .val (.int c4), .val (.int c5)] [(.int (2 : Int32)), (.ref b4_), (.ref b4_), (.ref b1_), (.ref b1_)])
  refine own_via (fun _ k => XS.iloadN X7_.here hx rfl (hb hby own_d_3_81) rfl k) ?_
  show own_Fin _ _ _ _ _ _ _ T7_ (mkF m 82 #[.val (.int (3 : Int32)), .val (.int c1), .val (.int c2), .val (.int c3), .val (.int c4), .val (.int c5)] [(.int c3), (.int (2 : Int32)), (.ref b4_), (.ref b4_), (.ref b1_), (.ref b1_)])
  obtain ⟨c8_, Ar8_, q8_, S8_, M8_, H8_, G8_⟩ := (id U7_)
  have hin8_ : ¬ ((2 : Int32) < 0 ∨ c8_.slots.size ≤ ((2 : Int32)).toNatClampNeg) := inb_of S8_ ⟨by decide, by decide⟩
  obtain ⟨T8_, h8_, X8_, e8_, W8_, st8_⟩ := stC X7_ hx hZ e7_ Ar8_ (j := (2 : Int32)) hin8_ (g := (mkF m 82 #[.val (.int (3 : Int32)), .val (.int c1), .val (.int c2), .val (.int c3), .val (.int c4), .val (.int c5)] [(.int c3), (.int (2 : Int32)), (.ref b4_), (.ref b4_), (.ref b1_), (.ref b1_)])) rfl rfl (hb hby own_d_3_82)
  have V8_ := Arv.set Ar8_ q8_ S8_ M8_ H8_ G8_ (fits_nar_char _) W8_ 2 rfl (Nat.le_of_ble_eq_true rfl)
  have U8_ : Arv Z h8_ b4_ k4_ .char (3 : Int32) ([(.int c1), (.int c2), (.int c3)]) (.int (0 : Int32)) := by
    have hq := V8_
    rw [show nar .char c3 = c3 from (own_narc hc3)] at hq
    exact hq
  have N8_ := Fr.snoc X8_ N7_ g6_
  refine own_via (fun _ k => st8_ _ k) ?_
  show own_Fin _ _ _ _ _ _ _ T8_ (mkF m 83 #[.val (.int (3 : Int32)), .val (.int c1), .val (.int c2), .val (.int c3), .val (.int c4), .val (.int c5)] [(.ref b4_), (.ref b1_), (.ref b1_)])
  have g10_ : n0 ≤ b1_ := Nat.le_trans Z0 (Nat.le_of_eq g1_.symm)
  have q11_ : b1_ ≠ b4_ := Nat.ne_of_lt (Nat.lt_of_lt_of_le A1_.lt (Nat.le_of_eq g4_.symm))
  have f12_ := ((((F2_.ext E4_).other W5_ (Or.inl q11_)).other W7_ (Or.inl q11_)).other W8_ (Or.inl q11_))
  have f13_ := ((((F3_.ext E4_).other W5_ (Or.inl q11_)).other W7_ (Or.inl q11_)).other W8_ (Or.inl q11_))
  have f14_ := (((((O0.ext E1_).ext E4_).wr W5_ g6_).wr W7_ g6_).wr W8_ g6_)
  obtain ⟨_, _, ⟨T9_, L9_, k9_, n9_⟩, -, X9_, ⟨Lc9_, hQ9_, l9_, y9_, z9_⟩, st9_⟩ := X8_.specialBack hx (y := (⟨"java/lang/String", "<init>", "([C)V"⟩ : MethodName)) rfl hown (mvT hZ (hw _ (List.mem_of_getElem? (i := 11) rfl))) (mvT hZ (hw _ (List.mem_of_getElem? (i := 12) rfl))) (mvT hZ (hw _ (List.mem_of_getElem? (i := 13) rfl))) (by decide) (StrChars.Road.backV (W := 1) hZ own_hws (kI := 4) (hw _ (List.mem_of_getElem? (i := 8) rfl)) (cs := ([c1, c2, c3] : List Int32)) (bs := ([c1, c2, c3] : List Int32).map (fun c => c.toInt8.toInt32)) (n := 3) g10_ (Nat.le_trans Z0 (Nat.le_trans (Nat.le_trans (Nat.le_trans (Nat.le_trans E1_.1 E4_.1) (Keep.of_wr W5_).1) (Keep.of_wr W7_).1) (Keep.of_wr W8_).1)) ((((A1_.ext E4_).wr W5_).wr W7_).wr W8_) f12_ f13_ U8_ (S1.ext f14_.2) P5 rfl rfl (by decide) (by decide) (own_lats3 hc1 hc2 hc3) rfl (by decide) (by decide)) (g := (mkF m 83 #[.val (.int (3 : Int32)), .val (.int c1), .val (.int c2), .val (.int c3), .val (.int c4), .val (.int c5)] [(.ref b4_), (.ref b1_), (.ref b1_)])) rfl (by rw [hml]; rfl) (Steps.refl _) (a := b1_) (argsL := [(.ref b4_)]) (rest := [(.ref b1_)]) (lenOf own_pd16 rfl) rfl (by show 2 * 0 + _ ≤ _; exact Nat.le_of_eq rfl) (hb hby own_d_3_83) (fun _ _ => ⟨rfl, e8_, (by decide : 0 + 1 + 1 + 1 ≤ _), (by decide : 0 + 4 + 3 + 3 ≤ _)⟩)
  dsimp only [Pt.U, Pt.locs, Pt.cells, Pt.slots] at X9_ l9_ y9_ z9_ st9_ hQ9_
  subst l9_ y9_ z9_
  obtain ⟨rfl, Nq9_, K9_, r17_, r18_, t15_, kb16_, r19_, r20_, r21_, r22_, r23_⟩ := hQ9_
  have N9_ := Fr.app N8_ Nq9_
  refine own_via (fun _ k => st9_.trans k) ?_
  show own_Fin _ _ _ _ _ _ _ T9_ (mkF m 86 #[.val (.int (3 : Int32)), .val (.int c1), .val (.int c2), .val (.int c3), .val (.int c4), .val (.int c5)] [(.ref b1_)])
  exact own_retA X9_ hx Bd.returns Bd.notSynchronized rfl rfl (hb hby own_d_3_86) rfl ⟨b1_, t15_, kb16_, rfl, N9_, (((((((Keep.refl h0 []).ext E1_).ext E4_).wr W5_ (Or.inr (Nat.le_trans E1_.1 (Nat.le_of_eq g4_.symm)))).wr W7_ (Or.inr (Nat.le_trans E1_.1 (Nat.le_of_eq g4_.symm)))).wr W8_ (Or.inr (Nat.le_trans E1_.1 (Nat.le_of_eq g4_.symm)))).trans K9_ (allS (Or.inr (Nat.le_of_eq g1_.symm)) all0)), (Nat.le_of_eq g1_.symm), r17_, r18_, r22_, r23_⟩ (by decide) (by decide)
theorem own_d_3_87 : decode method_3_code 87 = .ok (.iload_n 0, 1) := by decide +kernel
theorem own_d_3_88 : decode method_3_code 88 = .ok (.iconst 4, 1) := by decide +kernel
theorem own_d_3_89 : decode method_3_code 89 = .ok (.if_icmp .ne 31, 3) := by decide +kernel
theorem own_d_3_92 : decode method_3_code 92 = .ok (.new 7, 3) := by decide +kernel
theorem own_d_3_95 : decode method_3_code 95 = .ok (.dup, 1) := by decide +kernel
theorem own_d_3_96 : decode method_3_code 96 = .ok (.iconst 4, 1) := by decide +kernel
theorem own_d_3_97 : decode method_3_code 97 = .ok (.newarray .char, 2) := by decide +kernel
theorem own_d_3_99 : decode method_3_code 99 = .ok (.dup, 1) := by decide +kernel
theorem own_d_3_100 : decode method_3_code 100 = .ok (.iconst 0, 1) := by decide +kernel
theorem own_d_3_101 : decode method_3_code 101 = .ok (.iload_n 1, 1) := by decide +kernel
theorem own_d_3_102 : decode method_3_code 102 = .ok (.castore, 1) := by decide +kernel
theorem own_d_3_103 : decode method_3_code 103 = .ok (.dup, 1) := by decide +kernel
theorem own_d_3_104 : decode method_3_code 104 = .ok (.iconst 1, 1) := by decide +kernel
theorem own_d_3_105 : decode method_3_code 105 = .ok (.iload_n 2, 1) := by decide +kernel
theorem own_d_3_106 : decode method_3_code 106 = .ok (.castore, 1) := by decide +kernel
theorem own_d_3_107 : decode method_3_code 107 = .ok (.dup, 1) := by decide +kernel
theorem own_d_3_108 : decode method_3_code 108 = .ok (.iconst 2, 1) := by decide +kernel
theorem own_d_3_109 : decode method_3_code 109 = .ok (.iload_n 3, 1) := by decide +kernel
theorem own_d_3_110 : decode method_3_code 110 = .ok (.castore, 1) := by decide +kernel
theorem own_d_3_111 : decode method_3_code 111 = .ok (.dup, 1) := by decide +kernel
theorem own_d_3_112 : decode method_3_code 112 = .ok (.iconst 3, 1) := by decide +kernel
theorem own_d_3_113 : decode method_3_code 113 = .ok (.iload 4, 2) := by decide +kernel
theorem own_d_3_115 : decode method_3_code 115 = .ok (.castore, 1) := by decide +kernel
theorem own_d_3_116 : decode method_3_code 116 = .ok (.invokespecial 9, 3) := by decide +kernel
theorem own_d_3_119 : decode method_3_code 119 = .ok (.areturn, 1) := by decide +kernel
theorem own_ef_make4 (m : MethodId) (c1 : Int32) (c2 : Int32) (c3 : Int32) (c4 : Int32) (c5 : Int32) : entryFrame m #[(.int (4 : Int32)), (.int c1), (.int c2), (.int c3), (.int c4), (.int c5)] 6 = mkF m 0 #[.val (.int (4 : Int32)), .val (.int c1), .val (.int c2), .val (.int c3), .val (.int c4), .val (.int c5)] [] := by (first | (simp [entryFrame, mkF, argsToLocals, Value.category]; done) | rfl)
def own_Q_make4 (Z : State) (c1 : Int32) (c2 : Int32) (c3 : Int32) (c4 : Int32) (c5 : Int32) (cz : Int32) (h0 : Heap) (n0 : Nat) (vq : Option Value) (h : Heap) (Lq : List Loc) : Prop := ∃ (x : Addr) (t : Addr) (kt : ClassId), (vq = some (.ref x)) ∧ (Fr n0 Lq) ∧ (Keep h0 h []) ∧ (h0.size ≤ x) ∧ (Exa Z h x "java/lang/String") ∧ (Fld Z h x "java/lang/String" "coder" "B" (.int (0 : Int32))) ∧ (Fld Z h x "java/lang/String" "value" "[B" (.ref t)) ∧ (Arv Z h t kt .byte (4 : Int32) ([(.int (c1.toInt8.toInt32)), (.int (c2.toInt8.toInt32)), (.int (c3.toInt8.toInt32)), (.int (c4.toInt8.toInt32))]) (.int 0))
set_option maxRecDepth 65536 in
set_option maxHeartbeats 40000000 in
theorem own_rm_make4 (l : Launch) (Z : State) (a0 : Array Value) (hw : ∀ d ∈ tables_1, d.before a0 Z = true) (ws : List Jvm.Cond) (c1 : Int32) (c2 : Int32) (c3 : Int32) (c4 : Int32) (c5 : Int32) (cz : Int32) (h0 : Heap) (n0 : Nat) (Z0 : n0 ≤ h0.size) (O0 : Old Z n0 h0) (S1 : Sta Z Z.heap "java/lang/String" "COMPACT_STRINGS" "Z" (.int cz)) (P5 : ¬ cz = (0 : Int32)) (hc1 : own_lat c1) (hc2 : own_lat c2) (hc3 : own_lat c3) (hc4 : own_lat c4) (hc5 : own_lat c5) :
    MetFree l (⟨"com/example/dependency_container/dependencycontainer/BeanDefinitionIsPropertyPathPinLaw", "make", "(ICCCCC)Ljava/lang/String;"⟩ : MethodName) (head1 (Jvm.Cond.code (⟨"com/example/dependency_container/dependencycontainer/BeanDefinitionIsPropertyPathPinLaw", "make", "(ICCCCC)Ljava/lang/String;"⟩ : MethodName) method_3_code 6 (some (.object "java/lang/String")) :: ws) ({ frames := 4, cells := 3, slots := 12, locals := 66 } : Room)) (fun aq Uq => aq = #[(.int (4 : Int32)), (.int c1), (.int c2), (.int c3), (.int c4), (.int c5)] ∧ Z.Warmed39 Uq.vm ∧ Uq.heap = h0) (fun _ _ _ _ _ => True) (fun _ Uq oq Uq' => ∃ vq Lq, oq = .returned vq ∧ own_Q_make4 Z c1 c2 c3 c4 c5 cz h0 n0 vq Uq'.heap Lq ∧ FrameEnd Uq oq Uq' Lq ({ frames := 4, cells := 3, slots := 12, locals := 66 } : Room).cells ({ frames := 4, cells := 3, slots := 12, locals := 66 } : Room).slots) := by
  refine MetFree.of_bodySF (plainFor_of_name own_pn4) hisR ?_
  intro p e s m args below meth cde s₁ Bd hml0 hP hK
  obtain ⟨rfl, hZ, hh⟩ := hP
  have hx := Bd.exec
  have hby := Bd.bytes
  have hml : cde.maxLocals = 6 := hml0
  have hown : s.vm.findClass "com/example/dependency_container/dependencycontainer/BeanDefinitionIsPropertyPathPinLaw" = some m.cls := findClass_of_methodNamed Bd.named
  have hnm := (name_of_methodNamed Bd.named Bd.method).1
  have X0 : Stand p l e ({ frames := 4, cells := 3, slots := 12, locals := 66 } : Room) s m #[(.int (4 : Int32)), (.int c1), (.int c2), (.int c3), (.int c4), (.int c5)] below meth cde s₁ [] 0 0 := Stand.of_body Bd
  have e0 : s₁.heap = h0 := by rw [← hh, Bd.state]; rfl
  have N0 := Fr.nil n0
  show own_Fin p e s below (own_Q_make4 Z c1 c2 c3 c4 c5 cz h0 n0) ({ frames := 4, cells := 3, slots := 12, locals := 66 } : Room).cells ({ frames := 4, cells := 3, slots := 12, locals := 66 } : Room).slots s₁ (entryFrame m #[(.int (4 : Int32)), (.int c1), (.int c2), (.int c3), (.int c4), (.int c5)] 6)
  rw [own_ef_make4 m c1 c2 c3 c4 c5]
  have own_hws : ∀ d ∈ StrChars.Road.words, d.before a0 Z = true := fun d hd => hw d ((by decide +kernel : ∀ d ∈ StrChars.Road.words, d ∈ tables_1) d hd)
  refine own_via (fun _ k => XS.iloadN X0.here hx rfl (hb hby own_d_3_0) rfl k) ?_
  show own_Fin _ _ _ _ _ _ _ s₁ (mkF m 1 #[.val (.int (4 : Int32)), .val (.int c1), .val (.int c2), .val (.int c3), .val (.int c4), .val (.int c5)] [(.int (4 : Int32))])
  refine own_via (fun _ k => XS.ifYes X0.here hx rfl (pc0 := 1) (pc' := 15) rfl (hb hby own_d_3_1) rfl ((if0 _ _).trans (feq (by decide)).2) (by decide) (by decide) k) ?_
  show own_Fin _ _ _ _ _ _ _ s₁ (mkF m 15 #[.val (.int (4 : Int32)), .val (.int c1), .val (.int c2), .val (.int c3), .val (.int c4), .val (.int c5)] [])
  refine own_via (fun _ k => XS.iloadN X0.here hx rfl (hb hby own_d_3_15) rfl k) ?_
  show own_Fin _ _ _ _ _ _ _ s₁ (mkF m 16 #[.val (.int (4 : Int32)), .val (.int c1), .val (.int c2), .val (.int c3), .val (.int c4), .val (.int c5)] [(.int (4 : Int32))])
  refine own_via (fun _ k => XS.iconst X0.here hx rfl (hb hby own_d_3_16) k) ?_
  show own_Fin _ _ _ _ _ _ _ s₁ (mkF m 17 #[.val (.int (4 : Int32)), .val (.int c1), .val (.int c2), .val (.int c3), .val (.int c4), .val (.int c5)] [(.int (1 : Int32)), (.int (4 : Int32))])
  refine own_via (fun _ k => XS.icmpYes X0.here hx rfl (pc0 := 17) (pc' := 35) rfl (hb hby own_d_3_17) rfl (feq (by decide)).2 (by decide) (by decide) k) ?_
  show own_Fin _ _ _ _ _ _ _ s₁ (mkF m 35 #[.val (.int (4 : Int32)), .val (.int c1), .val (.int c2), .val (.int c3), .val (.int c4), .val (.int c5)] [])
  refine own_via (fun _ k => XS.iloadN X0.here hx rfl (hb hby own_d_3_35) rfl k) ?_
  show own_Fin _ _ _ _ _ _ _ s₁ (mkF m 36 #[.val (.int (4 : Int32)), .val (.int c1), .val (.int c2), .val (.int c3), .val (.int c4), .val (.int c5)] [(.int (4 : Int32))])
  refine own_via (fun _ k => XS.iconst X0.here hx rfl (hb hby own_d_3_36) k) ?_
  show own_Fin _ _ _ _ _ _ _ s₁ (mkF m 37 #[.val (.int (4 : Int32)), .val (.int c1), .val (.int c2), .val (.int c3), .val (.int c4), .val (.int c5)] [(.int (2 : Int32)), (.int (4 : Int32))])
  refine own_via (fun _ k => XS.icmpYes X0.here hx rfl (pc0 := 37) (pc' := 59) rfl (hb hby own_d_3_37) rfl (feq (by decide)).2 (by decide) (by decide) k) ?_
  show own_Fin _ _ _ _ _ _ _ s₁ (mkF m 59 #[.val (.int (4 : Int32)), .val (.int c1), .val (.int c2), .val (.int c3), .val (.int c4), .val (.int c5)] [])
  refine own_via (fun _ k => XS.iloadN X0.here hx rfl (hb hby own_d_3_59) rfl k) ?_
  show own_Fin _ _ _ _ _ _ _ s₁ (mkF m 60 #[.val (.int (4 : Int32)), .val (.int c1), .val (.int c2), .val (.int c3), .val (.int c4), .val (.int c5)] [(.int (4 : Int32))])
  refine own_via (fun _ k => XS.iconst X0.here hx rfl (hb hby own_d_3_60) k) ?_
  show own_Fin _ _ _ _ _ _ _ s₁ (mkF m 61 #[.val (.int (4 : Int32)), .val (.int c1), .val (.int c2), .val (.int c3), .val (.int c4), .val (.int c5)] [(.int (3 : Int32)), (.int (4 : Int32))])
  refine own_via (fun _ k => XS.icmpYes X0.here hx rfl (pc0 := 61) (pc' := 87) rfl (hb hby own_d_3_61) rfl (feq (by decide)).2 (by decide) (by decide) k) ?_
  show own_Fin _ _ _ _ _ _ _ s₁ (mkF m 87 #[.val (.int (4 : Int32)), .val (.int c1), .val (.int c2), .val (.int c3), .val (.int c4), .val (.int c5)] [])
  refine own_via (fun _ k => XS.iloadN X0.here hx rfl (hb hby own_d_3_87) rfl k) ?_
  show own_Fin _ _ _ _ _ _ _ s₁ (mkF m 88 #[.val (.int (4 : Int32)), .val (.int c1), .val (.int c2), .val (.int c3), .val (.int c4), .val (.int c5)] [(.int (4 : Int32))])
  refine own_via (fun _ k => XS.iconst X0.here hx rfl (hb hby own_d_3_88) k) ?_
  show own_Fin _ _ _ _ _ _ _ s₁ (mkF m 89 #[.val (.int (4 : Int32)), .val (.int c1), .val (.int c2), .val (.int c3), .val (.int c4), .val (.int c5)] [(.int (4 : Int32)), (.int (4 : Int32))])
  refine own_via (fun _ k => XS.icmpNo X0.here hx rfl (hb hby own_d_3_89) rfl (teq rfl).2 k) ?_
  show own_Fin _ _ _ _ _ _ _ s₁ (mkF m 92 #[.val (.int (4 : Int32)), .val (.int c1), .val (.int c2), .val (.int c3), .val (.int c4), .val (.int c5)] [])
  obtain ⟨T1_, h1_, X1_, e1_, E1_, A1_, D1_, -, st1_⟩ := newO X0 hx hZ hown (hw _ (List.mem_of_getElem? (i := 7) rfl)) (hw _ (List.mem_of_getElem? (i := 8) rfl)) (hw _ (List.mem_of_getElem? (i := 9) rfl)) e0 (g := (mkF m 92 #[.val (.int (4 : Int32)), .val (.int c1), .val (.int c2), .val (.int c3), .val (.int c4), .val (.int c5)] [])) rfl (hb hby own_d_3_92) (by decide) (by decide)
  obtain ⟨b1_, g1_⟩ : ∃ z, z = h0.size := ⟨_, rfl⟩
  rw [← g1_] at A1_ D1_ st1_
  have F2_ : Fld Z h1_ b1_ "java/lang/String" "value" "[B" .null := D1_ (Or.inr (hw _ (List.mem_of_getElem? (i := 23) rfl))) (ty := (.array .byte)) (by decide)
  have F3_ : Fld Z h1_ b1_ "java/lang/String" "coder" "B" (.int (0 : Int32)) := D1_ (Or.inr (hw _ (List.mem_of_getElem? (i := 24) rfl))) (ty := .byte) (by decide)
  refine own_via (fun _ k => st1_ _ k) ?_
  show own_Fin _ _ _ _ _ _ _ T1_ (mkF m 95 #[.val (.int (4 : Int32)), .val (.int c1), .val (.int c2), .val (.int c3), .val (.int c4), .val (.int c5)] [(.ref b1_)])
  refine own_via (fun _ k => XS.dup X1_.here hx rfl (hb hby own_d_3_95) rfl rfl k) ?_
  show own_Fin _ _ _ _ _ _ _ T1_ (mkF m 96 #[.val (.int (4 : Int32)), .val (.int c1), .val (.int c2), .val (.int c3), .val (.int c4), .val (.int c5)] [(.ref b1_), (.ref b1_)])
  refine own_via (fun _ k => XS.iconst X1_.here hx rfl (hb hby own_d_3_96) k) ?_
  show own_Fin _ _ _ _ _ _ _ T1_ (mkF m 97 #[.val (.int (4 : Int32)), .val (.int c1), .val (.int c2), .val (.int c3), .val (.int c4), .val (.int c5)] [(.int (4 : Int32)), (.ref b1_), (.ref b1_)])
  obtain ⟨T4_, h4_, k4_, X4_, e4_, E4_, A4_, st4_⟩ := newP X1_ hx hZ (hw _ (List.mem_of_getElem? (i := 10) rfl)) e1_ (g := (mkF m 97 #[.val (.int (4 : Int32)), .val (.int c1), .val (.int c2), .val (.int c3), .val (.int c4), .val (.int c5)] [(.int (4 : Int32)), (.ref b1_), (.ref b1_)])) rfl (hb hby own_d_3_97) rfl (by decide) (cap := 4) (by decide) (by decide) (by decide) (by decide)
  obtain ⟨b4_, g4_⟩ : ∃ z, z = h1_.size := ⟨_, rfl⟩
  rw [← g4_] at A4_ st4_
  have V4_ : Arv Z h4_ b4_ k4_ .char (4 : Int32) [(.int (0 : Int32)), (.int (0 : Int32)), (.int (0 : Int32)), (.int (0 : Int32))] (.int (0 : Int32)) := (Arv.new A4_ (by decide)).pad (pad_rep [] (.int (0 : Int32)) 4)
  refine own_via (fun _ k => st4_ _ k) ?_
  show own_Fin _ _ _ _ _ _ _ T4_ (mkF m 99 #[.val (.int (4 : Int32)), .val (.int c1), .val (.int c2), .val (.int c3), .val (.int c4), .val (.int c5)] [(.ref b4_), (.ref b1_), (.ref b1_)])
  refine own_via (fun _ k => XS.dup X4_.here hx rfl (hb hby own_d_3_99) rfl rfl k) ?_
  show own_Fin _ _ _ _ _ _ _ T4_ (mkF m 100 #[.val (.int (4 : Int32)), .val (.int c1), .val (.int c2), .val (.int c3), .val (.int c4), .val (.int c5)] [(.ref b4_), (.ref b4_), (.ref b1_), (.ref b1_)])
  refine own_via (fun _ k => XS.iconst X4_.here hx rfl (hb hby own_d_3_100) k) ?_
  show own_Fin _ _ _ _ _ _ _ T4_ (mkF m 101 #[.val (.int (4 : Int32)), .val (.int c1), .val (.int c2), .val (.int c3), .val (.int c4), .val (.int c5)] [(.int (0 : Int32)), (.ref b4_), (.ref b4_), (.ref b1_), (.ref b1_)])
  refine own_via (fun _ k => XS.iloadN X4_.here hx rfl (hb hby own_d_3_101) rfl k) ?_
  show own_Fin _ _ _ _ _ _ _ T4_ (mkF m 102 #[.val (.int (4 : Int32)), .val (.int c1), .val (.int c2), .val (.int c3), .val (.int c4), .val (.int c5)] [(.int c1), (.int (0 : Int32)), (.ref b4_), (.ref b4_), (.ref b1_), (.ref b1_)])
  obtain ⟨c5_, Ar5_, q5_, S5_, M5_, H5_, G5_⟩ := (id V4_)
  have hin5_ : ¬ ((0 : Int32) < 0 ∨ c5_.slots.size ≤ ((0 : Int32)).toNatClampNeg) := inb_of S5_ ⟨by decide, by decide⟩
  obtain ⟨T5_, h5_, X5_, e5_, W5_, st5_⟩ := stC X4_ hx hZ e4_ Ar5_ (j := (0 : Int32)) hin5_ (g := (mkF m 102 #[.val (.int (4 : Int32)), .val (.int c1), .val (.int c2), .val (.int c3), .val (.int c4), .val (.int c5)] [(.int c1), (.int (0 : Int32)), (.ref b4_), (.ref b4_), (.ref b1_), (.ref b1_)])) rfl rfl (hb hby own_d_3_102)
  have V5_ := Arv.set Ar5_ q5_ S5_ M5_ H5_ G5_ (fits_nar_char _) W5_ 0 rfl (Nat.le_of_ble_eq_true rfl)
  have U5_ : Arv Z h5_ b4_ k4_ .char (4 : Int32) ([(.int c1), (.int (0 : Int32)), (.int (0 : Int32)), (.int (0 : Int32))]) (.int (0 : Int32)) := by
    have hq := V5_
    rw [show nar .char c1 = c1 from (own_narc hc1)] at hq
    exact hq
  have g6_ : n0 ≤ b4_ := Nat.le_trans (Nat.le_trans Z0 E1_.1) (Nat.le_of_eq g4_.symm)
  have N5_ := Fr.snoc X5_ N0 g6_
  refine own_via (fun _ k => st5_ _ k) ?_
  show own_Fin _ _ _ _ _ _ _ T5_ (mkF m 103 #[.val (.int (4 : Int32)), .val (.int c1), .val (.int c2), .val (.int c3), .val (.int c4), .val (.int c5)] [(.ref b4_), (.ref b1_), (.ref b1_)])
  refine own_via (fun _ k => XS.dup X5_.here hx rfl (hb hby own_d_3_103) rfl rfl k) ?_
  show own_Fin _ _ _ _ _ _ _ T5_ (mkF m 104 #[.val (.int (4 : Int32)), .val (.int c1), .val (.int c2), .val (.int c3), .val (.int c4), .val (.int c5)] [(.ref b4_), (.ref b4_), (.ref b1_), (.ref b1_)])
  refine own_via (fun _ k => XS.iconst X5_.here hx rfl (hb hby own_d_3_104) k) ?_
  show own_Fin _ _ _ _ _ _ _ T5_ (mkF m 105 #[.val (.int (4 : Int32)), .val (.int c1), .val (.int c2), .val (.int c3), .val (.int c4), .val (.int c5)] [(.int (1 : Int32)), (.ref b4_), (.ref b4_), (.ref b1_), (.ref b1_)])
  refine own_via (fun _ k => XS.iloadN X5_.here hx rfl (hb hby own_d_3_105) rfl k) ?_
  show own_Fin _ _ _ _ _ _ _ T5_ (mkF m 106 #[.val (.int (4 : Int32)), .val (.int c1), .val (.int c2), .val (.int c3), .val (.int c4), .val (.int c5)] [(.int c2), (.int (1 : Int32)), (.ref b4_), (.ref b4_), (.ref b1_), (.ref b1_)])
  obtain ⟨c7_, Ar7_, q7_, S7_, M7_, H7_, G7_⟩ := (id U5_)
  have hin7_ : ¬ ((1 : Int32) < 0 ∨ c7_.slots.size ≤ ((1 : Int32)).toNatClampNeg) := inb_of S7_ ⟨by decide, by decide⟩
  obtain ⟨T7_, h7_, X7_, e7_, W7_, st7_⟩ := stC X5_ hx hZ e5_ Ar7_ (j := (1 : Int32)) hin7_ (g := (mkF m 106 #[.val (.int (4 : Int32)), .val (.int c1), .val (.int c2), .val (.int c3), .val (.int c4), .val (.int c5)] [(.int c2), (.int (1 : Int32)), (.ref b4_), (.ref b4_), (.ref b1_), (.ref b1_)])) rfl rfl (hb hby own_d_3_106)
  have V7_ := Arv.set Ar7_ q7_ S7_ M7_ H7_ G7_ (fits_nar_char _) W7_ 1 rfl (Nat.le_of_ble_eq_true rfl)
  have U7_ : Arv Z h7_ b4_ k4_ .char (4 : Int32) ([(.int c1), (.int c2), (.int (0 : Int32)), (.int (0 : Int32))]) (.int (0 : Int32)) := by
    have hq := V7_
    rw [show nar .char c2 = c2 from (own_narc hc2)] at hq
    exact hq
  have N7_ := Fr.snoc X7_ N5_ g6_
  refine own_via (fun _ k => st7_ _ k) ?_
  show own_Fin _ _ _ _ _ _ _ T7_ (mkF m 107 #[.val (.int (4 : Int32)), .val (.int c1), .val (.int c2), .val (.int c3), .val (.int c4), .val (.int c5)] [(.ref b4_), (.ref b1_), (.ref b1_)])
  refine own_via (fun _ k => XS.dup X7_.here hx rfl (hb hby own_d_3_107) rfl rfl k) ?_
  show own_Fin _ _ _ _ _ _ _ T7_ (mkF m 108 #[.val (.int (4 : Int32)), .val (.int c1), .val (.int c2), .val (.int c3), .val (.int c4), .val (.int c5)] [(.ref b4_), (.ref b4_), (.ref b1_), (.ref b1_)])
  refine own_via (fun _ k => XS.iconst X7_.here hx rfl (hb hby own_d_3_108) k) ?_
  show own_Fin _ _ _ _ _ _ _ T7_ (mkF m 109 #[.val (.int (4 : Int32)), .val (.int c1), .val (.int c2), .val (.int c3), .val (.int c4), .val (.int c5)] [(.int (2 : Int32)), (.ref b4_), (.ref b4_), (.ref b1_), (.ref b1_)])
  refine own_via (fun _ k => XS.iloadN X7_.here hx rfl (hb hby own_d_3_109) rfl k) ?_
  show own_Fin _ _ _ _ _ _ _ T7_ (mkF m 110 #[.val (.int (4 : Int32)), .val (.int c1), .val (.int c2), .val (.int c3), .val (.int c4), .val (.int c5)] [(.int c3), (.int (2 : Int32)), (.ref b4_), (.ref b4_), (.ref b1_), (.ref b1_)])
  obtain ⟨c8_, Ar8_, q8_, S8_, M8_, H8_, G8_⟩ := (id U7_)
  have hin8_ : ¬ ((2 : Int32) < 0 ∨ c8_.slots.size ≤ ((2 : Int32)).toNatClampNeg) := inb_of S8_ ⟨by decide, by decide⟩
  obtain ⟨T8_, h8_, X8_, e8_, W8_, st8_⟩ := stC X7_ hx hZ e7_ Ar8_ (j := (2 : Int32)) hin8_ (g := (mkF m 110 #[.val (.int (4 : Int32)), .val (.int c1), .val (.int c2), .val (.int c3), .val (.int c4), .val (.int c5)] [(.int c3), (.int (2 : Int32)), (.ref b4_), (.ref b4_), (.ref b1_), (.ref b1_)])) rfl rfl (hb hby own_d_3_110)
  have V8_ := Arv.set Ar8_ q8_ S8_ M8_ H8_ G8_ (fits_nar_char _) W8_ 2 rfl (Nat.le_of_ble_eq_true rfl)
  have U8_ : Arv Z h8_ b4_ k4_ .char (4 : Int32) ([(.int c1), (.int c2), (.int c3), (.int (0 : Int32))]) (.int (0 : Int32)) := by
    have hq := V8_
    rw [show nar .char c3 = c3 from (own_narc hc3)] at hq
    exact hq
  have N8_ := Fr.snoc X8_ N7_ g6_
  refine own_via (fun _ k => st8_ _ k) ?_
  show own_Fin _ _ _ _ _ _ _ T8_ (mkF m 111 #[.val (.int (4 : Int32)), .val (.int c1), .val (.int c2), .val (.int c3), .val (.int c4), .val (.int c5)] [(.ref b4_), (.ref b1_), (.ref b1_)])
  refine own_via (fun _ k => XS.dup X8_.here hx rfl (hb hby own_d_3_111) rfl rfl k) ?_
  show own_Fin _ _ _ _ _ _ _ T8_ (mkF m 112 #[.val (.int (4 : Int32)), .val (.int c1), .val (.int c2), .val (.int c3), .val (.int c4), .val (.int c5)] [(.ref b4_), (.ref b4_), (.ref b1_), (.ref b1_)])
  refine own_via (fun _ k => XS.iconst X8_.here hx rfl (hb hby own_d_3_112) k) ?_
  show own_Fin _ _ _ _ _ _ _ T8_ (mkF m 113 #[.val (.int (4 : Int32)), .val (.int c1), .val (.int c2), .val (.int c3), .val (.int c4), .val (.int c5)] [(.int (3 : Int32)), (.ref b4_), (.ref b4_), (.ref b1_), (.ref b1_)])
  refine own_via (fun _ k => XS.iload X8_.here hx rfl (hb hby own_d_3_113) rfl k) ?_
  show own_Fin _ _ _ _ _ _ _ T8_ (mkF m 115 #[.val (.int (4 : Int32)), .val (.int c1), .val (.int c2), .val (.int c3), .val (.int c4), .val (.int c5)] [(.int c4), (.int (3 : Int32)), (.ref b4_), (.ref b4_), (.ref b1_), (.ref b1_)])
  obtain ⟨c9_, Ar9_, q9_, S9_, M9_, H9_, G9_⟩ := (id U8_)
  have hin9_ : ¬ ((3 : Int32) < 0 ∨ c9_.slots.size ≤ ((3 : Int32)).toNatClampNeg) := inb_of S9_ ⟨by decide, by decide⟩
  obtain ⟨T9_, h9_, X9_, e9_, W9_, st9_⟩ := stC X8_ hx hZ e8_ Ar9_ (j := (3 : Int32)) hin9_ (g := (mkF m 115 #[.val (.int (4 : Int32)), .val (.int c1), .val (.int c2), .val (.int c3), .val (.int c4), .val (.int c5)] [(.int c4), (.int (3 : Int32)), (.ref b4_), (.ref b4_), (.ref b1_), (.ref b1_)])) rfl rfl (hb hby own_d_3_115)
  have V9_ := Arv.set Ar9_ q9_ S9_ M9_ H9_ G9_ (fits_nar_char _) W9_ 3 rfl (Nat.le_of_ble_eq_true rfl)
  have U9_ : Arv Z h9_ b4_ k4_ .char (4 : Int32) ([(.int c1), (.int c2), (.int c3), (.int c4)]) (.int (0 : Int32)) := by
    have hq := V9_
    rw [show nar .char c4 = c4 from (own_narc hc4)] at hq
    exact hq
  have N9_ := Fr.snoc X9_ N8_ g6_
  refine own_via (fun _ k => st9_ _ k) ?_
  show own_Fin _ _ _ _ _ _ _ T9_ (mkF m 116 #[.val (.int (4 : Int32)), .val (.int c1), .val (.int c2), .val (.int c3), .val (.int c4), .val (.int c5)] [(.ref b4_), (.ref b1_), (.ref b1_)])
  have g11_ : n0 ≤ b1_ := Nat.le_trans Z0 (Nat.le_of_eq g1_.symm)
  have q12_ : b1_ ≠ b4_ := Nat.ne_of_lt (Nat.lt_of_lt_of_le A1_.lt (Nat.le_of_eq g4_.symm))
  have f13_ := (((((F2_.ext E4_).other W5_ (Or.inl q12_)).other W7_ (Or.inl q12_)).other W8_ (Or.inl q12_)).other W9_ (Or.inl q12_))
  have f14_ := (((((F3_.ext E4_).other W5_ (Or.inl q12_)).other W7_ (Or.inl q12_)).other W8_ (Or.inl q12_)).other W9_ (Or.inl q12_))
  have f15_ := ((((((O0.ext E1_).ext E4_).wr W5_ g6_).wr W7_ g6_).wr W8_ g6_).wr W9_ g6_)
  obtain ⟨_, _, ⟨T10_, L10_, k10_, n10_⟩, -, X10_, ⟨Lc10_, hQ10_, l10_, y10_, z10_⟩, st10_⟩ := X9_.specialBack hx (y := (⟨"java/lang/String", "<init>", "([C)V"⟩ : MethodName)) rfl hown (mvT hZ (hw _ (List.mem_of_getElem? (i := 11) rfl))) (mvT hZ (hw _ (List.mem_of_getElem? (i := 12) rfl))) (mvT hZ (hw _ (List.mem_of_getElem? (i := 13) rfl))) (by decide) (StrChars.Road.backV (W := 1) hZ own_hws (kI := 4) (hw _ (List.mem_of_getElem? (i := 8) rfl)) (cs := ([c1, c2, c3, c4] : List Int32)) (bs := ([c1, c2, c3, c4] : List Int32).map (fun c => c.toInt8.toInt32)) (n := 4) g11_ (Nat.le_trans Z0 (Nat.le_trans (Nat.le_trans (Nat.le_trans (Nat.le_trans (Nat.le_trans E1_.1 E4_.1) (Keep.of_wr W5_).1) (Keep.of_wr W7_).1) (Keep.of_wr W8_).1) (Keep.of_wr W9_).1)) (((((A1_.ext E4_).wr W5_).wr W7_).wr W8_).wr W9_) f13_ f14_ U9_ (S1.ext f15_.2) P5 rfl rfl (by decide) (by decide) (own_lats4 hc1 hc2 hc3 hc4) rfl (by decide) (by decide)) (g := (mkF m 116 #[.val (.int (4 : Int32)), .val (.int c1), .val (.int c2), .val (.int c3), .val (.int c4), .val (.int c5)] [(.ref b4_), (.ref b1_), (.ref b1_)])) rfl (by rw [hml]; rfl) (Steps.refl _) (a := b1_) (argsL := [(.ref b4_)]) (rest := [(.ref b1_)]) (lenOf own_pd16 rfl) rfl (by show 2 * 0 + _ ≤ _; exact Nat.le_of_eq rfl) (hb hby own_d_3_116) (fun _ _ => ⟨rfl, e9_, (by decide : 0 + 1 + 1 + 1 ≤ _), (by decide : 0 + 4 + 4 + 4 ≤ _)⟩)
  dsimp only [Pt.U, Pt.locs, Pt.cells, Pt.slots] at X10_ l10_ y10_ z10_ st10_ hQ10_
  subst l10_ y10_ z10_
  obtain ⟨rfl, Nq10_, K10_, r18_, r19_, t16_, kb17_, r20_, r21_, r22_, r23_, r24_⟩ := hQ10_
  have N10_ := Fr.app N9_ Nq10_
  refine own_via (fun _ k => st10_.trans k) ?_
  show own_Fin _ _ _ _ _ _ _ T10_ (mkF m 119 #[.val (.int (4 : Int32)), .val (.int c1), .val (.int c2), .val (.int c3), .val (.int c4), .val (.int c5)] [(.ref b1_)])
  exact own_retA X10_ hx Bd.returns Bd.notSynchronized rfl rfl (hb hby own_d_3_119) rfl ⟨b1_, t16_, kb17_, rfl, N10_, ((((((((Keep.refl h0 []).ext E1_).ext E4_).wr W5_ (Or.inr (Nat.le_trans E1_.1 (Nat.le_of_eq g4_.symm)))).wr W7_ (Or.inr (Nat.le_trans E1_.1 (Nat.le_of_eq g4_.symm)))).wr W8_ (Or.inr (Nat.le_trans E1_.1 (Nat.le_of_eq g4_.symm)))).wr W9_ (Or.inr (Nat.le_trans E1_.1 (Nat.le_of_eq g4_.symm)))).trans K10_ (allS (Or.inr (Nat.le_of_eq g1_.symm)) all0)), (Nat.le_of_eq g1_.symm), r18_, r19_, r23_, r24_⟩ (by decide) (by decide)
theorem own_d_3_120 : decode method_3_code 120 = .ok (.new 7, 3) := by decide +kernel
theorem own_d_3_123 : decode method_3_code 123 = .ok (.dup, 1) := by decide +kernel
theorem own_d_3_124 : decode method_3_code 124 = .ok (.iconst 5, 1) := by decide +kernel
theorem own_d_3_125 : decode method_3_code 125 = .ok (.newarray .char, 2) := by decide +kernel
theorem own_d_3_127 : decode method_3_code 127 = .ok (.dup, 1) := by decide +kernel
theorem own_d_3_128 : decode method_3_code 128 = .ok (.iconst 0, 1) := by decide +kernel
theorem own_d_3_129 : decode method_3_code 129 = .ok (.iload_n 1, 1) := by decide +kernel
theorem own_d_3_130 : decode method_3_code 130 = .ok (.castore, 1) := by decide +kernel
theorem own_d_3_131 : decode method_3_code 131 = .ok (.dup, 1) := by decide +kernel
theorem own_d_3_132 : decode method_3_code 132 = .ok (.iconst 1, 1) := by decide +kernel
theorem own_d_3_133 : decode method_3_code 133 = .ok (.iload_n 2, 1) := by decide +kernel
theorem own_d_3_134 : decode method_3_code 134 = .ok (.castore, 1) := by decide +kernel
theorem own_d_3_135 : decode method_3_code 135 = .ok (.dup, 1) := by decide +kernel
theorem own_d_3_136 : decode method_3_code 136 = .ok (.iconst 2, 1) := by decide +kernel
theorem own_d_3_137 : decode method_3_code 137 = .ok (.iload_n 3, 1) := by decide +kernel
theorem own_d_3_138 : decode method_3_code 138 = .ok (.castore, 1) := by decide +kernel
theorem own_d_3_139 : decode method_3_code 139 = .ok (.dup, 1) := by decide +kernel
theorem own_d_3_140 : decode method_3_code 140 = .ok (.iconst 3, 1) := by decide +kernel
theorem own_d_3_141 : decode method_3_code 141 = .ok (.iload 4, 2) := by decide +kernel
theorem own_d_3_143 : decode method_3_code 143 = .ok (.castore, 1) := by decide +kernel
theorem own_d_3_144 : decode method_3_code 144 = .ok (.dup, 1) := by decide +kernel
theorem own_d_3_145 : decode method_3_code 145 = .ok (.iconst 4, 1) := by decide +kernel
theorem own_d_3_146 : decode method_3_code 146 = .ok (.iload 5, 2) := by decide +kernel
theorem own_d_3_148 : decode method_3_code 148 = .ok (.castore, 1) := by decide +kernel
theorem own_d_3_149 : decode method_3_code 149 = .ok (.invokespecial 9, 3) := by decide +kernel
theorem own_d_3_152 : decode method_3_code 152 = .ok (.areturn, 1) := by decide +kernel
theorem own_ef_make5 (m : MethodId) (c1 : Int32) (c2 : Int32) (c3 : Int32) (c4 : Int32) (c5 : Int32) : entryFrame m #[(.int (5 : Int32)), (.int c1), (.int c2), (.int c3), (.int c4), (.int c5)] 6 = mkF m 0 #[.val (.int (5 : Int32)), .val (.int c1), .val (.int c2), .val (.int c3), .val (.int c4), .val (.int c5)] [] := by (first | (simp [entryFrame, mkF, argsToLocals, Value.category]; done) | rfl)
def own_Q_make5 (Z : State) (c1 : Int32) (c2 : Int32) (c3 : Int32) (c4 : Int32) (c5 : Int32) (cz : Int32) (h0 : Heap) (n0 : Nat) (vq : Option Value) (h : Heap) (Lq : List Loc) : Prop := ∃ (x : Addr) (t : Addr) (kt : ClassId), (vq = some (.ref x)) ∧ (Fr n0 Lq) ∧ (Keep h0 h []) ∧ (h0.size ≤ x) ∧ (Exa Z h x "java/lang/String") ∧ (Fld Z h x "java/lang/String" "coder" "B" (.int (0 : Int32))) ∧ (Fld Z h x "java/lang/String" "value" "[B" (.ref t)) ∧ (Arv Z h t kt .byte (5 : Int32) ([(.int (c1.toInt8.toInt32)), (.int (c2.toInt8.toInt32)), (.int (c3.toInt8.toInt32)), (.int (c4.toInt8.toInt32)), (.int (c5.toInt8.toInt32))]) (.int 0))
set_option maxRecDepth 65536 in
set_option maxHeartbeats 40000000 in
theorem own_rm_make5 (l : Launch) (Z : State) (a0 : Array Value) (hw : ∀ d ∈ tables_1, d.before a0 Z = true) (ws : List Jvm.Cond) (c1 : Int32) (c2 : Int32) (c3 : Int32) (c4 : Int32) (c5 : Int32) (cz : Int32) (h0 : Heap) (n0 : Nat) (Z0 : n0 ≤ h0.size) (O0 : Old Z n0 h0) (S1 : Sta Z Z.heap "java/lang/String" "COMPACT_STRINGS" "Z" (.int cz)) (P5 : ¬ cz = (0 : Int32)) (hc1 : own_lat c1) (hc2 : own_lat c2) (hc3 : own_lat c3) (hc4 : own_lat c4) (hc5 : own_lat c5) :
    MetFree l (⟨"com/example/dependency_container/dependencycontainer/BeanDefinitionIsPropertyPathPinLaw", "make", "(ICCCCC)Ljava/lang/String;"⟩ : MethodName) (head1 (Jvm.Cond.code (⟨"com/example/dependency_container/dependencycontainer/BeanDefinitionIsPropertyPathPinLaw", "make", "(ICCCCC)Ljava/lang/String;"⟩ : MethodName) method_3_code 6 (some (.object "java/lang/String")) :: ws) ({ frames := 4, cells := 3, slots := 14, locals := 66 } : Room)) (fun aq Uq => aq = #[(.int (5 : Int32)), (.int c1), (.int c2), (.int c3), (.int c4), (.int c5)] ∧ Z.Warmed39 Uq.vm ∧ Uq.heap = h0) (fun _ _ _ _ _ => True) (fun _ Uq oq Uq' => ∃ vq Lq, oq = .returned vq ∧ own_Q_make5 Z c1 c2 c3 c4 c5 cz h0 n0 vq Uq'.heap Lq ∧ FrameEnd Uq oq Uq' Lq ({ frames := 4, cells := 3, slots := 14, locals := 66 } : Room).cells ({ frames := 4, cells := 3, slots := 14, locals := 66 } : Room).slots) := by
  refine MetFree.of_bodySF (plainFor_of_name own_pn4) hisR ?_
  intro p e s m args below meth cde s₁ Bd hml0 hP hK
  obtain ⟨rfl, hZ, hh⟩ := hP
  have hx := Bd.exec
  have hby := Bd.bytes
  have hml : cde.maxLocals = 6 := hml0
  have hown : s.vm.findClass "com/example/dependency_container/dependencycontainer/BeanDefinitionIsPropertyPathPinLaw" = some m.cls := findClass_of_methodNamed Bd.named
  have hnm := (name_of_methodNamed Bd.named Bd.method).1
  have X0 : Stand p l e ({ frames := 4, cells := 3, slots := 14, locals := 66 } : Room) s m #[(.int (5 : Int32)), (.int c1), (.int c2), (.int c3), (.int c4), (.int c5)] below meth cde s₁ [] 0 0 := Stand.of_body Bd
  have e0 : s₁.heap = h0 := by rw [← hh, Bd.state]; rfl
  have N0 := Fr.nil n0
  show own_Fin p e s below (own_Q_make5 Z c1 c2 c3 c4 c5 cz h0 n0) ({ frames := 4, cells := 3, slots := 14, locals := 66 } : Room).cells ({ frames := 4, cells := 3, slots := 14, locals := 66 } : Room).slots s₁ (entryFrame m #[(.int (5 : Int32)), (.int c1), (.int c2), (.int c3), (.int c4), (.int c5)] 6)
  rw [own_ef_make5 m c1 c2 c3 c4 c5]
  have own_hws : ∀ d ∈ StrChars.Road.words, d.before a0 Z = true := fun d hd => hw d ((by decide +kernel : ∀ d ∈ StrChars.Road.words, d ∈ tables_1) d hd)
  refine own_via (fun _ k => XS.iloadN X0.here hx rfl (hb hby own_d_3_0) rfl k) ?_
  show own_Fin _ _ _ _ _ _ _ s₁ (mkF m 1 #[.val (.int (5 : Int32)), .val (.int c1), .val (.int c2), .val (.int c3), .val (.int c4), .val (.int c5)] [(.int (5 : Int32))])
  refine own_via (fun _ k => XS.ifYes X0.here hx rfl (pc0 := 1) (pc' := 15) rfl (hb hby own_d_3_1) rfl ((if0 _ _).trans (feq (by decide)).2) (by decide) (by decide) k) ?_
  show own_Fin _ _ _ _ _ _ _ s₁ (mkF m 15 #[.val (.int (5 : Int32)), .val (.int c1), .val (.int c2), .val (.int c3), .val (.int c4), .val (.int c5)] [])
  refine own_via (fun _ k => XS.iloadN X0.here hx rfl (hb hby own_d_3_15) rfl k) ?_
  show own_Fin _ _ _ _ _ _ _ s₁ (mkF m 16 #[.val (.int (5 : Int32)), .val (.int c1), .val (.int c2), .val (.int c3), .val (.int c4), .val (.int c5)] [(.int (5 : Int32))])
  refine own_via (fun _ k => XS.iconst X0.here hx rfl (hb hby own_d_3_16) k) ?_
  show own_Fin _ _ _ _ _ _ _ s₁ (mkF m 17 #[.val (.int (5 : Int32)), .val (.int c1), .val (.int c2), .val (.int c3), .val (.int c4), .val (.int c5)] [(.int (1 : Int32)), (.int (5 : Int32))])
  refine own_via (fun _ k => XS.icmpYes X0.here hx rfl (pc0 := 17) (pc' := 35) rfl (hb hby own_d_3_17) rfl (feq (by decide)).2 (by decide) (by decide) k) ?_
  show own_Fin _ _ _ _ _ _ _ s₁ (mkF m 35 #[.val (.int (5 : Int32)), .val (.int c1), .val (.int c2), .val (.int c3), .val (.int c4), .val (.int c5)] [])
  refine own_via (fun _ k => XS.iloadN X0.here hx rfl (hb hby own_d_3_35) rfl k) ?_
  show own_Fin _ _ _ _ _ _ _ s₁ (mkF m 36 #[.val (.int (5 : Int32)), .val (.int c1), .val (.int c2), .val (.int c3), .val (.int c4), .val (.int c5)] [(.int (5 : Int32))])
  refine own_via (fun _ k => XS.iconst X0.here hx rfl (hb hby own_d_3_36) k) ?_
  show own_Fin _ _ _ _ _ _ _ s₁ (mkF m 37 #[.val (.int (5 : Int32)), .val (.int c1), .val (.int c2), .val (.int c3), .val (.int c4), .val (.int c5)] [(.int (2 : Int32)), (.int (5 : Int32))])
  refine own_via (fun _ k => XS.icmpYes X0.here hx rfl (pc0 := 37) (pc' := 59) rfl (hb hby own_d_3_37) rfl (feq (by decide)).2 (by decide) (by decide) k) ?_
  show own_Fin _ _ _ _ _ _ _ s₁ (mkF m 59 #[.val (.int (5 : Int32)), .val (.int c1), .val (.int c2), .val (.int c3), .val (.int c4), .val (.int c5)] [])
  refine own_via (fun _ k => XS.iloadN X0.here hx rfl (hb hby own_d_3_59) rfl k) ?_
  show own_Fin _ _ _ _ _ _ _ s₁ (mkF m 60 #[.val (.int (5 : Int32)), .val (.int c1), .val (.int c2), .val (.int c3), .val (.int c4), .val (.int c5)] [(.int (5 : Int32))])
  refine own_via (fun _ k => XS.iconst X0.here hx rfl (hb hby own_d_3_60) k) ?_
  show own_Fin _ _ _ _ _ _ _ s₁ (mkF m 61 #[.val (.int (5 : Int32)), .val (.int c1), .val (.int c2), .val (.int c3), .val (.int c4), .val (.int c5)] [(.int (3 : Int32)), (.int (5 : Int32))])
  refine own_via (fun _ k => XS.icmpYes X0.here hx rfl (pc0 := 61) (pc' := 87) rfl (hb hby own_d_3_61) rfl (feq (by decide)).2 (by decide) (by decide) k) ?_
  show own_Fin _ _ _ _ _ _ _ s₁ (mkF m 87 #[.val (.int (5 : Int32)), .val (.int c1), .val (.int c2), .val (.int c3), .val (.int c4), .val (.int c5)] [])
  refine own_via (fun _ k => XS.iloadN X0.here hx rfl (hb hby own_d_3_87) rfl k) ?_
  show own_Fin _ _ _ _ _ _ _ s₁ (mkF m 88 #[.val (.int (5 : Int32)), .val (.int c1), .val (.int c2), .val (.int c3), .val (.int c4), .val (.int c5)] [(.int (5 : Int32))])
  refine own_via (fun _ k => XS.iconst X0.here hx rfl (hb hby own_d_3_88) k) ?_
  show own_Fin _ _ _ _ _ _ _ s₁ (mkF m 89 #[.val (.int (5 : Int32)), .val (.int c1), .val (.int c2), .val (.int c3), .val (.int c4), .val (.int c5)] [(.int (4 : Int32)), (.int (5 : Int32))])
  refine own_via (fun _ k => XS.icmpYes X0.here hx rfl (pc0 := 89) (pc' := 120) rfl (hb hby own_d_3_89) rfl (feq (by decide)).2 (by decide) (by decide) k) ?_
  show own_Fin _ _ _ _ _ _ _ s₁ (mkF m 120 #[.val (.int (5 : Int32)), .val (.int c1), .val (.int c2), .val (.int c3), .val (.int c4), .val (.int c5)] [])
  obtain ⟨T1_, h1_, X1_, e1_, E1_, A1_, D1_, -, st1_⟩ := newO X0 hx hZ hown (hw _ (List.mem_of_getElem? (i := 7) rfl)) (hw _ (List.mem_of_getElem? (i := 8) rfl)) (hw _ (List.mem_of_getElem? (i := 9) rfl)) e0 (g := (mkF m 120 #[.val (.int (5 : Int32)), .val (.int c1), .val (.int c2), .val (.int c3), .val (.int c4), .val (.int c5)] [])) rfl (hb hby own_d_3_120) (by decide) (by decide)
  obtain ⟨b1_, g1_⟩ : ∃ z, z = h0.size := ⟨_, rfl⟩
  rw [← g1_] at A1_ D1_ st1_
  have F2_ : Fld Z h1_ b1_ "java/lang/String" "value" "[B" .null := D1_ (Or.inr (hw _ (List.mem_of_getElem? (i := 23) rfl))) (ty := (.array .byte)) (by decide)
  have F3_ : Fld Z h1_ b1_ "java/lang/String" "coder" "B" (.int (0 : Int32)) := D1_ (Or.inr (hw _ (List.mem_of_getElem? (i := 24) rfl))) (ty := .byte) (by decide)
  refine own_via (fun _ k => st1_ _ k) ?_
  show own_Fin _ _ _ _ _ _ _ T1_ (mkF m 123 #[.val (.int (5 : Int32)), .val (.int c1), .val (.int c2), .val (.int c3), .val (.int c4), .val (.int c5)] [(.ref b1_)])
  refine own_via (fun _ k => XS.dup X1_.here hx rfl (hb hby own_d_3_123) rfl rfl k) ?_
  show own_Fin _ _ _ _ _ _ _ T1_ (mkF m 124 #[.val (.int (5 : Int32)), .val (.int c1), .val (.int c2), .val (.int c3), .val (.int c4), .val (.int c5)] [(.ref b1_), (.ref b1_)])
  refine own_via (fun _ k => XS.iconst X1_.here hx rfl (hb hby own_d_3_124) k) ?_
  show own_Fin _ _ _ _ _ _ _ T1_ (mkF m 125 #[.val (.int (5 : Int32)), .val (.int c1), .val (.int c2), .val (.int c3), .val (.int c4), .val (.int c5)] [(.int (5 : Int32)), (.ref b1_), (.ref b1_)])
  obtain ⟨T4_, h4_, k4_, X4_, e4_, E4_, A4_, st4_⟩ := newP X1_ hx hZ (hw _ (List.mem_of_getElem? (i := 10) rfl)) e1_ (g := (mkF m 125 #[.val (.int (5 : Int32)), .val (.int c1), .val (.int c2), .val (.int c3), .val (.int c4), .val (.int c5)] [(.int (5 : Int32)), (.ref b1_), (.ref b1_)])) rfl (hb hby own_d_3_125) rfl (by decide) (cap := 5) (by decide) (by decide) (by decide) (by decide)
  obtain ⟨b4_, g4_⟩ : ∃ z, z = h1_.size := ⟨_, rfl⟩
  rw [← g4_] at A4_ st4_
  have V4_ : Arv Z h4_ b4_ k4_ .char (5 : Int32) [(.int (0 : Int32)), (.int (0 : Int32)), (.int (0 : Int32)), (.int (0 : Int32)), (.int (0 : Int32))] (.int (0 : Int32)) := (Arv.new A4_ (by decide)).pad (pad_rep [] (.int (0 : Int32)) 5)
  refine own_via (fun _ k => st4_ _ k) ?_
  show own_Fin _ _ _ _ _ _ _ T4_ (mkF m 127 #[.val (.int (5 : Int32)), .val (.int c1), .val (.int c2), .val (.int c3), .val (.int c4), .val (.int c5)] [(.ref b4_), (.ref b1_), (.ref b1_)])
  refine own_via (fun _ k => XS.dup X4_.here hx rfl (hb hby own_d_3_127) rfl rfl k) ?_
  show own_Fin _ _ _ _ _ _ _ T4_ (mkF m 128 #[.val (.int (5 : Int32)), .val (.int c1), .val (.int c2), .val (.int c3), .val (.int c4), .val (.int c5)] [(.ref b4_), (.ref b4_), (.ref b1_), (.ref b1_)])
  refine own_via (fun _ k => XS.iconst X4_.here hx rfl (hb hby own_d_3_128) k) ?_
  show own_Fin _ _ _ _ _ _ _ T4_ (mkF m 129 #[.val (.int (5 : Int32)), .val (.int c1), .val (.int c2), .val (.int c3), .val (.int c4), .val (.int c5)] [(.int (0 : Int32)), (.ref b4_), (.ref b4_), (.ref b1_), (.ref b1_)])
  refine own_via (fun _ k => XS.iloadN X4_.here hx rfl (hb hby own_d_3_129) rfl k) ?_
  show own_Fin _ _ _ _ _ _ _ T4_ (mkF m 130 #[.val (.int (5 : Int32)), .val (.int c1), .val (.int c2), .val (.int c3), .val (.int c4), .val (.int c5)] [(.int c1), (.int (0 : Int32)), (.ref b4_), (.ref b4_), (.ref b1_), (.ref b1_)])
  obtain ⟨c5_, Ar5_, q5_, S5_, M5_, H5_, G5_⟩ := (id V4_)
  have hin5_ : ¬ ((0 : Int32) < 0 ∨ c5_.slots.size ≤ ((0 : Int32)).toNatClampNeg) := inb_of S5_ ⟨by decide, by decide⟩
  obtain ⟨T5_, h5_, X5_, e5_, W5_, st5_⟩ := stC X4_ hx hZ e4_ Ar5_ (j := (0 : Int32)) hin5_ (g := (mkF m 130 #[.val (.int (5 : Int32)), .val (.int c1), .val (.int c2), .val (.int c3), .val (.int c4), .val (.int c5)] [(.int c1), (.int (0 : Int32)), (.ref b4_), (.ref b4_), (.ref b1_), (.ref b1_)])) rfl rfl (hb hby own_d_3_130)
  have V5_ := Arv.set Ar5_ q5_ S5_ M5_ H5_ G5_ (fits_nar_char _) W5_ 0 rfl (Nat.le_of_ble_eq_true rfl)
  have U5_ : Arv Z h5_ b4_ k4_ .char (5 : Int32) ([(.int c1), (.int (0 : Int32)), (.int (0 : Int32)), (.int (0 : Int32)), (.int (0 : Int32))]) (.int (0 : Int32)) := by
    have hq := V5_
    rw [show nar .char c1 = c1 from (own_narc hc1)] at hq
    exact hq
  have g6_ : n0 ≤ b4_ := Nat.le_trans (Nat.le_trans Z0 E1_.1) (Nat.le_of_eq g4_.symm)
  have N5_ := Fr.snoc X5_ N0 g6_
  refine own_via (fun _ k => st5_ _ k) ?_
  show own_Fin _ _ _ _ _ _ _ T5_ (mkF m 131 #[.val (.int (5 : Int32)), .val (.int c1), .val (.int c2), .val (.int c3), .val (.int c4), .val (.int c5)] [(.ref b4_), (.ref b1_), (.ref b1_)])
  refine own_via (fun _ k => XS.dup X5_.here hx rfl (hb hby own_d_3_131) rfl rfl k) ?_
  show own_Fin _ _ _ _ _ _ _ T5_ (mkF m 132 #[.val (.int (5 : Int32)), .val (.int c1), .val (.int c2), .val (.int c3), .val (.int c4), .val (.int c5)] [(.ref b4_), (.ref b4_), (.ref b1_), (.ref b1_)])
  refine own_via (fun _ k => XS.iconst X5_.here hx rfl (hb hby own_d_3_132) k) ?_
  show own_Fin _ _ _ _ _ _ _ T5_ (mkF m 133 #[.val (.int (5 : Int32)), .val (.int c1), .val (.int c2), .val (.int c3), .val (.int c4), .val (.int c5)] [(.int (1 : Int32)), (.ref b4_), (.ref b4_), (.ref b1_), (.ref b1_)])
  refine own_via (fun _ k => XS.iloadN X5_.here hx rfl (hb hby own_d_3_133) rfl k) ?_
  show own_Fin _ _ _ _ _ _ _ T5_ (mkF m 134 #[.val (.int (5 : Int32)), .val (.int c1), .val (.int c2), .val (.int c3), .val (.int c4), .val (.int c5)] [(.int c2), (.int (1 : Int32)), (.ref b4_), (.ref b4_), (.ref b1_), (.ref b1_)])
  obtain ⟨c7_, Ar7_, q7_, S7_, M7_, H7_, G7_⟩ := (id U5_)
  have hin7_ : ¬ ((1 : Int32) < 0 ∨ c7_.slots.size ≤ ((1 : Int32)).toNatClampNeg) := inb_of S7_ ⟨by decide, by decide⟩
  obtain ⟨T7_, h7_, X7_, e7_, W7_, st7_⟩ := stC X5_ hx hZ e5_ Ar7_ (j := (1 : Int32)) hin7_ (g := (mkF m 134 #[.val (.int (5 : Int32)), .val (.int c1), .val (.int c2), .val (.int c3), .val (.int c4), .val (.int c5)] [(.int c2), (.int (1 : Int32)), (.ref b4_), (.ref b4_), (.ref b1_), (.ref b1_)])) rfl rfl (hb hby own_d_3_134)
  have V7_ := Arv.set Ar7_ q7_ S7_ M7_ H7_ G7_ (fits_nar_char _) W7_ 1 rfl (Nat.le_of_ble_eq_true rfl)
  have U7_ : Arv Z h7_ b4_ k4_ .char (5 : Int32) ([(.int c1), (.int c2), (.int (0 : Int32)), (.int (0 : Int32)), (.int (0 : Int32))]) (.int (0 : Int32)) := by
    have hq := V7_
    rw [show nar .char c2 = c2 from (own_narc hc2)] at hq
    exact hq
  have N7_ := Fr.snoc X7_ N5_ g6_
  refine own_via (fun _ k => st7_ _ k) ?_
  show own_Fin _ _ _ _ _ _ _ T7_ (mkF m 135 #[.val (.int (5 : Int32)), .val (.int c1), .val (.int c2), .val (.int c3), .val (.int c4), .val (.int c5)] [(.ref b4_), (.ref b1_), (.ref b1_)])
  refine own_via (fun _ k => XS.dup X7_.here hx rfl (hb hby own_d_3_135) rfl rfl k) ?_
  show own_Fin _ _ _ _ _ _ _ T7_ (mkF m 136 #[.val (.int (5 : Int32)), .val (.int c1), .val (.int c2), .val (.int c3), .val (.int c4), .val (.int c5)] [(.ref b4_), (.ref b4_), (.ref b1_), (.ref b1_)])
  refine own_via (fun _ k => XS.iconst X7_.here hx rfl (hb hby own_d_3_136) k) ?_
  show own_Fin _ _ _ _ _ _ _ T7_ (mkF m 137 #[.val (.int (5 : Int32)), .val (.int c1), .val (.int c2), .val (.int c3), .val (.int c4), .val (.int c5)] [(.int (2 : Int32)), (.ref b4_), (.ref b4_), (.ref b1_), (.ref b1_)])
  refine own_via (fun _ k => XS.iloadN X7_.here hx rfl (hb hby own_d_3_137) rfl k) ?_
  show own_Fin _ _ _ _ _ _ _ T7_ (mkF m 138 #[.val (.int (5 : Int32)), .val (.int c1), .val (.int c2), .val (.int c3), .val (.int c4), .val (.int c5)] [(.int c3), (.int (2 : Int32)), (.ref b4_), (.ref b4_), (.ref b1_), (.ref b1_)])
  obtain ⟨c8_, Ar8_, q8_, S8_, M8_, H8_, G8_⟩ := (id U7_)
  have hin8_ : ¬ ((2 : Int32) < 0 ∨ c8_.slots.size ≤ ((2 : Int32)).toNatClampNeg) := inb_of S8_ ⟨by decide, by decide⟩
  obtain ⟨T8_, h8_, X8_, e8_, W8_, st8_⟩ := stC X7_ hx hZ e7_ Ar8_ (j := (2 : Int32)) hin8_ (g := (mkF m 138 #[.val (.int (5 : Int32)), .val (.int c1), .val (.int c2), .val (.int c3), .val (.int c4), .val (.int c5)] [(.int c3), (.int (2 : Int32)), (.ref b4_), (.ref b4_), (.ref b1_), (.ref b1_)])) rfl rfl (hb hby own_d_3_138)
  have V8_ := Arv.set Ar8_ q8_ S8_ M8_ H8_ G8_ (fits_nar_char _) W8_ 2 rfl (Nat.le_of_ble_eq_true rfl)
  have U8_ : Arv Z h8_ b4_ k4_ .char (5 : Int32) ([(.int c1), (.int c2), (.int c3), (.int (0 : Int32)), (.int (0 : Int32))]) (.int (0 : Int32)) := by
    have hq := V8_
    rw [show nar .char c3 = c3 from (own_narc hc3)] at hq
    exact hq
  have N8_ := Fr.snoc X8_ N7_ g6_
  refine own_via (fun _ k => st8_ _ k) ?_
  show own_Fin _ _ _ _ _ _ _ T8_ (mkF m 139 #[.val (.int (5 : Int32)), .val (.int c1), .val (.int c2), .val (.int c3), .val (.int c4), .val (.int c5)] [(.ref b4_), (.ref b1_), (.ref b1_)])
  refine own_via (fun _ k => XS.dup X8_.here hx rfl (hb hby own_d_3_139) rfl rfl k) ?_
  show own_Fin _ _ _ _ _ _ _ T8_ (mkF m 140 #[.val (.int (5 : Int32)), .val (.int c1), .val (.int c2), .val (.int c3), .val (.int c4), .val (.int c5)] [(.ref b4_), (.ref b4_), (.ref b1_), (.ref b1_)])
  refine own_via (fun _ k => XS.iconst X8_.here hx rfl (hb hby own_d_3_140) k) ?_
  show own_Fin _ _ _ _ _ _ _ T8_ (mkF m 141 #[.val (.int (5 : Int32)), .val (.int c1), .val (.int c2), .val (.int c3), .val (.int c4), .val (.int c5)] [(.int (3 : Int32)), (.ref b4_), (.ref b4_), (.ref b1_), (.ref b1_)])
  refine own_via (fun _ k => XS.iload X8_.here hx rfl (hb hby own_d_3_141) rfl k) ?_
  show own_Fin _ _ _ _ _ _ _ T8_ (mkF m 143 #[.val (.int (5 : Int32)), .val (.int c1), .val (.int c2), .val (.int c3), .val (.int c4), .val (.int c5)] [(.int c4), (.int (3 : Int32)), (.ref b4_), (.ref b4_), (.ref b1_), (.ref b1_)])
  obtain ⟨c9_, Ar9_, q9_, S9_, M9_, H9_, G9_⟩ := (id U8_)
  have hin9_ : ¬ ((3 : Int32) < 0 ∨ c9_.slots.size ≤ ((3 : Int32)).toNatClampNeg) := inb_of S9_ ⟨by decide, by decide⟩
  obtain ⟨T9_, h9_, X9_, e9_, W9_, st9_⟩ := stC X8_ hx hZ e8_ Ar9_ (j := (3 : Int32)) hin9_ (g := (mkF m 143 #[.val (.int (5 : Int32)), .val (.int c1), .val (.int c2), .val (.int c3), .val (.int c4), .val (.int c5)] [(.int c4), (.int (3 : Int32)), (.ref b4_), (.ref b4_), (.ref b1_), (.ref b1_)])) rfl rfl (hb hby own_d_3_143)
  have V9_ := Arv.set Ar9_ q9_ S9_ M9_ H9_ G9_ (fits_nar_char _) W9_ 3 rfl (Nat.le_of_ble_eq_true rfl)
  have U9_ : Arv Z h9_ b4_ k4_ .char (5 : Int32) ([(.int c1), (.int c2), (.int c3), (.int c4), (.int (0 : Int32))]) (.int (0 : Int32)) := by
    have hq := V9_
    rw [show nar .char c4 = c4 from (own_narc hc4)] at hq
    exact hq
  have N9_ := Fr.snoc X9_ N8_ g6_
  refine own_via (fun _ k => st9_ _ k) ?_
  show own_Fin _ _ _ _ _ _ _ T9_ (mkF m 144 #[.val (.int (5 : Int32)), .val (.int c1), .val (.int c2), .val (.int c3), .val (.int c4), .val (.int c5)] [(.ref b4_), (.ref b1_), (.ref b1_)])
  refine own_via (fun _ k => XS.dup X9_.here hx rfl (hb hby own_d_3_144) rfl rfl k) ?_
  show own_Fin _ _ _ _ _ _ _ T9_ (mkF m 145 #[.val (.int (5 : Int32)), .val (.int c1), .val (.int c2), .val (.int c3), .val (.int c4), .val (.int c5)] [(.ref b4_), (.ref b4_), (.ref b1_), (.ref b1_)])
  refine own_via (fun _ k => XS.iconst X9_.here hx rfl (hb hby own_d_3_145) k) ?_
  show own_Fin _ _ _ _ _ _ _ T9_ (mkF m 146 #[.val (.int (5 : Int32)), .val (.int c1), .val (.int c2), .val (.int c3), .val (.int c4), .val (.int c5)] [(.int (4 : Int32)), (.ref b4_), (.ref b4_), (.ref b1_), (.ref b1_)])
  refine own_via (fun _ k => XS.iload X9_.here hx rfl (hb hby own_d_3_146) rfl k) ?_
  show own_Fin _ _ _ _ _ _ _ T9_ (mkF m 148 #[.val (.int (5 : Int32)), .val (.int c1), .val (.int c2), .val (.int c3), .val (.int c4), .val (.int c5)] [(.int c5), (.int (4 : Int32)), (.ref b4_), (.ref b4_), (.ref b1_), (.ref b1_)])
  obtain ⟨c10_, Ar10_, q10_, S10_, M10_, H10_, G10_⟩ := (id U9_)
  have hin10_ : ¬ ((4 : Int32) < 0 ∨ c10_.slots.size ≤ ((4 : Int32)).toNatClampNeg) := inb_of S10_ ⟨by decide, by decide⟩
  obtain ⟨T10_, h10_, X10_, e10_, W10_, st10_⟩ := stC X9_ hx hZ e9_ Ar10_ (j := (4 : Int32)) hin10_ (g := (mkF m 148 #[.val (.int (5 : Int32)), .val (.int c1), .val (.int c2), .val (.int c3), .val (.int c4), .val (.int c5)] [(.int c5), (.int (4 : Int32)), (.ref b4_), (.ref b4_), (.ref b1_), (.ref b1_)])) rfl rfl (hb hby own_d_3_148)
  have V10_ := Arv.set Ar10_ q10_ S10_ M10_ H10_ G10_ (fits_nar_char _) W10_ 4 rfl (Nat.le_of_ble_eq_true rfl)
  have U10_ : Arv Z h10_ b4_ k4_ .char (5 : Int32) ([(.int c1), (.int c2), (.int c3), (.int c4), (.int c5)]) (.int (0 : Int32)) := by
    have hq := V10_
    rw [show nar .char c5 = c5 from (own_narc hc5)] at hq
    exact hq
  have N10_ := Fr.snoc X10_ N9_ g6_
  refine own_via (fun _ k => st10_ _ k) ?_
  show own_Fin _ _ _ _ _ _ _ T10_ (mkF m 149 #[.val (.int (5 : Int32)), .val (.int c1), .val (.int c2), .val (.int c3), .val (.int c4), .val (.int c5)] [(.ref b4_), (.ref b1_), (.ref b1_)])
  have g12_ : n0 ≤ b1_ := Nat.le_trans Z0 (Nat.le_of_eq g1_.symm)
  have q13_ : b1_ ≠ b4_ := Nat.ne_of_lt (Nat.lt_of_lt_of_le A1_.lt (Nat.le_of_eq g4_.symm))
  have f14_ := ((((((F2_.ext E4_).other W5_ (Or.inl q13_)).other W7_ (Or.inl q13_)).other W8_ (Or.inl q13_)).other W9_ (Or.inl q13_)).other W10_ (Or.inl q13_))
  have f15_ := ((((((F3_.ext E4_).other W5_ (Or.inl q13_)).other W7_ (Or.inl q13_)).other W8_ (Or.inl q13_)).other W9_ (Or.inl q13_)).other W10_ (Or.inl q13_))
  have f16_ := (((((((O0.ext E1_).ext E4_).wr W5_ g6_).wr W7_ g6_).wr W8_ g6_).wr W9_ g6_).wr W10_ g6_)
  obtain ⟨_, _, ⟨T11_, L11_, k11_, n11_⟩, -, X11_, ⟨Lc11_, hQ11_, l11_, y11_, z11_⟩, st11_⟩ := X10_.specialBack hx (y := (⟨"java/lang/String", "<init>", "([C)V"⟩ : MethodName)) rfl hown (mvT hZ (hw _ (List.mem_of_getElem? (i := 11) rfl))) (mvT hZ (hw _ (List.mem_of_getElem? (i := 12) rfl))) (mvT hZ (hw _ (List.mem_of_getElem? (i := 13) rfl))) (by decide) (StrChars.Road.backV (W := 1) hZ own_hws (kI := 4) (hw _ (List.mem_of_getElem? (i := 8) rfl)) (cs := ([c1, c2, c3, c4, c5] : List Int32)) (bs := ([c1, c2, c3, c4, c5] : List Int32).map (fun c => c.toInt8.toInt32)) (n := 5) g12_ (Nat.le_trans Z0 (Nat.le_trans (Nat.le_trans (Nat.le_trans (Nat.le_trans (Nat.le_trans (Nat.le_trans E1_.1 E4_.1) (Keep.of_wr W5_).1) (Keep.of_wr W7_).1) (Keep.of_wr W8_).1) (Keep.of_wr W9_).1) (Keep.of_wr W10_).1)) ((((((A1_.ext E4_).wr W5_).wr W7_).wr W8_).wr W9_).wr W10_) f14_ f15_ U10_ (S1.ext f16_.2) P5 rfl rfl (by decide) (by decide) (own_lats5 hc1 hc2 hc3 hc4 hc5) rfl (by decide) (by decide)) (g := (mkF m 149 #[.val (.int (5 : Int32)), .val (.int c1), .val (.int c2), .val (.int c3), .val (.int c4), .val (.int c5)] [(.ref b4_), (.ref b1_), (.ref b1_)])) rfl (by rw [hml]; rfl) (Steps.refl _) (a := b1_) (argsL := [(.ref b4_)]) (rest := [(.ref b1_)]) (lenOf own_pd16 rfl) rfl (by show 2 * 0 + _ ≤ _; exact Nat.le_of_eq rfl) (hb hby own_d_3_149) (fun _ _ => ⟨rfl, e10_, (by decide : 0 + 1 + 1 + 1 ≤ _), (by decide : 0 + 4 + 5 + 5 ≤ _)⟩)
  dsimp only [Pt.U, Pt.locs, Pt.cells, Pt.slots] at X11_ l11_ y11_ z11_ st11_ hQ11_
  subst l11_ y11_ z11_
  obtain ⟨rfl, Nq11_, K11_, r19_, r20_, t17_, kb18_, r21_, r22_, r23_, r24_, r25_⟩ := hQ11_
  have N11_ := Fr.app N10_ Nq11_
  refine own_via (fun _ k => st11_.trans k) ?_
  show own_Fin _ _ _ _ _ _ _ T11_ (mkF m 152 #[.val (.int (5 : Int32)), .val (.int c1), .val (.int c2), .val (.int c3), .val (.int c4), .val (.int c5)] [(.ref b1_)])
  exact own_retA X11_ hx Bd.returns Bd.notSynchronized rfl rfl (hb hby own_d_3_152) rfl ⟨b1_, t17_, kb18_, rfl, N11_, (((((((((Keep.refl h0 []).ext E1_).ext E4_).wr W5_ (Or.inr (Nat.le_trans E1_.1 (Nat.le_of_eq g4_.symm)))).wr W7_ (Or.inr (Nat.le_trans E1_.1 (Nat.le_of_eq g4_.symm)))).wr W8_ (Or.inr (Nat.le_trans E1_.1 (Nat.le_of_eq g4_.symm)))).wr W9_ (Or.inr (Nat.le_trans E1_.1 (Nat.le_of_eq g4_.symm)))).wr W10_ (Or.inr (Nat.le_trans E1_.1 (Nat.le_of_eq g4_.symm)))).trans K11_ (allS (Or.inr (Nat.le_of_eq g1_.symm)) all0)), (Nat.le_of_eq g1_.symm), r19_, r20_, r24_, r25_⟩ (by decide) (by decide)
theorem own_d_jdk_42_149_0 : decode jdk_42_method_149_code 0 = .ok (.aload_n 0, 1) := by decide +kernel
theorem own_d_jdk_42_149_1 : decode jdk_42_method_149_code 1 = .ok (.invokespecial 1, 3) := by decide +kernel
theorem own_d_jdk_42_149_4 : decode jdk_42_method_149_code 4 = .ok (.iload_n 3, 1) := by decide +kernel
theorem own_d_jdk_42_149_5 : decode jdk_42_method_149_code 5 = .ok (.ifCond .ne 22, 3) := by decide +kernel
theorem own_d_jdk_42_149_8 : decode jdk_42_method_149_code 8 = .ok (.aload_n 0, 1) := by decide +kernel
theorem own_d_jdk_42_149_9 : decode jdk_42_method_149_code 9 = .ok (.ldc 7, 2) := by decide +kernel
theorem own_d_jdk_42_149_11 : decode jdk_42_method_149_code 11 = .ok (.getfield 9, 3) := by decide +kernel
theorem own_d_jdk_42_149_14 : decode jdk_42_method_149_code 14 = .ok (.putfield 9, 3) := by decide +kernel
theorem own_d_jdk_42_149_17 : decode jdk_42_method_149_code 17 = .ok (.aload_n 0, 1) := by decide +kernel
theorem own_d_jdk_42_149_18 : decode jdk_42_method_149_code 18 = .ok (.ldc 7, 2) := by decide +kernel
theorem own_d_jdk_42_149_20 : decode jdk_42_method_149_code 20 = .ok (.getfield 15, 3) := by decide +kernel
theorem own_d_jdk_42_149_23 : decode jdk_42_method_149_code 23 = .ok (.putfield 15, 3) := by decide +kernel
theorem own_d_jdk_42_149_26 : decode jdk_42_method_149_code 26 = .ok (.return_, 1) := by decide +kernel
theorem own_ef_sInit4 (m : MethodId) (a1 : Addr) (b : Addr) : entryFrame m #[(.ref a1), (.ref b), (.int (0 : Int32)), (.int (0 : Int32)), .null] 6 = mkF m 0 #[.val (.ref a1), .val (.ref b), .val (.int (0 : Int32)), .val (.int (0 : Int32)), .val .null, .unset] [] := by (first | (simp [entryFrame, mkF, argsToLocals, Value.category]; done) | rfl)
def own_Q_sInit4 (Z : State) (a1 : Addr) (b : Addr) (u2 : Value) (h0 : Heap) (n0 : Nat) (vq : Option Value) (h : Heap) (Lq : List Loc) : Prop := ∃ (t : Addr) (kt : ClassId), (vq = none) ∧ (Fr n0 Lq) ∧ (Keep h0 h [a1]) ∧ (Exa Z h a1 "java/lang/String") ∧ (Fld Z h a1 "java/lang/String" "coder" "B" (.int (0 : Int32))) ∧ (Fld Z h a1 "java/lang/String" "value" "[B" (.ref t)) ∧ (Arv Z h t kt .byte (0 : Int32) ([]) (.int 0))
set_option maxRecDepth 65536 in
set_option maxHeartbeats 40000000 in
theorem own_rm_sInit4 (l : Launch) (Z : State) (a0 : Array Value) (hw : ∀ d ∈ tables_1, d.before a0 Z = true) (ws : List Jvm.Cond) (a1 : Addr) (b : Addr) (u2 : Value) (h0 : Heap) (n0 : Nat) (Z0 : n0 ≤ h0.size) (E1 : Exa Z h0 a1 "java/lang/String") (F1 : Fld Z h0 a1 "java/lang/String" "value" "[B" .null) (F2 : Fld Z h0 a1 "java/lang/String" "coder" "B" u2) (g1 : n0 ≤ a1) :
    MetFree l (⟨"java/lang/String", "<init>", "([CIILjava/lang/Void;)V"⟩ : MethodName) (head1 (Jvm.Cond.code (⟨"java/lang/String", "<init>", "([CIILjava/lang/Void;)V"⟩ : MethodName) jdk_42_method_149_code 6 none :: ws) ({ frames := 1, cells := 4, slots := 8, locals := 12 } : Room)) (fun aq Uq => aq = #[(.ref a1), (.ref b), (.int (0 : Int32)), (.int (0 : Int32)), .null] ∧ Z.Warmed39 Uq.vm ∧ Uq.heap = h0 ∧ CHv Z own_EL Uq.vm h0) (fun _ _ _ _ _ => True) (fun _ Uq oq Uq' => ∃ vq Lq, oq = .returned vq ∧ own_Q_sInit4 Z a1 b u2 h0 n0 vq Uq'.heap Lq ∧ CHr Z own_EL Uq.vm Uq.heap Uq'.vm Uq'.heap ∧ ReturnedEndW Uq oq Uq' Lq ({ frames := 1, cells := 4, slots := 8, locals := 12 } : Room).cells ({ frames := 1, cells := 4, slots := 8, locals := 12 } : Room).slots) := by
  refine MetFree.of_bodySF (plainFor_of_name own_pn0) hisR ?_
  intro p e s m args below meth cde s₁ Bd hml0 hP hK
  obtain ⟨rfl, hZ, hh, H0⟩ := hP
  have hx := Bd.exec
  have hby := Bd.bytes
  have hml : cde.maxLocals = 6 := hml0
  have hown : s.vm.findClass "java/lang/String" = some m.cls := findClass_of_methodNamed Bd.named
  have hnm := (name_of_methodNamed Bd.named Bd.method).1
  have X0 : Stand p l e ({ frames := 1, cells := 4, slots := 8, locals := 12 } : Room) (s.setVm s.vm) m #[(.ref a1), (.ref b), (.int (0 : Int32)), (.int (0 : Int32)), .null] below meth cde s₁ [] 0 0 := Stand.of_body Bd
  have e0 : s₁.heap = h0 := by rw [← hh, Bd.state]; rfl
  have N0 := Fr.nil n0
  have hS0 : s.Since s.vm h0.size := (State.WarmedH.refl s).since _
  have hk0 : h0.size ≤ h0.size := Nat.le_refl _
  have C0 : CHr Z own_EL s.vm h0 s.vm h0 := CHr.refl H0
  show own_FinH p e s below Z own_EL (own_Q_sInit4 Z a1 b u2 h0 n0) ({ frames := 1, cells := 4, slots := 8, locals := 12 } : Room).cells ({ frames := 1, cells := 4, slots := 8, locals := 12 } : Room).slots s₁ (entryFrame m #[(.ref a1), (.ref b), (.int (0 : Int32)), (.int (0 : Int32)), .null] 6)
  rw [own_ef_sInit4 m a1 b]
  refine own_viaH (fun _ k => XS.aloadN X0.here hx rfl (hb hby own_d_jdk_42_149_0) rfl rfl k) ?_
  show own_FinH _ _ _ _ _ _ _ _ _ s₁ (mkF m 1 #[.val (.ref a1), .val (.ref b), .val (.int (0 : Int32)), .val (.int (0 : Int32)), .val .null, .unset] [(.ref a1)])
  obtain ⟨T1_, X1_, e1_, st1_⟩ := initO X0 hx hZ hown (hw _ (List.mem_of_getElem? (i := 18) rfl)) (hw _ (List.mem_of_getElem? (i := 19) rfl)) (hw _ (List.mem_of_getElem? (i := 20) rfl)) e0 (g := (mkF m 1 #[.val (.ref a1), .val (.ref b), .val (.int (0 : Int32)), .val (.int (0 : Int32)), .val .null, .unset] [(.ref a1)])) rfl (by rw [hml]; rfl) rfl (hb hby own_d_jdk_42_149_1) (by decide) (W := 0) (by show 2 * 0 + _ ≤ _; exact Nat.le_of_eq rfl) (by decide)
  refine own_viaH (fun _ k => st1_ _ k) ?_
  show own_FinH _ _ _ _ _ _ _ _ _ T1_ (mkF m 4 #[.val (.ref a1), .val (.ref b), .val (.int (0 : Int32)), .val (.int (0 : Int32)), .val .null, .unset] [])
  refine own_viaH (fun _ k => XS.iloadN X1_.here hx rfl (hb hby own_d_jdk_42_149_4) rfl k) ?_
  show own_FinH _ _ _ _ _ _ _ _ _ T1_ (mkF m 5 #[.val (.ref a1), .val (.ref b), .val (.int (0 : Int32)), .val (.int (0 : Int32)), .val .null, .unset] [(.int (0 : Int32))])
  refine own_viaH (fun _ k => XS.ifNo X1_.here hx rfl (hb hby own_d_jdk_42_149_5) rfl ((if0 _ _).trans (teq rfl).2) k) ?_
  show own_FinH _ _ _ _ _ _ _ _ _ T1_ (mkF m 8 #[.val (.ref a1), .val (.ref b), .val (.int (0 : Int32)), .val (.int (0 : Int32)), .val .null, .unset] [])
  refine own_viaH (fun _ k => XS.aloadN X1_.here hx rfl (hb hby own_d_jdk_42_149_8) rfl rfl k) ?_
  show own_FinH _ _ _ _ _ _ _ _ _ T1_ (mkF m 9 #[.val (.ref a1), .val (.ref b), .val (.int (0 : Int32)), .val (.int (0 : Int32)), .val .null, .unset] [(.ref a1)])
  obtain ⟨a2_, T2_, h2_, k2_, b2_, kb2_, X2_, e2_, E2_, hS2_, hk2_, hZ2_, hown2_, rE2_, rC2_, rV2_, rA2_, -, -, Cq2_, -, Sx2_, st2_⟩ := ldcCH X1_ hx hZ hown (hw _ (List.mem_of_getElem? (i := 21) rfl)) (own_atoms hw) e1_ hS0 hk0 (own_ew hw) (List.mem_of_getElem? (i := 1) rfl) H0 (vs := []) (z := (0 : Int32)) ⟨by decide, by decide⟩ (by decide) (by decide) (g := (mkF m 9 #[.val (.ref a1), .val (.ref b), .val (.int (0 : Int32)), .val (.int (0 : Int32)), .val .null, .unset] [(.ref a1)])) rfl (hb hby own_d_jdk_42_149_9) (n := 0) (by decide) (by decide) (by decide) (by decide)
  refine own_viaH (fun _ k => st2_ _ k) ?_
  show own_FinH _ _ _ _ _ _ _ _ _ T2_ (mkF m 11 #[.val (.ref a1), .val (.ref b), .val (.int (0 : Int32)), .val (.int (0 : Int32)), .val .null, .unset] [(.ref a2_), (.ref a1)])
  obtain ⟨T3_, X3_, e3_, st3_⟩ := getF X2_ hx hZ2_ hown2_ (host := "") (Or.inl (hw _ (List.mem_of_getElem? (i := 27) rfl))) Via.refl e2_ rV2_ (g := (mkF m 11 #[.val (.ref a1), .val (.ref b), .val (.int (0 : Int32)), .val (.int (0 : Int32)), .val .null, .unset] [(.ref a2_), (.ref a1)])) rfl rfl (hb hby own_d_jdk_42_149_11)
  refine own_viaH (fun _ k => st3_ _ k) ?_
  show own_FinH _ _ _ _ _ _ _ _ _ T3_ (mkF m 14 #[.val (.ref a1), .val (.ref b), .val (.int (0 : Int32)), .val (.int (0 : Int32)), .val .null, .unset] [(.ref b2_), (.ref a1)])
  have sf4_ : Safe Z own_EL T2_.vm h2_ a1 := own_safe_null hZ2_.alike (E1.ext E2_) (F1.ext E2_)
  obtain ⟨T5_, h5_, X5_, e5_, W5_, st5_⟩ := putF X3_ hx hZ2_ hown2_ (host := "") (Or.inl (hw _ (List.mem_of_getElem? (i := 27) rfl))) Via.refl e3_ (F1.ext E2_) (E1.ext E2_) (Or.inr ⟨(hw _ (List.mem_of_getElem? (i := 23) rfl)), rfl, hnm⟩) (hw _ (List.mem_of_getElem? (i := 8) rfl)) (ty := (.array .byte)) (by decide) rfl rfl (g := (mkF m 14 #[.val (.ref a1), .val (.ref b), .val (.int (0 : Int32)), .val (.int (0 : Int32)), .val .null, .unset] [(.ref b2_), (.ref a1)])) rfl rfl (hb hby own_d_jdk_42_149_14)
  have Fw5_ := (F1.ext E2_).same W5_
  have N5_ := Fr.snoc X5_ N0 g1
  refine own_viaH (fun _ k => st5_ _ k) ?_
  show own_FinH _ _ _ _ _ _ _ _ _ T5_ (mkF m 17 #[.val (.ref a1), .val (.ref b), .val (.int (0 : Int32)), .val (.int (0 : Int32)), .val .null, .unset] [])
  refine own_viaH (fun _ k => XS.aloadN X5_.here hx rfl (hb hby own_d_jdk_42_149_17) rfl rfl k) ?_
  show own_FinH _ _ _ _ _ _ _ _ _ T5_ (mkF m 18 #[.val (.ref a1), .val (.ref b), .val (.int (0 : Int32)), .val (.int (0 : Int32)), .val .null, .unset] [(.ref a1)])
  have C7_ := C0.trans Cq2_
  have H7_ := C7_.1
  have C8_ := C7_.trans (CHr.wr W5_ sf4_ H7_)
  have H8_ := C8_.1
  obtain ⟨a6_, T6_, h6_, k6_, b6_, kb6_, X6_, e6_, E6_, hS6_, hk6_, hZ6_, hown6_, rE6_, rC6_, rV6_, rA6_, -, -, Cq6_, -, Sx6_, st6_⟩ := ldcCH X5_ hx hZ2_ hown2_ (hw _ (List.mem_of_getElem? (i := 21) rfl)) (own_atoms hw) e5_ hS2_ (Nat.le_trans hk2_ (Keep.of_wr W5_).1) (own_ew hw) (List.mem_of_getElem? (i := 1) rfl) H8_ (vs := []) (z := (0 : Int32)) ⟨by decide, by decide⟩ (by decide) (by decide) (g := (mkF m 18 #[.val (.ref a1), .val (.ref b), .val (.int (0 : Int32)), .val (.int (0 : Int32)), .val .null, .unset] [(.ref a1)])) rfl (hb hby own_d_jdk_42_149_18) (n := 0) (by decide) (by decide) (by decide) (by decide)
  refine own_viaH (fun _ k => st6_ _ k) ?_
  show own_FinH _ _ _ _ _ _ _ _ _ T6_ (mkF m 20 #[.val (.ref a1), .val (.ref b), .val (.int (0 : Int32)), .val (.int (0 : Int32)), .val .null, .unset] [(.ref a6_), (.ref a1)])
  obtain ⟨T9_, X9_, e9_, st9_⟩ := getF X6_ hx hZ6_ hown6_ (host := "") (Or.inl (hw _ (List.mem_of_getElem? (i := 28) rfl))) Via.refl e6_ rC6_ (g := (mkF m 20 #[.val (.ref a1), .val (.ref b), .val (.int (0 : Int32)), .val (.int (0 : Int32)), .val .null, .unset] [(.ref a6_), (.ref a1)])) rfl rfl (hb hby own_d_jdk_42_149_20)
  refine own_viaH (fun _ k => st9_ _ k) ?_
  show own_FinH _ _ _ _ _ _ _ _ _ T9_ (mkF m 23 #[.val (.ref a1), .val (.ref b), .val (.int (0 : Int32)), .val (.int (0 : Int32)), .val .null, .unset] [(.int (0 : Int32)), (.ref a1)])
  have sf10_ : Safe Z own_EL T2_.vm h5_ a1 := Safe.wr W5_ sf4_ H7_ sf4_
  have sf11_ : Safe Z own_EL T6_.vm h6_ a1 := Cq6_.safe (Fw5_).lt sf10_
  have f13_ := (((F2.ext E2_).other W5_ (Or.inr (slot_ne (Or.inr (hw _ (List.mem_of_getElem? (i := 24) rfl))) (Or.inr (hw _ (List.mem_of_getElem? (i := 23) rfl))) (by decide) (t := .byte) (t' := (.array .byte)) (by decide) (by decide)))).ext E6_)
  obtain ⟨T12_, h12_, X12_, e12_, W12_, st12_⟩ := putFN X9_ hx hZ6_ hown6_ (hw _ (List.mem_of_getElem? (i := 28) rfl)) Via.refl e9_ f13_ (((E1.ext E2_).wr W5_).ext E6_) (Or.inr ⟨(hw _ (List.mem_of_getElem? (i := 24) rfl)), rfl, hnm⟩) (hw _ (List.mem_of_getElem? (i := 8) rfl)) (ty := .byte) (v' := (.int (0 : Int32))) (by decide) rfl (by decide) (g := (mkF m 23 #[.val (.ref a1), .val (.ref b), .val (.int (0 : Int32)), .val (.int (0 : Int32)), .val .null, .unset] [(.int (0 : Int32)), (.ref a1)])) rfl rfl (hb hby own_d_jdk_42_149_23)
  have Fw12_ := f13_.same W12_
  have N12_ := Fr.snoc X12_ N5_ g1
  refine own_viaH (fun _ k => st12_ _ k) ?_
  show own_FinH _ _ _ _ _ _ _ _ _ T12_ (mkF m 26 #[.val (.ref a1), .val (.ref b), .val (.int (0 : Int32)), .val (.int (0 : Int32)), .val .null, .unset] [])
  have f14_ := ((Fw5_.ext E6_).other W12_ (Or.inr (slot_ne (Or.inr (hw _ (List.mem_of_getElem? (i := 23) rfl))) (Or.inr (hw _ (List.mem_of_getElem? (i := 24) rfl))) (by decide) (t := (.array .byte)) (t' := .byte) (by decide) (by decide))))
  have q15_ : a1 ≠ b2_ := (Sx2_ _ sf4_).2
  have f16_ := (((rA2_.other W5_ (Ne.symm q15_)).ext E6_).other W12_ (Ne.symm q15_))
  have C17_ := C8_.trans Cq6_
  have H17_ := C17_.1
  have C18_ := C17_.trans (CHr.wr W12_ sf11_ H17_)
  have H18_ := C18_.1
  exact own_ret0H X12_ hx Bd.returns Bd.notSynchronized (own_ew hw) hZ6_ hS6_ (Nat.le_trans hk6_ (Keep.of_wr W12_).1) hh C18_ (hb hby own_d_jdk_42_149_26) e12_ ⟨b2_, kb2_, rfl, N12_, (((((Keep.refl h0 [a1]).ext E2_).wr W5_ (Or.inl (List.mem_of_getElem? (i := 0) rfl))).ext E6_).wr W12_ (Or.inl (List.mem_of_getElem? (i := 0) rfl))), ((((E1.ext E2_).wr W5_).ext E6_).wr W12_), Fw12_, f14_, f16_⟩ (by decide) (by decide)
theorem own_d_jdk_42_3_0 : decode jdk_42_method_3_code 0 = .ok (.aload_n 0, 1) := by decide +kernel
theorem own_d_jdk_42_3_1 : decode jdk_42_method_3_code 1 = .ok (.aload_n 1, 1) := by decide +kernel
theorem own_d_jdk_42_3_2 : decode jdk_42_method_3_code 2 = .ok (.iconst 0, 1) := by decide +kernel
theorem own_d_jdk_42_3_3 : decode jdk_42_method_3_code 3 = .ok (.aload_n 1, 1) := by decide +kernel
theorem own_d_jdk_42_3_4 : decode jdk_42_method_3_code 4 = .ok (.arraylength, 1) := by decide +kernel
theorem own_d_jdk_42_3_5 : decode jdk_42_method_3_code 5 = .ok (.aconst_null, 1) := by decide +kernel
theorem own_d_jdk_42_3_6 : decode jdk_42_method_3_code 6 = .ok (.invokespecial 27, 3) := by decide +kernel
theorem own_pd17 : parseMethodDescriptor "([CIILjava/lang/Void;)V" = some ⟨[(.array .char), .int, .int, (.object "java/lang/Void")], none⟩ := by decide +kernel
theorem own_d_jdk_42_3_9 : decode jdk_42_method_3_code 9 = .ok (.return_, 1) := by decide +kernel
theorem own_ef_sInit1 (m : MethodId) (a1 : Addr) (b : Addr) : entryFrame m #[(.ref a1), (.ref b)] 2 = mkF m 0 #[.val (.ref a1), .val (.ref b)] [] := by (first | (simp [entryFrame, mkF, argsToLocals, Value.category]; done) | rfl)
def own_Q_sInit1 (Z : State) (a1 : Addr) (b : Addr) (kb : ClassId) (u2 : Value) (h0 : Heap) (n0 : Nat) (vq : Option Value) (h : Heap) (Lq : List Loc) : Prop := ∃ (t : Addr) (kt : ClassId), (vq = none) ∧ (Fr n0 Lq) ∧ (Keep h0 h [a1]) ∧ (Exa Z h a1 "java/lang/String") ∧ (Fld Z h a1 "java/lang/String" "coder" "B" (.int (0 : Int32))) ∧ (Fld Z h a1 "java/lang/String" "value" "[B" (.ref t)) ∧ (Arv Z h t kt .byte (0 : Int32) ([]) (.int 0))
set_option maxRecDepth 65536 in
set_option maxHeartbeats 40000000 in
theorem own_rm_sInit1 (l : Launch) (Z : State) (a0 : Array Value) (hw : ∀ d ∈ tables_1, d.before a0 Z = true) (ws : List Jvm.Cond) (a1 : Addr) (b : Addr) (kb : ClassId) (u2 : Value) (h0 : Heap) (n0 : Nat) (Z0 : n0 ≤ h0.size) (E1 : Exa Z h0 a1 "java/lang/String") (F1 : Fld Z h0 a1 "java/lang/String" "value" "[B" .null) (F2 : Fld Z h0 a1 "java/lang/String" "coder" "B" u2) (Vb : Arv Z h0 b kb .char (0 : Int32) ([]) (.int 0)) (g1 : n0 ≤ a1) :
    MetFree l (⟨"java/lang/String", "<init>", "([C)V"⟩ : MethodName) (head1 (Jvm.Cond.code (⟨"java/lang/String", "<init>", "([C)V"⟩ : MethodName) jdk_42_method_3_code 2 none :: ws) ({ frames := 2, cells := 4, slots := 8, locals := 29 } : Room)) (fun aq Uq => aq = #[(.ref a1), (.ref b)] ∧ Z.Warmed39 Uq.vm ∧ Uq.heap = h0 ∧ CHv Z own_EL Uq.vm h0) (fun _ _ _ _ _ => True) (fun _ Uq oq Uq' => ∃ vq Lq, oq = .returned vq ∧ own_Q_sInit1 Z a1 b kb u2 h0 n0 vq Uq'.heap Lq ∧ CHr Z own_EL Uq.vm Uq.heap Uq'.vm Uq'.heap ∧ ReturnedEndW Uq oq Uq' Lq ({ frames := 2, cells := 4, slots := 8, locals := 29 } : Room).cells ({ frames := 2, cells := 4, slots := 8, locals := 29 } : Room).slots) := by
  refine MetFree.of_bodySF (plainFor_of_name own_pn0) hisR ?_
  intro p e s m args below meth cde s₁ Bd hml0 hP hK
  obtain ⟨rfl, hZ, hh, H0⟩ := hP
  have hx := Bd.exec
  have hby := Bd.bytes
  have hml : cde.maxLocals = 2 := hml0
  have hown : s.vm.findClass "java/lang/String" = some m.cls := findClass_of_methodNamed Bd.named
  have hnm := (name_of_methodNamed Bd.named Bd.method).1
  have X0 : Stand p l e ({ frames := 2, cells := 4, slots := 8, locals := 29 } : Room) (s.setVm s.vm) m #[(.ref a1), (.ref b)] below meth cde s₁ [] 0 0 := Stand.of_body Bd
  have e0 : s₁.heap = h0 := by rw [← hh, Bd.state]; rfl
  have N0 := Fr.nil n0
  have hS0 : s.Since s.vm h0.size := (State.WarmedH.refl s).since _
  have hk0 : h0.size ≤ h0.size := Nat.le_refl _
  have C0 : CHr Z own_EL s.vm h0 s.vm h0 := CHr.refl H0
  show own_FinH p e s below Z own_EL (own_Q_sInit1 Z a1 b kb u2 h0 n0) ({ frames := 2, cells := 4, slots := 8, locals := 29 } : Room).cells ({ frames := 2, cells := 4, slots := 8, locals := 29 } : Room).slots s₁ (entryFrame m #[(.ref a1), (.ref b)] 2)
  rw [own_ef_sInit1 m a1 b]
  refine own_viaH (fun _ k => XS.aloadN X0.here hx rfl (hb hby own_d_jdk_42_3_0) rfl rfl k) ?_
  show own_FinH _ _ _ _ _ _ _ _ _ s₁ (mkF m 1 #[.val (.ref a1), .val (.ref b)] [(.ref a1)])
  refine own_viaH (fun _ k => XS.aloadN X0.here hx rfl (hb hby own_d_jdk_42_3_1) rfl rfl k) ?_
  show own_FinH _ _ _ _ _ _ _ _ _ s₁ (mkF m 2 #[.val (.ref a1), .val (.ref b)] [(.ref b), (.ref a1)])
  refine own_viaH (fun _ k => XS.iconst X0.here hx rfl (hb hby own_d_jdk_42_3_2) k) ?_
  show own_FinH _ _ _ _ _ _ _ _ _ s₁ (mkF m 3 #[.val (.ref a1), .val (.ref b)] [(.int (0 : Int32)), (.ref b), (.ref a1)])
  refine own_viaH (fun _ k => XS.aloadN X0.here hx rfl (hb hby own_d_jdk_42_3_3) rfl rfl k) ?_
  show own_FinH _ _ _ _ _ _ _ _ _ s₁ (mkF m 4 #[.val (.ref a1), .val (.ref b)] [(.ref b), (.int (0 : Int32)), (.ref b), (.ref a1)])
  obtain ⟨c1_, Ar1_, -, S1_, M1_, -, -⟩ := (id Vb)
  refine own_viaH (fun _ k => X0.arraylength hx (by rw [e0]; exact Ar1_.1) (State.isArrayOf_alike hZ.alike Ar1_.2.1) (g := (mkF m 4 #[.val (.ref a1), .val (.ref b)] [(.ref b), (.int (0 : Int32)), (.ref b), (.ref a1)])) rfl rfl (hb hby own_d_jdk_42_3_4) _ (by rw [len_of S1_ M1_]; exact k)) ?_
  show own_FinH _ _ _ _ _ _ _ _ _ s₁ (mkF m 5 #[.val (.ref a1), .val (.ref b)] [(.int (0 : Int32)), (.int (0 : Int32)), (.ref b), (.ref a1)])
  refine own_viaH (fun _ k => XS.aconstNull X0.here hx rfl (hb hby own_d_jdk_42_3_5) k) ?_
  show own_FinH _ _ _ _ _ _ _ _ _ s₁ (mkF m 6 #[.val (.ref a1), .val (.ref b)] [.null, (.int (0 : Int32)), (.int (0 : Int32)), (.ref b), (.ref a1)])
  obtain ⟨_, _, ⟨T2_, L2_, k2_, n2_⟩, -, Y2_, hSq2_, hgq2_, ⟨Lc2_, hQ2_, l2_, y2_, z2_, Cq2_⟩, st2_⟩ := X0.specialBackS hx (y := (⟨"java/lang/String", "<init>", "([CIILjava/lang/Void;)V"⟩ : MethodName)) rfl hown (mvT hZ (hw _ (List.mem_of_getElem? (i := 14) rfl))) (mvT hZ (hw _ (List.mem_of_getElem? (i := 15) rfl))) (mvT hZ (hw _ (List.mem_of_getElem? (i := 17) rfl))) (by decide) (backOfSH (s := s) (vm0 := s.vm) (W := 0) (own_rm_sInit4 l Z a0 hw [] a1 b u2 h0 n0 Z0 E1 F1 F2 g1) hZ (hw _ (List.mem_of_getElem? (i := 17) rfl)) (hw _ (List.mem_of_getElem? (i := 9) rfl)) (by decide) (by decide) (own_ew hw) H0) (g := (mkF m 6 #[.val (.ref a1), .val (.ref b)] [.null, (.int (0 : Int32)), (.int (0 : Int32)), (.ref b), (.ref a1)])) rfl (by rw [hml]; rfl) (Steps.refl _) (a := a1) (argsL := [(.ref b), (.int (0 : Int32)), (.int (0 : Int32)), .null]) (rest := []) (lenOf own_pd17 rfl) rfl (by show 2 * 0 + _ ≤ _; exact Nat.le_of_eq rfl) (hb hby own_d_jdk_42_3_6) (fun _ _ => ⟨rfl, e0, (by decide : 0 + 4 ≤ _), (by decide : 0 + 8 ≤ _)⟩)
  dsimp only [Pt.U, Pt.locs, Pt.cells, Pt.slots] at Y2_ l2_ y2_ z2_ st2_ hQ2_ hSq2_ hgq2_ Cq2_
  subst l2_ y2_ z2_
  obtain ⟨X2_, hS2_, hZ2_, hown2_⟩ := rebS hS0 (by rw [e0]; exact hk0) Y2_ hSq2_ hgq2_ hZ hown
  obtain ⟨t, kt, rfl, Nq2_, K2_, r3_, r4_, r5_, r6_⟩ := hQ2_
  have N2_ := Fr.app N0 Nq2_
  refine own_viaH (fun _ k => st2_.trans k) ?_
  show own_FinH _ _ _ _ _ _ _ _ _ T2_ (mkF m 9 #[.val (.ref a1), .val (.ref b)] [])
  have C7_ := C0.trans Cq2_
  have H7_ := C7_.1
  exact own_ret0H X2_ hx Bd.returns Bd.notSynchronized (own_ew hw) hZ2_ hS2_ (Nat.le_refl _) hh C7_ (hb hby own_d_jdk_42_3_9) rfl ⟨t, kt, rfl, N2_, ((Keep.refl h0 [a1]).trans K2_ (allS (Or.inl (List.mem_of_getElem? (i := 0) rfl)) all0)), r3_, r4_, r5_, r6_⟩ (by decide) (by decide)
theorem own_d_3_4 : decode method_3_code 4 = .ok (.new 7, 3) := by decide +kernel
theorem own_d_3_7 : decode method_3_code 7 = .ok (.dup, 1) := by decide +kernel
theorem own_d_3_8 : decode method_3_code 8 = .ok (.iconst 0, 1) := by decide +kernel
theorem own_d_3_9 : decode method_3_code 9 = .ok (.newarray .char, 2) := by decide +kernel
theorem own_d_3_11 : decode method_3_code 11 = .ok (.invokespecial 9, 3) := by decide +kernel
theorem own_d_3_14 : decode method_3_code 14 = .ok (.areturn, 1) := by decide +kernel
theorem own_ef_make0 (m : MethodId) (c1 : Int32) (c2 : Int32) (c3 : Int32) (c4 : Int32) (c5 : Int32) : entryFrame m #[(.int (0 : Int32)), (.int c1), (.int c2), (.int c3), (.int c4), (.int c5)] 6 = mkF m 0 #[.val (.int (0 : Int32)), .val (.int c1), .val (.int c2), .val (.int c3), .val (.int c4), .val (.int c5)] [] := by (first | (simp [entryFrame, mkF, argsToLocals, Value.category]; done) | rfl)
def own_Q_make0 (Z : State) (c1 : Int32) (c2 : Int32) (c3 : Int32) (c4 : Int32) (c5 : Int32) (h0 : Heap) (n0 : Nat) (vq : Option Value) (h : Heap) (Lq : List Loc) : Prop := ∃ (x : Addr) (t : Addr) (kt : ClassId), (vq = some (.ref x)) ∧ (Fr n0 Lq) ∧ (Keep h0 h []) ∧ (h0.size ≤ x) ∧ (Exa Z h x "java/lang/String") ∧ (Fld Z h x "java/lang/String" "coder" "B" (.int (0 : Int32))) ∧ (Fld Z h x "java/lang/String" "value" "[B" (.ref t)) ∧ (Arv Z h t kt .byte (0 : Int32) ([]) (.int 0))
set_option maxRecDepth 65536 in
set_option maxHeartbeats 40000000 in
theorem own_rm_make0 (l : Launch) (Z : State) (a0 : Array Value) (hw : ∀ d ∈ tables_1, d.before a0 Z = true) (ws : List Jvm.Cond) (c1 : Int32) (c2 : Int32) (c3 : Int32) (c4 : Int32) (c5 : Int32) (h0 : Heap) (n0 : Nat) (Z0 : n0 ≤ h0.size) :
    MetFree l (⟨"com/example/dependency_container/dependencycontainer/BeanDefinitionIsPropertyPathPinLaw", "make", "(ICCCCC)Ljava/lang/String;"⟩ : MethodName) (head1 (Jvm.Cond.code (⟨"com/example/dependency_container/dependencycontainer/BeanDefinitionIsPropertyPathPinLaw", "make", "(ICCCCC)Ljava/lang/String;"⟩ : MethodName) method_3_code 6 (some (.object "java/lang/String")) :: ws) ({ frames := 3, cells := 6, slots := 12, locals := 43 } : Room)) (fun aq Uq => aq = #[(.int (0 : Int32)), (.int c1), (.int c2), (.int c3), (.int c4), (.int c5)] ∧ Z.Warmed39 Uq.vm ∧ Uq.heap = h0 ∧ CHv Z own_EL Uq.vm h0) (fun _ _ _ _ _ => True) (fun _ Uq oq Uq' => ∃ vq Lq, oq = .returned vq ∧ own_Q_make0 Z c1 c2 c3 c4 c5 h0 n0 vq Uq'.heap Lq ∧ CHr Z own_EL Uq.vm Uq.heap Uq'.vm Uq'.heap ∧ ReturnedEndW Uq oq Uq' Lq ({ frames := 3, cells := 6, slots := 12, locals := 43 } : Room).cells ({ frames := 3, cells := 6, slots := 12, locals := 43 } : Room).slots) := by
  refine MetFree.of_bodySF (plainFor_of_name own_pn4) hisR ?_
  intro p e s m args below meth cde s₁ Bd hml0 hP hK
  obtain ⟨rfl, hZ, hh, H0⟩ := hP
  have hx := Bd.exec
  have hby := Bd.bytes
  have hml : cde.maxLocals = 6 := hml0
  have hown : s.vm.findClass "com/example/dependency_container/dependencycontainer/BeanDefinitionIsPropertyPathPinLaw" = some m.cls := findClass_of_methodNamed Bd.named
  have hnm := (name_of_methodNamed Bd.named Bd.method).1
  have X0 : Stand p l e ({ frames := 3, cells := 6, slots := 12, locals := 43 } : Room) (s.setVm s.vm) m #[(.int (0 : Int32)), (.int c1), (.int c2), (.int c3), (.int c4), (.int c5)] below meth cde s₁ [] 0 0 := Stand.of_body Bd
  have e0 : s₁.heap = h0 := by rw [← hh, Bd.state]; rfl
  have N0 := Fr.nil n0
  have hS0 : s.Since s.vm h0.size := (State.WarmedH.refl s).since _
  have hk0 : h0.size ≤ h0.size := Nat.le_refl _
  have C0 : CHr Z own_EL s.vm h0 s.vm h0 := CHr.refl H0
  show own_FinH p e s below Z own_EL (own_Q_make0 Z c1 c2 c3 c4 c5 h0 n0) ({ frames := 3, cells := 6, slots := 12, locals := 43 } : Room).cells ({ frames := 3, cells := 6, slots := 12, locals := 43 } : Room).slots s₁ (entryFrame m #[(.int (0 : Int32)), (.int c1), (.int c2), (.int c3), (.int c4), (.int c5)] 6)
  rw [own_ef_make0 m c1 c2 c3 c4 c5]
  refine own_viaH (fun _ k => XS.iloadN X0.here hx rfl (hb hby own_d_3_0) rfl k) ?_
  show own_FinH _ _ _ _ _ _ _ _ _ s₁ (mkF m 1 #[.val (.int (0 : Int32)), .val (.int c1), .val (.int c2), .val (.int c3), .val (.int c4), .val (.int c5)] [(.int (0 : Int32))])
  refine own_viaH (fun _ k => XS.ifNo X0.here hx rfl (hb hby own_d_3_1) rfl ((if0 _ _).trans (teq rfl).2) k) ?_
  show own_FinH _ _ _ _ _ _ _ _ _ s₁ (mkF m 4 #[.val (.int (0 : Int32)), .val (.int c1), .val (.int c2), .val (.int c3), .val (.int c4), .val (.int c5)] [])
  obtain ⟨T1_, h1_, X1_, e1_, E1_, A1_, D1_, -, st1_⟩ := newO X0 hx hZ hown (hw _ (List.mem_of_getElem? (i := 7) rfl)) (hw _ (List.mem_of_getElem? (i := 8) rfl)) (hw _ (List.mem_of_getElem? (i := 9) rfl)) e0 (g := (mkF m 4 #[.val (.int (0 : Int32)), .val (.int c1), .val (.int c2), .val (.int c3), .val (.int c4), .val (.int c5)] [])) rfl (hb hby own_d_3_4) (by decide) (by decide)
  obtain ⟨b1_, g1_⟩ : ∃ z, z = h0.size := ⟨_, rfl⟩
  rw [← g1_] at A1_ D1_ st1_
  have F2_ : Fld Z h1_ b1_ "java/lang/String" "value" "[B" .null := D1_ (Or.inr (hw _ (List.mem_of_getElem? (i := 23) rfl))) (ty := (.array .byte)) (by decide)
  have F3_ : Fld Z h1_ b1_ "java/lang/String" "coder" "B" (.int (0 : Int32)) := D1_ (Or.inr (hw _ (List.mem_of_getElem? (i := 24) rfl))) (ty := .byte) (by decide)
  refine own_viaH (fun _ k => st1_ _ k) ?_
  show own_FinH _ _ _ _ _ _ _ _ _ T1_ (mkF m 7 #[.val (.int (0 : Int32)), .val (.int c1), .val (.int c2), .val (.int c3), .val (.int c4), .val (.int c5)] [(.ref b1_)])
  refine own_viaH (fun _ k => XS.dup X1_.here hx rfl (hb hby own_d_3_7) rfl rfl k) ?_
  show own_FinH _ _ _ _ _ _ _ _ _ T1_ (mkF m 8 #[.val (.int (0 : Int32)), .val (.int c1), .val (.int c2), .val (.int c3), .val (.int c4), .val (.int c5)] [(.ref b1_), (.ref b1_)])
  refine own_viaH (fun _ k => XS.iconst X1_.here hx rfl (hb hby own_d_3_8) k) ?_
  show own_FinH _ _ _ _ _ _ _ _ _ T1_ (mkF m 9 #[.val (.int (0 : Int32)), .val (.int c1), .val (.int c2), .val (.int c3), .val (.int c4), .val (.int c5)] [(.int (0 : Int32)), (.ref b1_), (.ref b1_)])
  obtain ⟨T4_, h4_, k4_, X4_, e4_, E4_, A4_, st4_⟩ := newP X1_ hx hZ (hw _ (List.mem_of_getElem? (i := 10) rfl)) e1_ (g := (mkF m 9 #[.val (.int (0 : Int32)), .val (.int c1), .val (.int c2), .val (.int c3), .val (.int c4), .val (.int c5)] [(.int (0 : Int32)), (.ref b1_), (.ref b1_)])) rfl (hb hby own_d_3_9) rfl (by decide) (cap := 0) (by decide) (by decide) (by decide) (by decide)
  obtain ⟨b4_, g4_⟩ : ∃ z, z = h1_.size := ⟨_, rfl⟩
  rw [← g4_] at A4_ st4_
  have V4_ : Arv Z h4_ b4_ k4_ .char (0 : Int32) [] (.int (0 : Int32)) := (Arv.new A4_ (by decide)).pad (pad_rep [] (.int (0 : Int32)) 0)
  refine own_viaH (fun _ k => st4_ _ k) ?_
  show own_FinH _ _ _ _ _ _ _ _ _ T4_ (mkF m 11 #[.val (.int (0 : Int32)), .val (.int c1), .val (.int c2), .val (.int c3), .val (.int c4), .val (.int c5)] [(.ref b4_), (.ref b1_), (.ref b1_)])
  have g6_ : n0 ≤ b1_ := Nat.le_trans Z0 (Nat.le_of_eq g1_.symm)
  have C7_ := C0.trans (CHr.ext E1_ H0)
  have H7_ := C7_.1
  have C8_ := C7_.trans (CHr.ext E4_ H7_)
  have H8_ := C8_.1
  obtain ⟨_, _, ⟨T5_, L5_, k5_, n5_⟩, -, Y5_, hSq5_, hgq5_, ⟨Lc5_, hQ5_, l5_, y5_, z5_, Cq5_⟩, st5_⟩ := X4_.specialBackS hx (y := (⟨"java/lang/String", "<init>", "([C)V"⟩ : MethodName)) rfl hown (mvT hZ (hw _ (List.mem_of_getElem? (i := 11) rfl))) (mvT hZ (hw _ (List.mem_of_getElem? (i := 12) rfl))) (mvT hZ (hw _ (List.mem_of_getElem? (i := 13) rfl))) (by decide) (backOfSH (s := s) (vm0 := s.vm) (W := 1) (own_rm_sInit1 l Z a0 hw [] b1_ b4_ k4_ (.int (0 : Int32)) h4_ n0 (Nat.le_trans Z0 (Nat.le_trans E1_.1 E4_.1)) (A1_.ext E4_) (F2_.ext E4_) (F3_.ext E4_) V4_ g6_) hZ (hw _ (List.mem_of_getElem? (i := 13) rfl)) (hw _ (List.mem_of_getElem? (i := 9) rfl)) (by decide) (by decide) (own_ew hw) H8_) (g := (mkF m 11 #[.val (.int (0 : Int32)), .val (.int c1), .val (.int c2), .val (.int c3), .val (.int c4), .val (.int c5)] [(.ref b4_), (.ref b1_), (.ref b1_)])) rfl (by rw [hml]; rfl) (Steps.refl _) (a := b1_) (argsL := [(.ref b4_)]) (rest := [(.ref b1_)]) (lenOf own_pd16 rfl) rfl (by show 2 * 0 + _ ≤ _; exact Nat.le_of_eq rfl) (hb hby own_d_3_11) (fun _ _ => ⟨rfl, e4_, (by decide : 0 + 1 + 1 + 4 ≤ _), (by decide : 0 + 4 + 0 + 8 ≤ _)⟩)
  dsimp only [Pt.U, Pt.locs, Pt.cells, Pt.slots] at Y5_ l5_ y5_ z5_ st5_ hQ5_ hSq5_ hgq5_ Cq5_
  subst l5_ y5_ z5_
  obtain ⟨X5_, hS5_, hZ5_, hown5_⟩ := rebS hS0 (by rw [e4_]; exact (Nat.le_trans hk0 (Nat.le_trans E1_.1 E4_.1))) Y5_ hSq5_ hgq5_ hZ hown
  obtain ⟨t, kt, rfl, Nq5_, K5_, r9_, r10_, r11_, r12_⟩ := hQ5_
  have N5_ := Fr.app N0 Nq5_
  refine own_viaH (fun _ k => st5_.trans k) ?_
  show own_FinH _ _ _ _ _ _ _ _ _ T5_ (mkF m 14 #[.val (.int (0 : Int32)), .val (.int c1), .val (.int c2), .val (.int c3), .val (.int c4), .val (.int c5)] [(.ref b1_)])
  have C13_ := C8_.trans Cq5_
  have H13_ := C13_.1
  exact own_retAH X5_ hx Bd.returns Bd.notSynchronized (own_ew hw) hZ5_ hS5_ (Nat.le_refl _) hh C13_ rfl rfl (hb hby own_d_3_14) rfl ⟨b1_, t, kt, rfl, N5_, ((((Keep.refl h0 []).ext E1_).ext E4_).trans K5_ (allS (Or.inr (Nat.le_of_eq g1_.symm)) all0)), (Nat.le_of_eq g1_.symm), r9_, r10_, r11_, r12_⟩ (by decide) (by decide)
theorem own_pd18 : parseMethodDescriptor "(ICCCCC)Ljava/lang/String;" = some ⟨[.int, .char, .char, .char, .char, .char], some (.object "java/lang/String")⟩ := by decide +kernel
theorem own_pd19 : parseMethodDescriptor "(Ljava/lang/String;)Z" = some ⟨[(.object "java/lang/String")], some .boolean⟩ := by decide +kernel
theorem own_ef_law (m : MethodId) (p1 : Int32) (p2 : Int32) (p3 : Int32) (p4 : Int32) (p5 : Int32) (p6 : Int32) : entryFrame m #[(.int p1), (.int p2), (.int p3), (.int p4), (.int p5), (.int p6)] maxLocals = mkF m 0 #[.val (.int p1), .val (.int p2), .val (.int p3), .val (.int p4), .val (.int p5), .val (.int p6), .unset, .unset, .unset, .unset, .unset, .unset, .unset, .unset, .unset, .unset, .unset] [] := by (first | (simp [entryFrame, mkF, argsToLocals, Value.category, maxLocals]; done) | rfl)
def own_Q_law (Z : State) (p1 : Int32) (p2 : Int32) (p3 : Int32) (p4 : Int32) (p5 : Int32) (p6 : Int32) (cz : Int32) (fm : Value) (h0 : Heap) (n0 : Nat) (vq : Option Value) (h : Heap) (Lq : List Loc) : Prop := (vq = some (.int (1 : Int32))) ∧ (Fr n0 Lq)
set_option maxRecDepth 65536 in
set_option maxHeartbeats 40000000 in
theorem own_rm_law (l : Launch) (Z : State) (a0 : Array Value) (hw : ∀ d ∈ tables_1, d.before a0 Z = true) (ws : List Jvm.Cond) (p1 : Int32) (p2 : Int32) (p3 : Int32) (p4 : Int32) (p5 : Int32) (p6 : Int32) (cz : Int32) (fm : Value) (h0 : Heap) (n0 : Nat) (Z0 : n0 ≤ h0.size) (O0 : Old Z n0 h0) (S1 : Sta Z Z.heap "java/lang/String" "COMPACT_STRINGS" "Z" (.int cz)) (P5 : ¬ cz = (0 : Int32)) (S2 : Sta Z Z.heap "jdk/internal/util/Preconditions" "SIOOBE_FORMATTER" "Ljava/util/function/BiFunction;" fm) (r_fm : fm.isRef = true) :
    MetFree l x (head1 (Jvm.Cond.code x code maxLocals ret :: ws) room_1) (fun aq Uq => aq = #[(.int p1), (.int p2), (.int p3), (.int p4), (.int p5), (.int p6)] ∧ Z.Warmed39 Uq.vm ∧ Uq.heap = h0 ∧ CHv Z own_EL Uq.vm h0) (fun _ _ _ _ _ => True) (fun _ Uq oq Uq' => ∃ vq Lq, oq = .returned vq ∧ own_Q_law Z p1 p2 p3 p4 p5 p6 cz fm h0 n0 vq Uq'.heap Lq ∧ CHr Z own_EL Uq.vm Uq.heap Uq'.vm Uq'.heap ∧ ReturnedEndW Uq oq Uq' Lq room_1.cells room_1.slots) := by
  refine MetFree.of_bodySF (plainFor_of_name own_pn4) hisR ?_
  intro p e s m args below meth cde s₁ Bd hml0 hP hK
  obtain ⟨rfl, hZ, hh, H0⟩ := hP
  have hx := Bd.exec
  have hby := Bd.bytes
  have hml : cde.maxLocals = 17 := hml0
  have hown : s.vm.findClass "com/example/dependency_container/dependencycontainer/BeanDefinitionIsPropertyPathPinLaw" = some m.cls := findClass_of_methodNamed Bd.named
  have hnm := (name_of_methodNamed Bd.named Bd.method).1
  have X0 : Stand p l e room_1 (s.setVm s.vm) m #[(.int p1), (.int p2), (.int p3), (.int p4), (.int p5), (.int p6)] below meth cde s₁ [] 0 0 := Stand.of_body Bd
  have e0 : s₁.heap = h0 := by rw [← hh, Bd.state]; rfl
  have N0 := Fr.nil n0
  have hS0 : s.Since s.vm h0.size := (State.WarmedH.refl s).since _
  have hk0 : h0.size ≤ h0.size := Nat.le_refl _
  have C0 : CHr Z own_EL s.vm h0 s.vm h0 := CHr.refl H0
  show own_FinH p e s below Z own_EL (own_Q_law Z p1 p2 p3 p4 p5 p6 cz fm h0 n0) room_1.cells room_1.slots s₁ (entryFrame m #[(.int p1), (.int p2), (.int p3), (.int p4), (.int p5), (.int p6)] maxLocals)
  rw [own_ef_law m p1 p2 p3 p4 p5 p6]
  refine own_viaH (fun _ k => XS.iloadN X0.here hx rfl (hb hby at_0) rfl k) ?_
  show own_FinH _ _ _ _ _ _ _ _ _ s₁ (mkF m 1 #[.val (.int p1), .val (.int p2), .val (.int p3), .val (.int p4), .val (.int p5), .val (.int p6), .unset, .unset, .unset, .unset, .unset, .unset, .unset, .unset, .unset, .unset, .unset] [(.int p1)])
  refine own_viaH (fun _ k => XS.bipush X0.here hx rfl (hb hby at_1) k) ?_
  show own_FinH _ _ _ _ _ _ _ _ _ s₁ (mkF m 3 #[.val (.int p1), .val (.int p2), .val (.int p3), .val (.int p4), .val (.int p5), .val (.int p6), .unset, .unset, .unset, .unset, .unset, .unset, .unset, .unset, .unset, .unset, .unset] [(.int (7 : Int32)), (.int p1)])
  refine own_viaH (fun _ k => XS.iand X0.here hx rfl (hb hby at_3) rfl k) ?_
  show own_FinH _ _ _ _ _ _ _ _ _ s₁ (mkF m 4 #[.val (.int p1), .val (.int p2), .val (.int p3), .val (.int p4), .val (.int p5), .val (.int p6), .unset, .unset, .unset, .unset, .unset, .unset, .unset, .unset, .unset, .unset, .unset] [(.int (p1 &&& (7 : Int32)))])
  refine own_viaH (fun _ k => XS.bipush X0.here hx rfl (hb hby at_4) k) ?_
  show own_FinH _ _ _ _ _ _ _ _ _ s₁ (mkF m 6 #[.val (.int p1), .val (.int p2), .val (.int p3), .val (.int p4), .val (.int p5), .val (.int p6), .unset, .unset, .unset, .unset, .unset, .unset, .unset, .unset, .unset, .unset, .unset] [(.int (6 : Int32)), (.int (p1 &&& (7 : Int32)))])
  refine own_viaH (fun _ k => iremM (g := (mkF m 6 #[.val (.int p1), .val (.int p2), .val (.int p3), .val (.int p4), .val (.int p5), .val (.int p6), .unset, .unset, .unset, .unset, .unset, .unset, .unset, .unset, .unset, .unset, .unset] [(.int (6 : Int32)), (.int (p1 &&& (7 : Int32)))])) X0 hx rfl (hb hby at_6) rfl (by decide) k) ?_
  show own_FinH _ _ _ _ _ _ _ _ _ s₁ (mkF m 7 #[.val (.int p1), .val (.int p2), .val (.int p3), .val (.int p4), .val (.int p5), .val (.int p6), .unset, .unset, .unset, .unset, .unset, .unset, .unset, .unset, .unset, .unset, .unset] [(.int ((p1 &&& (7 : Int32)) % (6 : Int32)))])
  refine own_viaH (fun _ k => XS.istore X0.here hx rfl (hb hby at_7) rfl (l' := #[.val (.int p1), .val (.int p2), .val (.int p3), .val (.int p4), .val (.int p5), .val (.int p6), .val (.int ((p1 &&& (7 : Int32)) % (6 : Int32))), .unset, .unset, .unset, .unset, .unset, .unset, .unset, .unset, .unset, .unset]) rfl k) ?_
  show own_FinH _ _ _ _ _ _ _ _ _ s₁ (mkF m 9 #[.val (.int p1), .val (.int p2), .val (.int p3), .val (.int p4), .val (.int p5), .val (.int p6), .val (.int ((p1 &&& (7 : Int32)) % (6 : Int32))), .unset, .unset, .unset, .unset, .unset, .unset, .unset, .unset, .unset, .unset] [])
  refine own_viaH (fun _ k => XS.iloadN X0.here hx rfl (hb hby at_9) rfl k) ?_
  show own_FinH _ _ _ _ _ _ _ _ _ s₁ (mkF m 10 #[.val (.int p1), .val (.int p2), .val (.int p3), .val (.int p4), .val (.int p5), .val (.int p6), .val (.int ((p1 &&& (7 : Int32)) % (6 : Int32))), .unset, .unset, .unset, .unset, .unset, .unset, .unset, .unset, .unset, .unset] [(.int p2)])
  obtain ⟨_, _, ⟨T1_, L1_, k1_, n1_⟩, -, X1_, ⟨Lc1_, hQ1_, l1_, y1_, z1_⟩, st1_⟩ := Jvm.LawKit.callS X0 hx (y := (⟨"com/example/dependency_container/dependencycontainer/BeanDefinitionIsPropertyPathPinLaw", "pick", "(I)C"⟩ : MethodName)) hown (mvT hZ (hw _ (List.mem_of_getElem? (i := 0) rfl))) (mvT hZ (hw _ (List.mem_of_getElem? (i := 1) rfl))) (mvT hZ (hw _ (List.mem_of_getElem? (i := 2) rfl))) (mvT hZ (hw _ (List.mem_of_getElem? (i := 3) rfl))) (by decide) (backOf (W := 0) (own_rm_pick l Z a0 hw [] p2 h0 n0 Z0 ) hZ (hw _ (List.mem_of_getElem? (i := 3) rfl)) (hw _ (List.mem_of_getElem? (i := 2) rfl)) (by decide) (by decide)) (g := (mkF m 10 #[.val (.int p1), .val (.int p2), .val (.int p3), .val (.int p4), .val (.int p5), .val (.int p6), .val (.int ((p1 &&& (7 : Int32)) % (6 : Int32))), .unset, .unset, .unset, .unset, .unset, .unset, .unset, .unset, .unset, .unset] [(.int p2)])) rfl (by rw [hml]; rfl) (argsL := [(.int p2)]) (rest := []) (lenOf own_pd14 rfl) rfl (by show 2 * 0 + _ ≤ _; exact Nat.le_of_eq rfl) (hb hby at_10) (fun _ _ => ⟨rfl, e0, (by decide : 0 + 0 ≤ _), (by decide : 0 + 0 ≤ _)⟩)
  dsimp only [Pt.U, Pt.locs, Pt.cells, Pt.slots] at X1_ l1_ y1_ z1_ st1_ hQ1_
  subst l1_ y1_ z1_
  obtain ⟨c1, rfl, Nq1_, hh1_, hc1⟩ := hQ1_
  have N1_ := Fr.app N0 Nq1_
  refine own_viaH (fun _ k => st1_ _ k) ?_
  show own_FinH _ _ _ _ _ _ _ _ _ T1_ (mkF m 13 #[.val (.int p1), .val (.int p2), .val (.int p3), .val (.int p4), .val (.int p5), .val (.int p6), .val (.int ((p1 &&& (7 : Int32)) % (6 : Int32))), .unset, .unset, .unset, .unset, .unset, .unset, .unset, .unset, .unset, .unset] [(.int c1)])
  refine own_viaH (fun _ k => XS.istore X1_.here hx rfl (hb hby at_13) rfl (l' := #[.val (.int p1), .val (.int p2), .val (.int p3), .val (.int p4), .val (.int p5), .val (.int p6), .val (.int ((p1 &&& (7 : Int32)) % (6 : Int32))), .val (.int c1), .unset, .unset, .unset, .unset, .unset, .unset, .unset, .unset, .unset]) rfl k) ?_
  show own_FinH _ _ _ _ _ _ _ _ _ T1_ (mkF m 15 #[.val (.int p1), .val (.int p2), .val (.int p3), .val (.int p4), .val (.int p5), .val (.int p6), .val (.int ((p1 &&& (7 : Int32)) % (6 : Int32))), .val (.int c1), .unset, .unset, .unset, .unset, .unset, .unset, .unset, .unset, .unset] [])
  refine own_viaH (fun _ k => XS.iloadN X1_.here hx rfl (hb hby at_15) rfl k) ?_
  show own_FinH _ _ _ _ _ _ _ _ _ T1_ (mkF m 16 #[.val (.int p1), .val (.int p2), .val (.int p3), .val (.int p4), .val (.int p5), .val (.int p6), .val (.int ((p1 &&& (7 : Int32)) % (6 : Int32))), .val (.int c1), .unset, .unset, .unset, .unset, .unset, .unset, .unset, .unset, .unset] [(.int p3)])
  obtain ⟨_, _, ⟨T2_, L2_, k2_, n2_⟩, -, X2_, ⟨Lc2_, hQ2_, l2_, y2_, z2_⟩, st2_⟩ := Jvm.LawKit.callS X1_ hx (y := (⟨"com/example/dependency_container/dependencycontainer/BeanDefinitionIsPropertyPathPinLaw", "pick", "(I)C"⟩ : MethodName)) hown (mvT hZ (hw _ (List.mem_of_getElem? (i := 0) rfl))) (mvT hZ (hw _ (List.mem_of_getElem? (i := 1) rfl))) (mvT hZ (hw _ (List.mem_of_getElem? (i := 2) rfl))) (mvT hZ (hw _ (List.mem_of_getElem? (i := 3) rfl))) (by decide) (backOf (W := 0) (own_rm_pick l Z a0 hw [] p3 h0 n0 Z0 ) hZ (hw _ (List.mem_of_getElem? (i := 3) rfl)) (hw _ (List.mem_of_getElem? (i := 2) rfl)) (by decide) (by decide)) (g := (mkF m 16 #[.val (.int p1), .val (.int p2), .val (.int p3), .val (.int p4), .val (.int p5), .val (.int p6), .val (.int ((p1 &&& (7 : Int32)) % (6 : Int32))), .val (.int c1), .unset, .unset, .unset, .unset, .unset, .unset, .unset, .unset, .unset] [(.int p3)])) rfl (by rw [hml]; rfl) (argsL := [(.int p3)]) (rest := []) (lenOf own_pd14 rfl) rfl (by show 2 * 0 + _ ≤ _; exact Nat.le_of_eq rfl) (hb hby at_16) (fun _ _ => ⟨rfl, hh1_, (by decide : 0 + 0 + 0 ≤ _), (by decide : 0 + 0 + 0 ≤ _)⟩)
  dsimp only [Pt.U, Pt.locs, Pt.cells, Pt.slots] at X2_ l2_ y2_ z2_ st2_ hQ2_
  subst l2_ y2_ z2_
  obtain ⟨c2, rfl, Nq2_, hh2_, hc2⟩ := hQ2_
  have N2_ := Fr.app N1_ Nq2_
  refine own_viaH (fun _ k => st2_ _ k) ?_
  show own_FinH _ _ _ _ _ _ _ _ _ T2_ (mkF m 19 #[.val (.int p1), .val (.int p2), .val (.int p3), .val (.int p4), .val (.int p5), .val (.int p6), .val (.int ((p1 &&& (7 : Int32)) % (6 : Int32))), .val (.int c1), .unset, .unset, .unset, .unset, .unset, .unset, .unset, .unset, .unset] [(.int c2)])
  refine own_viaH (fun _ k => XS.istore X2_.here hx rfl (hb hby at_19) rfl (l' := #[.val (.int p1), .val (.int p2), .val (.int p3), .val (.int p4), .val (.int p5), .val (.int p6), .val (.int ((p1 &&& (7 : Int32)) % (6 : Int32))), .val (.int c1), .val (.int c2), .unset, .unset, .unset, .unset, .unset, .unset, .unset, .unset]) rfl k) ?_
  show own_FinH _ _ _ _ _ _ _ _ _ T2_ (mkF m 21 #[.val (.int p1), .val (.int p2), .val (.int p3), .val (.int p4), .val (.int p5), .val (.int p6), .val (.int ((p1 &&& (7 : Int32)) % (6 : Int32))), .val (.int c1), .val (.int c2), .unset, .unset, .unset, .unset, .unset, .unset, .unset, .unset] [])
  refine own_viaH (fun _ k => XS.iloadN X2_.here hx rfl (hb hby at_21) rfl k) ?_
  show own_FinH _ _ _ _ _ _ _ _ _ T2_ (mkF m 22 #[.val (.int p1), .val (.int p2), .val (.int p3), .val (.int p4), .val (.int p5), .val (.int p6), .val (.int ((p1 &&& (7 : Int32)) % (6 : Int32))), .val (.int c1), .val (.int c2), .unset, .unset, .unset, .unset, .unset, .unset, .unset, .unset] [(.int p4)])
  obtain ⟨_, _, ⟨T3_, L3_, k3_, n3_⟩, -, X3_, ⟨Lc3_, hQ3_, l3_, y3_, z3_⟩, st3_⟩ := Jvm.LawKit.callS X2_ hx (y := (⟨"com/example/dependency_container/dependencycontainer/BeanDefinitionIsPropertyPathPinLaw", "pick", "(I)C"⟩ : MethodName)) hown (mvT hZ (hw _ (List.mem_of_getElem? (i := 0) rfl))) (mvT hZ (hw _ (List.mem_of_getElem? (i := 1) rfl))) (mvT hZ (hw _ (List.mem_of_getElem? (i := 2) rfl))) (mvT hZ (hw _ (List.mem_of_getElem? (i := 3) rfl))) (by decide) (backOf (W := 0) (own_rm_pick l Z a0 hw [] p4 h0 n0 Z0 ) hZ (hw _ (List.mem_of_getElem? (i := 3) rfl)) (hw _ (List.mem_of_getElem? (i := 2) rfl)) (by decide) (by decide)) (g := (mkF m 22 #[.val (.int p1), .val (.int p2), .val (.int p3), .val (.int p4), .val (.int p5), .val (.int p6), .val (.int ((p1 &&& (7 : Int32)) % (6 : Int32))), .val (.int c1), .val (.int c2), .unset, .unset, .unset, .unset, .unset, .unset, .unset, .unset] [(.int p4)])) rfl (by rw [hml]; rfl) (argsL := [(.int p4)]) (rest := []) (lenOf own_pd14 rfl) rfl (by show 2 * 0 + _ ≤ _; exact Nat.le_of_eq rfl) (hb hby at_22) (fun _ _ => ⟨rfl, hh2_, (by decide : 0 + 0 + 0 + 0 ≤ _), (by decide : 0 + 0 + 0 + 0 ≤ _)⟩)
  dsimp only [Pt.U, Pt.locs, Pt.cells, Pt.slots] at X3_ l3_ y3_ z3_ st3_ hQ3_
  subst l3_ y3_ z3_
  obtain ⟨c3, rfl, Nq3_, hh3_, hc3⟩ := hQ3_
  have N3_ := Fr.app N2_ Nq3_
  refine own_viaH (fun _ k => st3_ _ k) ?_
  show own_FinH _ _ _ _ _ _ _ _ _ T3_ (mkF m 25 #[.val (.int p1), .val (.int p2), .val (.int p3), .val (.int p4), .val (.int p5), .val (.int p6), .val (.int ((p1 &&& (7 : Int32)) % (6 : Int32))), .val (.int c1), .val (.int c2), .unset, .unset, .unset, .unset, .unset, .unset, .unset, .unset] [(.int c3)])
  refine own_viaH (fun _ k => XS.istore X3_.here hx rfl (hb hby at_25) rfl (l' := #[.val (.int p1), .val (.int p2), .val (.int p3), .val (.int p4), .val (.int p5), .val (.int p6), .val (.int ((p1 &&& (7 : Int32)) % (6 : Int32))), .val (.int c1), .val (.int c2), .val (.int c3), .unset, .unset, .unset, .unset, .unset, .unset, .unset]) rfl k) ?_
  show own_FinH _ _ _ _ _ _ _ _ _ T3_ (mkF m 27 #[.val (.int p1), .val (.int p2), .val (.int p3), .val (.int p4), .val (.int p5), .val (.int p6), .val (.int ((p1 &&& (7 : Int32)) % (6 : Int32))), .val (.int c1), .val (.int c2), .val (.int c3), .unset, .unset, .unset, .unset, .unset, .unset, .unset] [])
  refine own_viaH (fun _ k => XS.iload X3_.here hx rfl (hb hby at_27) rfl k) ?_
  show own_FinH _ _ _ _ _ _ _ _ _ T3_ (mkF m 29 #[.val (.int p1), .val (.int p2), .val (.int p3), .val (.int p4), .val (.int p5), .val (.int p6), .val (.int ((p1 &&& (7 : Int32)) % (6 : Int32))), .val (.int c1), .val (.int c2), .val (.int c3), .unset, .unset, .unset, .unset, .unset, .unset, .unset] [(.int p5)])
  obtain ⟨_, _, ⟨T4_, L4_, k4_, n4_⟩, -, X4_, ⟨Lc4_, hQ4_, l4_, y4_, z4_⟩, st4_⟩ := Jvm.LawKit.callS X3_ hx (y := (⟨"com/example/dependency_container/dependencycontainer/BeanDefinitionIsPropertyPathPinLaw", "pick", "(I)C"⟩ : MethodName)) hown (mvT hZ (hw _ (List.mem_of_getElem? (i := 0) rfl))) (mvT hZ (hw _ (List.mem_of_getElem? (i := 1) rfl))) (mvT hZ (hw _ (List.mem_of_getElem? (i := 2) rfl))) (mvT hZ (hw _ (List.mem_of_getElem? (i := 3) rfl))) (by decide) (backOf (W := 0) (own_rm_pick l Z a0 hw [] p5 h0 n0 Z0 ) hZ (hw _ (List.mem_of_getElem? (i := 3) rfl)) (hw _ (List.mem_of_getElem? (i := 2) rfl)) (by decide) (by decide)) (g := (mkF m 29 #[.val (.int p1), .val (.int p2), .val (.int p3), .val (.int p4), .val (.int p5), .val (.int p6), .val (.int ((p1 &&& (7 : Int32)) % (6 : Int32))), .val (.int c1), .val (.int c2), .val (.int c3), .unset, .unset, .unset, .unset, .unset, .unset, .unset] [(.int p5)])) rfl (by rw [hml]; rfl) (argsL := [(.int p5)]) (rest := []) (lenOf own_pd14 rfl) rfl (by show 2 * 0 + _ ≤ _; exact Nat.le_of_eq rfl) (hb hby at_29) (fun _ _ => ⟨rfl, hh3_, (by decide : 0 + 0 + 0 + 0 + 0 ≤ _), (by decide : 0 + 0 + 0 + 0 + 0 ≤ _)⟩)
  dsimp only [Pt.U, Pt.locs, Pt.cells, Pt.slots] at X4_ l4_ y4_ z4_ st4_ hQ4_
  subst l4_ y4_ z4_
  obtain ⟨c4, rfl, Nq4_, hh4_, hc4⟩ := hQ4_
  have N4_ := Fr.app N3_ Nq4_
  refine own_viaH (fun _ k => st4_ _ k) ?_
  show own_FinH _ _ _ _ _ _ _ _ _ T4_ (mkF m 32 #[.val (.int p1), .val (.int p2), .val (.int p3), .val (.int p4), .val (.int p5), .val (.int p6), .val (.int ((p1 &&& (7 : Int32)) % (6 : Int32))), .val (.int c1), .val (.int c2), .val (.int c3), .unset, .unset, .unset, .unset, .unset, .unset, .unset] [(.int c4)])
  refine own_viaH (fun _ k => XS.istore X4_.here hx rfl (hb hby at_32) rfl (l' := #[.val (.int p1), .val (.int p2), .val (.int p3), .val (.int p4), .val (.int p5), .val (.int p6), .val (.int ((p1 &&& (7 : Int32)) % (6 : Int32))), .val (.int c1), .val (.int c2), .val (.int c3), .val (.int c4), .unset, .unset, .unset, .unset, .unset, .unset]) rfl k) ?_
  show own_FinH _ _ _ _ _ _ _ _ _ T4_ (mkF m 34 #[.val (.int p1), .val (.int p2), .val (.int p3), .val (.int p4), .val (.int p5), .val (.int p6), .val (.int ((p1 &&& (7 : Int32)) % (6 : Int32))), .val (.int c1), .val (.int c2), .val (.int c3), .val (.int c4), .unset, .unset, .unset, .unset, .unset, .unset] [])
  refine own_viaH (fun _ k => XS.iload X4_.here hx rfl (hb hby at_34) rfl k) ?_
  show own_FinH _ _ _ _ _ _ _ _ _ T4_ (mkF m 36 #[.val (.int p1), .val (.int p2), .val (.int p3), .val (.int p4), .val (.int p5), .val (.int p6), .val (.int ((p1 &&& (7 : Int32)) % (6 : Int32))), .val (.int c1), .val (.int c2), .val (.int c3), .val (.int c4), .unset, .unset, .unset, .unset, .unset, .unset] [(.int p6)])
  obtain ⟨_, _, ⟨T5_, L5_, k5_, n5_⟩, -, X5_, ⟨Lc5_, hQ5_, l5_, y5_, z5_⟩, st5_⟩ := Jvm.LawKit.callS X4_ hx (y := (⟨"com/example/dependency_container/dependencycontainer/BeanDefinitionIsPropertyPathPinLaw", "pick", "(I)C"⟩ : MethodName)) hown (mvT hZ (hw _ (List.mem_of_getElem? (i := 0) rfl))) (mvT hZ (hw _ (List.mem_of_getElem? (i := 1) rfl))) (mvT hZ (hw _ (List.mem_of_getElem? (i := 2) rfl))) (mvT hZ (hw _ (List.mem_of_getElem? (i := 3) rfl))) (by decide) (backOf (W := 0) (own_rm_pick l Z a0 hw [] p6 h0 n0 Z0 ) hZ (hw _ (List.mem_of_getElem? (i := 3) rfl)) (hw _ (List.mem_of_getElem? (i := 2) rfl)) (by decide) (by decide)) (g := (mkF m 36 #[.val (.int p1), .val (.int p2), .val (.int p3), .val (.int p4), .val (.int p5), .val (.int p6), .val (.int ((p1 &&& (7 : Int32)) % (6 : Int32))), .val (.int c1), .val (.int c2), .val (.int c3), .val (.int c4), .unset, .unset, .unset, .unset, .unset, .unset] [(.int p6)])) rfl (by rw [hml]; rfl) (argsL := [(.int p6)]) (rest := []) (lenOf own_pd14 rfl) rfl (by show 2 * 0 + _ ≤ _; exact Nat.le_of_eq rfl) (hb hby at_36) (fun _ _ => ⟨rfl, hh4_, (by decide : 0 + 0 + 0 + 0 + 0 + 0 ≤ _), (by decide : 0 + 0 + 0 + 0 + 0 + 0 ≤ _)⟩)
  dsimp only [Pt.U, Pt.locs, Pt.cells, Pt.slots] at X5_ l5_ y5_ z5_ st5_ hQ5_
  subst l5_ y5_ z5_
  obtain ⟨c5, rfl, Nq5_, hh5_, hc5⟩ := hQ5_
  have N5_ := Fr.app N4_ Nq5_
  refine own_viaH (fun _ k => st5_ _ k) ?_
  show own_FinH _ _ _ _ _ _ _ _ _ T5_ (mkF m 39 #[.val (.int p1), .val (.int p2), .val (.int p3), .val (.int p4), .val (.int p5), .val (.int p6), .val (.int ((p1 &&& (7 : Int32)) % (6 : Int32))), .val (.int c1), .val (.int c2), .val (.int c3), .val (.int c4), .unset, .unset, .unset, .unset, .unset, .unset] [(.int c5)])
  refine own_viaH (fun _ k => XS.istore X5_.here hx rfl (hb hby at_39) rfl (l' := #[.val (.int p1), .val (.int p2), .val (.int p3), .val (.int p4), .val (.int p5), .val (.int p6), .val (.int ((p1 &&& (7 : Int32)) % (6 : Int32))), .val (.int c1), .val (.int c2), .val (.int c3), .val (.int c4), .val (.int c5), .unset, .unset, .unset, .unset, .unset]) rfl k) ?_
  show own_FinH _ _ _ _ _ _ _ _ _ T5_ (mkF m 41 #[.val (.int p1), .val (.int p2), .val (.int p3), .val (.int p4), .val (.int p5), .val (.int p6), .val (.int ((p1 &&& (7 : Int32)) % (6 : Int32))), .val (.int c1), .val (.int c2), .val (.int c3), .val (.int c4), .val (.int c5), .unset, .unset, .unset, .unset, .unset] [])
  have s41 : ∀ (nn : Int32) (hnn : own_06 nn), own_FinH p e s below Z own_EL (own_Q_law Z p1 p2 p3 p4 p5 p6 cz fm h0 n0) room_1.cells room_1.slots T5_ (mkF m 41 #[.val (.int p1), .val (.int p2), .val (.int p3), .val (.int p4), .val (.int p5), .val (.int p6), .val (.int nn), .val (.int c1), .val (.int c2), .val (.int c3), .val (.int c4), .val (.int c5), .unset, .unset, .unset, .unset, .unset] []) := by
    intro nn hnn
    rcases hnn with rfl | rfl | rfl | rfl | rfl | rfl
    · show own_FinH _ _ _ _ _ _ _ _ _ T5_ (mkF m 41 #[.val (.int p1), .val (.int p2), .val (.int p3), .val (.int p4), .val (.int p5), .val (.int p6), .val (.int (0 : Int32)), .val (.int c1), .val (.int c2), .val (.int c3), .val (.int c4), .val (.int c5), .unset, .unset, .unset, .unset, .unset] [])
      refine own_viaH (fun _ k => XS.iload X5_.here hx rfl (hb hby at_41) rfl k) ?_
      show own_FinH _ _ _ _ _ _ _ _ _ T5_ (mkF m 43 #[.val (.int p1), .val (.int p2), .val (.int p3), .val (.int p4), .val (.int p5), .val (.int p6), .val (.int (0 : Int32)), .val (.int c1), .val (.int c2), .val (.int c3), .val (.int c4), .val (.int c5), .unset, .unset, .unset, .unset, .unset] [(.int (0 : Int32))])
      refine own_viaH (fun _ k => XS.iload X5_.here hx rfl (hb hby at_43) rfl k) ?_
      show own_FinH _ _ _ _ _ _ _ _ _ T5_ (mkF m 45 #[.val (.int p1), .val (.int p2), .val (.int p3), .val (.int p4), .val (.int p5), .val (.int p6), .val (.int (0 : Int32)), .val (.int c1), .val (.int c2), .val (.int c3), .val (.int c4), .val (.int c5), .unset, .unset, .unset, .unset, .unset] [(.int c1), (.int (0 : Int32))])
      refine own_viaH (fun _ k => XS.iload X5_.here hx rfl (hb hby at_45) rfl k) ?_
      show own_FinH _ _ _ _ _ _ _ _ _ T5_ (mkF m 47 #[.val (.int p1), .val (.int p2), .val (.int p3), .val (.int p4), .val (.int p5), .val (.int p6), .val (.int (0 : Int32)), .val (.int c1), .val (.int c2), .val (.int c3), .val (.int c4), .val (.int c5), .unset, .unset, .unset, .unset, .unset] [(.int c2), (.int c1), (.int (0 : Int32))])
      refine own_viaH (fun _ k => XS.iload X5_.here hx rfl (hb hby at_47) rfl k) ?_
      show own_FinH _ _ _ _ _ _ _ _ _ T5_ (mkF m 49 #[.val (.int p1), .val (.int p2), .val (.int p3), .val (.int p4), .val (.int p5), .val (.int p6), .val (.int (0 : Int32)), .val (.int c1), .val (.int c2), .val (.int c3), .val (.int c4), .val (.int c5), .unset, .unset, .unset, .unset, .unset] [(.int c3), (.int c2), (.int c1), (.int (0 : Int32))])
      refine own_viaH (fun _ k => XS.iload X5_.here hx rfl (hb hby at_49) rfl k) ?_
      show own_FinH _ _ _ _ _ _ _ _ _ T5_ (mkF m 51 #[.val (.int p1), .val (.int p2), .val (.int p3), .val (.int p4), .val (.int p5), .val (.int p6), .val (.int (0 : Int32)), .val (.int c1), .val (.int c2), .val (.int c3), .val (.int c4), .val (.int c5), .unset, .unset, .unset, .unset, .unset] [(.int c4), (.int c3), (.int c2), (.int c1), (.int (0 : Int32))])
      refine own_viaH (fun _ k => XS.iload X5_.here hx rfl (hb hby at_51) rfl k) ?_
      show own_FinH _ _ _ _ _ _ _ _ _ T5_ (mkF m 53 #[.val (.int p1), .val (.int p2), .val (.int p3), .val (.int p4), .val (.int p5), .val (.int p6), .val (.int (0 : Int32)), .val (.int c1), .val (.int c2), .val (.int c3), .val (.int c4), .val (.int c5), .unset, .unset, .unset, .unset, .unset] [(.int c5), (.int c4), (.int c3), (.int c2), (.int c1), (.int (0 : Int32))])
      obtain ⟨_, _, ⟨T6_, L6_, k6_, n6_⟩, -, Y6_, hSq6_, hgq6_, ⟨Lc6_, hQ6_, l6_, y6_, z6_, Cq6_⟩, st6_⟩ := callSS X5_ hx (y := (⟨"com/example/dependency_container/dependencycontainer/BeanDefinitionIsPropertyPathPinLaw", "make", "(ICCCCC)Ljava/lang/String;"⟩ : MethodName)) hown (mvT hZ (hw _ (List.mem_of_getElem? (i := 4) rfl))) (mvT hZ (hw _ (List.mem_of_getElem? (i := 5) rfl))) (mvT hZ (hw _ (List.mem_of_getElem? (i := 2) rfl))) (mvT hZ (hw _ (List.mem_of_getElem? (i := 6) rfl))) (by decide) (backOfSH (s := s) (vm0 := s.vm) (W := 0) (own_rm_make0 l Z a0 hw [] c1 c2 c3 c4 c5 h0 n0 Z0 ) hZ (hw _ (List.mem_of_getElem? (i := 6) rfl)) (hw _ (List.mem_of_getElem? (i := 2) rfl)) (by decide) (by decide) (own_ew hw) H0) (g := (mkF m 53 #[.val (.int p1), .val (.int p2), .val (.int p3), .val (.int p4), .val (.int p5), .val (.int p6), .val (.int (0 : Int32)), .val (.int c1), .val (.int c2), .val (.int c3), .val (.int c4), .val (.int c5), .unset, .unset, .unset, .unset, .unset] [(.int c5), (.int c4), (.int c3), (.int c2), (.int c1), (.int (0 : Int32))])) rfl (by rw [hml]; rfl) (argsL := [(.int (0 : Int32)), (.int c1), (.int c2), (.int c3), (.int c4), (.int c5)]) (rest := []) (lenOf own_pd18 rfl) rfl (by show 2 * 0 + _ ≤ _; exact Nat.le_of_eq rfl) (hb hby at_53) (fun _ _ => ⟨rfl, hh5_, (by decide : 0 + 0 + 0 + 0 + 0 + 0 + 6 ≤ _), (by decide : 0 + 0 + 0 + 0 + 0 + 0 + 12 ≤ _)⟩)
      dsimp only [Pt.U, Pt.locs, Pt.cells, Pt.slots] at Y6_ l6_ y6_ z6_ st6_ hQ6_ hSq6_ hgq6_ Cq6_
      subst l6_ y6_ z6_
      obtain ⟨X6_, hS6_, hZ6_, hown6_⟩ := rebS hS0 (by rw [hh5_]; exact hk0) Y6_ hSq6_ hgq6_ hZ hown
      obtain ⟨x7_, t8_, kt9_, rfl, Nq6_, K6_, r10_, r11_, r12_, r13_, r14_⟩ := hQ6_
      have N6_ := Fr.app N5_ Nq6_
      refine own_viaH (fun _ k => st6_.trans k) ?_
      show own_FinH _ _ _ _ _ _ _ _ _ T6_ (mkF m 56 #[.val (.int p1), .val (.int p2), .val (.int p3), .val (.int p4), .val (.int p5), .val (.int p6), .val (.int (0 : Int32)), .val (.int c1), .val (.int c2), .val (.int c3), .val (.int c4), .val (.int c5), .unset, .unset, .unset, .unset, .unset] [(.ref x7_)])
      refine own_viaH (fun _ k => XS.astore X6_.here hx rfl (hb hby at_56) rfl rfl (l' := #[.val (.int p1), .val (.int p2), .val (.int p3), .val (.int p4), .val (.int p5), .val (.int p6), .val (.int (0 : Int32)), .val (.int c1), .val (.int c2), .val (.int c3), .val (.int c4), .val (.int c5), .val (.ref x7_), .unset, .unset, .unset, .unset]) rfl k) ?_
      show own_FinH _ _ _ _ _ _ _ _ _ T6_ (mkF m 58 #[.val (.int p1), .val (.int p2), .val (.int p3), .val (.int p4), .val (.int p5), .val (.int p6), .val (.int (0 : Int32)), .val (.int c1), .val (.int c2), .val (.int c3), .val (.int c4), .val (.int c5), .val (.ref x7_), .unset, .unset, .unset, .unset] [])
      refine own_viaH (fun _ k => XS.aload X6_.here hx rfl (hb hby at_58) rfl rfl k) ?_
      show own_FinH _ _ _ _ _ _ _ _ _ T6_ (mkF m 60 #[.val (.int p1), .val (.int p2), .val (.int p3), .val (.int p4), .val (.int p5), .val (.int p6), .val (.int (0 : Int32)), .val (.int c1), .val (.int c2), .val (.int c3), .val (.int c4), .val (.int c5), .val (.ref x7_), .unset, .unset, .unset, .unset] [(.ref x7_)])
      obtain ⟨_, _, ⟨T15_, L15_, k15_, n15_⟩, -, X15_, ⟨Lc15_, hQ15_, l15_, y15_, z15_⟩, st15_⟩ := Jvm.LawKit.callS X6_ hx (y := (⟨"com/example/dependency_container/dependencycontainer/BeanDefinition", "isPropertyPath", "(Ljava/lang/String;)Z"⟩ : MethodName)) hown6_ (mvT hZ6_ (hw _ (List.mem_of_getElem? (i := 29) rfl))) (mvT hZ6_ (hw _ (List.mem_of_getElem? (i := 30) rfl))) (mvT hZ6_ (hw _ (List.mem_of_getElem? (i := 31) rfl))) (mvT hZ6_ (hw _ (List.mem_of_getElem? (i := 32) rfl))) (by decide) (backOf (W := 0) (own_rm_ipp0 l Z a0 hw [] x7_ t8_ kt9_ T6_.heap n0 (Nat.le_trans Z0 K6_.1) r11_ r13_ r14_) hZ6_ (hw _ (List.mem_of_getElem? (i := 32) rfl)) (hw _ (List.mem_of_getElem? (i := 31) rfl)) (by decide) (by decide)) (g := (mkF m 60 #[.val (.int p1), .val (.int p2), .val (.int p3), .val (.int p4), .val (.int p5), .val (.int p6), .val (.int (0 : Int32)), .val (.int c1), .val (.int c2), .val (.int c3), .val (.int c4), .val (.int c5), .val (.ref x7_), .unset, .unset, .unset, .unset] [(.ref x7_)])) rfl (by rw [hml]; rfl) (argsL := [(.ref x7_)]) (rest := []) (lenOf own_pd19 rfl) rfl (by show 2 * 0 + _ ≤ _; exact Nat.le_of_eq rfl) (hb hby at_60) (fun _ _ => ⟨rfl, rfl, (by decide : 0 + 0 + 0 + 0 + 0 + 0 + 6 + 0 ≤ _), (by decide : 0 + 0 + 0 + 0 + 0 + 0 + 12 + 0 ≤ _)⟩)
      dsimp only [Pt.U, Pt.locs, Pt.cells, Pt.slots] at X15_ l15_ y15_ z15_ st15_ hQ15_
      subst l15_ y15_ z15_
      obtain ⟨rfl, Nq15_, hh15_⟩ := hQ15_
      have N15_ := Fr.app N6_ Nq15_
      refine own_viaH (fun _ k => st15_ _ k) ?_
      show own_FinH _ _ _ _ _ _ _ _ _ T15_ (mkF m 63 #[.val (.int p1), .val (.int p2), .val (.int p3), .val (.int p4), .val (.int p5), .val (.int p6), .val (.int (0 : Int32)), .val (.int c1), .val (.int c2), .val (.int c3), .val (.int c4), .val (.int c5), .val (.ref x7_), .unset, .unset, .unset, .unset] [(.int (0 : Int32))])
      refine own_viaH (fun _ k => XS.istore X15_.here hx rfl (hb hby at_63) rfl (l' := #[.val (.int p1), .val (.int p2), .val (.int p3), .val (.int p4), .val (.int p5), .val (.int p6), .val (.int (0 : Int32)), .val (.int c1), .val (.int c2), .val (.int c3), .val (.int c4), .val (.int c5), .val (.ref x7_), .val (.int (0 : Int32)), .unset, .unset, .unset]) rfl k) ?_
      show own_FinH _ _ _ _ _ _ _ _ _ T15_ (mkF m 65 #[.val (.int p1), .val (.int p2), .val (.int p3), .val (.int p4), .val (.int p5), .val (.int p6), .val (.int (0 : Int32)), .val (.int c1), .val (.int c2), .val (.int c3), .val (.int c4), .val (.int c5), .val (.ref x7_), .val (.int (0 : Int32)), .unset, .unset, .unset] [])
      refine own_viaH (fun _ k => XS.iload X15_.here hx rfl (hb hby at_65) rfl k) ?_
      show own_FinH _ _ _ _ _ _ _ _ _ T15_ (mkF m 67 #[.val (.int p1), .val (.int p2), .val (.int p3), .val (.int p4), .val (.int p5), .val (.int p6), .val (.int (0 : Int32)), .val (.int c1), .val (.int c2), .val (.int c3), .val (.int c4), .val (.int c5), .val (.ref x7_), .val (.int (0 : Int32)), .unset, .unset, .unset] [(.int (0 : Int32))])
      refine own_viaH (fun _ k => XS.ifNo X15_.here hx rfl (hb hby at_67) rfl ((if0 _ _).trans (teq rfl).2) k) ?_
      show own_FinH _ _ _ _ _ _ _ _ _ T15_ (mkF m 70 #[.val (.int p1), .val (.int p2), .val (.int p3), .val (.int p4), .val (.int p5), .val (.int p6), .val (.int (0 : Int32)), .val (.int c1), .val (.int c2), .val (.int c3), .val (.int c4), .val (.int c5), .val (.ref x7_), .val (.int (0 : Int32)), .unset, .unset, .unset] [])
      refine own_viaH (fun _ k => XS.iconst X15_.here hx rfl (hb hby at_70) k) ?_
      show own_FinH _ _ _ _ _ _ _ _ _ T15_ (mkF m 71 #[.val (.int p1), .val (.int p2), .val (.int p3), .val (.int p4), .val (.int p5), .val (.int p6), .val (.int (0 : Int32)), .val (.int c1), .val (.int c2), .val (.int c3), .val (.int c4), .val (.int c5), .val (.ref x7_), .val (.int (0 : Int32)), .unset, .unset, .unset] [(.int (0 : Int32))])
      refine own_viaH (fun _ k => XS.istore X15_.here hx rfl (hb hby at_71) rfl (l' := #[.val (.int p1), .val (.int p2), .val (.int p3), .val (.int p4), .val (.int p5), .val (.int p6), .val (.int (0 : Int32)), .val (.int c1), .val (.int c2), .val (.int c3), .val (.int c4), .val (.int c5), .val (.ref x7_), .val (.int (0 : Int32)), .val (.int (0 : Int32)), .unset, .unset]) rfl k) ?_
      show own_FinH _ _ _ _ _ _ _ _ _ T15_ (mkF m 73 #[.val (.int p1), .val (.int p2), .val (.int p3), .val (.int p4), .val (.int p5), .val (.int p6), .val (.int (0 : Int32)), .val (.int c1), .val (.int c2), .val (.int c3), .val (.int c4), .val (.int c5), .val (.ref x7_), .val (.int (0 : Int32)), .val (.int (0 : Int32)), .unset, .unset] [])
      refine own_viaH (fun _ k => XS.goto X15_.here hx rfl (pc0 := 73) (pc' := 237) rfl (hb hby at_73) (by decide) (by decide) k) ?_
      show own_FinH _ _ _ _ _ _ _ _ _ T15_ (mkF m 237 #[.val (.int p1), .val (.int p2), .val (.int p3), .val (.int p4), .val (.int p5), .val (.int p6), .val (.int (0 : Int32)), .val (.int c1), .val (.int c2), .val (.int c3), .val (.int c4), .val (.int c5), .val (.ref x7_), .val (.int (0 : Int32)), .val (.int (0 : Int32)), .unset, .unset] [])
      refine own_viaH (fun _ k => XS.iload X15_.here hx rfl (hb hby at_237) rfl k) ?_
      show own_FinH _ _ _ _ _ _ _ _ _ T15_ (mkF m 239 #[.val (.int p1), .val (.int p2), .val (.int p3), .val (.int p4), .val (.int p5), .val (.int p6), .val (.int (0 : Int32)), .val (.int c1), .val (.int c2), .val (.int c3), .val (.int c4), .val (.int c5), .val (.ref x7_), .val (.int (0 : Int32)), .val (.int (0 : Int32)), .unset, .unset] [(.int (0 : Int32))])
      refine own_viaH (fun _ k => XS.iload X15_.here hx rfl (hb hby at_239) rfl k) ?_
      show own_FinH _ _ _ _ _ _ _ _ _ T15_ (mkF m 241 #[.val (.int p1), .val (.int p2), .val (.int p3), .val (.int p4), .val (.int p5), .val (.int p6), .val (.int (0 : Int32)), .val (.int c1), .val (.int c2), .val (.int c3), .val (.int c4), .val (.int c5), .val (.ref x7_), .val (.int (0 : Int32)), .val (.int (0 : Int32)), .unset, .unset] [(.int (0 : Int32)), (.int (0 : Int32))])
      refine own_viaH (fun _ k => XS.icmpNo X15_.here hx rfl (hb hby at_241) rfl (teq rfl).2 k) ?_
      show own_FinH _ _ _ _ _ _ _ _ _ T15_ (mkF m 244 #[.val (.int p1), .val (.int p2), .val (.int p3), .val (.int p4), .val (.int p5), .val (.int p6), .val (.int (0 : Int32)), .val (.int c1), .val (.int c2), .val (.int c3), .val (.int c4), .val (.int c5), .val (.ref x7_), .val (.int (0 : Int32)), .val (.int (0 : Int32)), .unset, .unset] [])
      refine own_viaH (fun _ k => XS.iconst X15_.here hx rfl (hb hby at_244) k) ?_
      show own_FinH _ _ _ _ _ _ _ _ _ T15_ (mkF m 245 #[.val (.int p1), .val (.int p2), .val (.int p3), .val (.int p4), .val (.int p5), .val (.int p6), .val (.int (0 : Int32)), .val (.int c1), .val (.int c2), .val (.int c3), .val (.int c4), .val (.int c5), .val (.ref x7_), .val (.int (0 : Int32)), .val (.int (0 : Int32)), .unset, .unset] [(.int (1 : Int32))])
      refine own_viaH (fun _ k => XS.goto X15_.here hx rfl (pc0 := 245) (pc' := 249) rfl (hb hby at_245) (by decide) (by decide) k) ?_
      show own_FinH _ _ _ _ _ _ _ _ _ T15_ (mkF m 249 #[.val (.int p1), .val (.int p2), .val (.int p3), .val (.int p4), .val (.int p5), .val (.int p6), .val (.int (0 : Int32)), .val (.int c1), .val (.int c2), .val (.int c3), .val (.int c4), .val (.int c5), .val (.ref x7_), .val (.int (0 : Int32)), .val (.int (0 : Int32)), .unset, .unset] [(.int (1 : Int32))])
      have C16_ := C0.trans Cq6_
      have H16_ := C16_.1
      exact own_retNH X15_ hx (t := .boolean) Bd.returns Bd.notSynchronized (own_ew hw) hZ6_ hS6_ (Nat.le_refl _) hh C16_ (by simp) (hb hby at_249) hh15_ rfl ⟨rfl, N15_⟩ (by decide) (by decide)
    · show own_FinH _ _ _ _ _ _ _ _ _ T5_ (mkF m 41 #[.val (.int p1), .val (.int p2), .val (.int p3), .val (.int p4), .val (.int p5), .val (.int p6), .val (.int (1 : Int32)), .val (.int c1), .val (.int c2), .val (.int c3), .val (.int c4), .val (.int c5), .unset, .unset, .unset, .unset, .unset] [])
      refine own_viaH (fun _ k => XS.iload X5_.here hx rfl (hb hby at_41) rfl k) ?_
      show own_FinH _ _ _ _ _ _ _ _ _ T5_ (mkF m 43 #[.val (.int p1), .val (.int p2), .val (.int p3), .val (.int p4), .val (.int p5), .val (.int p6), .val (.int (1 : Int32)), .val (.int c1), .val (.int c2), .val (.int c3), .val (.int c4), .val (.int c5), .unset, .unset, .unset, .unset, .unset] [(.int (1 : Int32))])
      refine own_viaH (fun _ k => XS.iload X5_.here hx rfl (hb hby at_43) rfl k) ?_
      show own_FinH _ _ _ _ _ _ _ _ _ T5_ (mkF m 45 #[.val (.int p1), .val (.int p2), .val (.int p3), .val (.int p4), .val (.int p5), .val (.int p6), .val (.int (1 : Int32)), .val (.int c1), .val (.int c2), .val (.int c3), .val (.int c4), .val (.int c5), .unset, .unset, .unset, .unset, .unset] [(.int c1), (.int (1 : Int32))])
      refine own_viaH (fun _ k => XS.iload X5_.here hx rfl (hb hby at_45) rfl k) ?_
      show own_FinH _ _ _ _ _ _ _ _ _ T5_ (mkF m 47 #[.val (.int p1), .val (.int p2), .val (.int p3), .val (.int p4), .val (.int p5), .val (.int p6), .val (.int (1 : Int32)), .val (.int c1), .val (.int c2), .val (.int c3), .val (.int c4), .val (.int c5), .unset, .unset, .unset, .unset, .unset] [(.int c2), (.int c1), (.int (1 : Int32))])
      refine own_viaH (fun _ k => XS.iload X5_.here hx rfl (hb hby at_47) rfl k) ?_
      show own_FinH _ _ _ _ _ _ _ _ _ T5_ (mkF m 49 #[.val (.int p1), .val (.int p2), .val (.int p3), .val (.int p4), .val (.int p5), .val (.int p6), .val (.int (1 : Int32)), .val (.int c1), .val (.int c2), .val (.int c3), .val (.int c4), .val (.int c5), .unset, .unset, .unset, .unset, .unset] [(.int c3), (.int c2), (.int c1), (.int (1 : Int32))])
      refine own_viaH (fun _ k => XS.iload X5_.here hx rfl (hb hby at_49) rfl k) ?_
      show own_FinH _ _ _ _ _ _ _ _ _ T5_ (mkF m 51 #[.val (.int p1), .val (.int p2), .val (.int p3), .val (.int p4), .val (.int p5), .val (.int p6), .val (.int (1 : Int32)), .val (.int c1), .val (.int c2), .val (.int c3), .val (.int c4), .val (.int c5), .unset, .unset, .unset, .unset, .unset] [(.int c4), (.int c3), (.int c2), (.int c1), (.int (1 : Int32))])
      refine own_viaH (fun _ k => XS.iload X5_.here hx rfl (hb hby at_51) rfl k) ?_
      show own_FinH _ _ _ _ _ _ _ _ _ T5_ (mkF m 53 #[.val (.int p1), .val (.int p2), .val (.int p3), .val (.int p4), .val (.int p5), .val (.int p6), .val (.int (1 : Int32)), .val (.int c1), .val (.int c2), .val (.int c3), .val (.int c4), .val (.int c5), .unset, .unset, .unset, .unset, .unset] [(.int c5), (.int c4), (.int c3), (.int c2), (.int c1), (.int (1 : Int32))])
      obtain ⟨_, _, ⟨T17_, L17_, k17_, n17_⟩, -, X17_, ⟨Lc17_, hQ17_, l17_, y17_, z17_⟩, st17_⟩ := Jvm.LawKit.callS X5_ hx (y := (⟨"com/example/dependency_container/dependencycontainer/BeanDefinitionIsPropertyPathPinLaw", "make", "(ICCCCC)Ljava/lang/String;"⟩ : MethodName)) hown (mvT hZ (hw _ (List.mem_of_getElem? (i := 4) rfl))) (mvT hZ (hw _ (List.mem_of_getElem? (i := 5) rfl))) (mvT hZ (hw _ (List.mem_of_getElem? (i := 2) rfl))) (mvT hZ (hw _ (List.mem_of_getElem? (i := 6) rfl))) (by decide) (backOf (W := 0) (own_rm_make1 l Z a0 hw [] c1 c2 c3 c4 c5 cz h0 n0 Z0 O0 S1 (by first | assumption | decide) (by first | assumption | decide) (by first | assumption | decide) (by first | assumption | decide) (by first | assumption | decide) (by first | assumption | decide)) hZ (hw _ (List.mem_of_getElem? (i := 6) rfl)) (hw _ (List.mem_of_getElem? (i := 2) rfl)) (by decide) (by decide)) (g := (mkF m 53 #[.val (.int p1), .val (.int p2), .val (.int p3), .val (.int p4), .val (.int p5), .val (.int p6), .val (.int (1 : Int32)), .val (.int c1), .val (.int c2), .val (.int c3), .val (.int c4), .val (.int c5), .unset, .unset, .unset, .unset, .unset] [(.int c5), (.int c4), (.int c3), (.int c2), (.int c1), (.int (1 : Int32))])) rfl (by rw [hml]; rfl) (argsL := [(.int (1 : Int32)), (.int c1), (.int c2), (.int c3), (.int c4), (.int c5)]) (rest := []) (lenOf own_pd18 rfl) rfl (by show 2 * 0 + _ ≤ _; exact Nat.le_of_eq rfl) (hb hby at_53) (fun _ _ => ⟨rfl, hh5_, (by decide : 0 + 0 + 0 + 0 + 0 + 0 + 3 ≤ _), (by decide : 0 + 0 + 0 + 0 + 0 + 0 + 6 ≤ _)⟩)
      dsimp only [Pt.U, Pt.locs, Pt.cells, Pt.slots] at X17_ l17_ y17_ z17_ st17_ hQ17_
      subst l17_ y17_ z17_
      obtain ⟨x18_, t19_, kt20_, rfl, Nq17_, K17_, r21_, r22_, r23_, r24_, r25_⟩ := hQ17_
      have N17_ := Fr.app N5_ Nq17_
      refine own_viaH (fun _ k => st17_ _ k) ?_
      show own_FinH _ _ _ _ _ _ _ _ _ T17_ (mkF m 56 #[.val (.int p1), .val (.int p2), .val (.int p3), .val (.int p4), .val (.int p5), .val (.int p6), .val (.int (1 : Int32)), .val (.int c1), .val (.int c2), .val (.int c3), .val (.int c4), .val (.int c5), .unset, .unset, .unset, .unset, .unset] [(.ref x18_)])
      refine own_viaH (fun _ k => XS.astore X17_.here hx rfl (hb hby at_56) rfl rfl (l' := #[.val (.int p1), .val (.int p2), .val (.int p3), .val (.int p4), .val (.int p5), .val (.int p6), .val (.int (1 : Int32)), .val (.int c1), .val (.int c2), .val (.int c3), .val (.int c4), .val (.int c5), .val (.ref x18_), .unset, .unset, .unset, .unset]) rfl k) ?_
      show own_FinH _ _ _ _ _ _ _ _ _ T17_ (mkF m 58 #[.val (.int p1), .val (.int p2), .val (.int p3), .val (.int p4), .val (.int p5), .val (.int p6), .val (.int (1 : Int32)), .val (.int c1), .val (.int c2), .val (.int c3), .val (.int c4), .val (.int c5), .val (.ref x18_), .unset, .unset, .unset, .unset] [])
      refine own_viaH (fun _ k => XS.aload X17_.here hx rfl (hb hby at_58) rfl rfl k) ?_
      show own_FinH _ _ _ _ _ _ _ _ _ T17_ (mkF m 60 #[.val (.int p1), .val (.int p2), .val (.int p3), .val (.int p4), .val (.int p5), .val (.int p6), .val (.int (1 : Int32)), .val (.int c1), .val (.int c2), .val (.int c3), .val (.int c4), .val (.int c5), .val (.ref x18_), .unset, .unset, .unset, .unset] [(.ref x18_)])
      have C27_ := C0.trans (CHr.keep K17_ sf0 H0)
      have H27_ := C27_.1
      obtain ⟨_, _, ⟨T26_, L26_, k26_, n26_⟩, -, Y26_, hSq26_, hgq26_, ⟨Lc26_, hQ26_, l26_, y26_, z26_, Cq26_⟩, st26_⟩ := callSS X17_ hx (y := (⟨"com/example/dependency_container/dependencycontainer/BeanDefinition", "isPropertyPath", "(Ljava/lang/String;)Z"⟩ : MethodName)) hown (mvT hZ (hw _ (List.mem_of_getElem? (i := 29) rfl))) (mvT hZ (hw _ (List.mem_of_getElem? (i := 30) rfl))) (mvT hZ (hw _ (List.mem_of_getElem? (i := 31) rfl))) (mvT hZ (hw _ (List.mem_of_getElem? (i := 32) rfl))) (by decide) (backOfSH (s := s) (vm0 := s.vm) (W := 0) (own_rm_ipp l Z a0 hw [] x18_ cz t19_ kt20_ (1 : Int32) ([c1.toInt8.toInt32]) 1 fm T17_.heap n0 (Nat.le_trans Z0 K17_.1) (O0.keep K17_ all0) S1 (by first | assumption | decide) r22_ r23_ r24_ r25_ S2 r_fm rfl (by decide) (by decide) (own_bytes [c1])) hZ (hw _ (List.mem_of_getElem? (i := 32) rfl)) (hw _ (List.mem_of_getElem? (i := 31) rfl)) (by decide) (by decide) (own_ew hw) H27_) (g := (mkF m 60 #[.val (.int p1), .val (.int p2), .val (.int p3), .val (.int p4), .val (.int p5), .val (.int p6), .val (.int (1 : Int32)), .val (.int c1), .val (.int c2), .val (.int c3), .val (.int c4), .val (.int c5), .val (.ref x18_), .unset, .unset, .unset, .unset] [(.ref x18_)])) rfl (by rw [hml]; rfl) (argsL := [(.ref x18_)]) (rest := []) (lenOf own_pd19 rfl) rfl (by show 2 * 0 + _ ≤ _; exact Nat.le_of_eq rfl) (hb hby at_60) (fun _ _ => ⟨rfl, rfl, (by decide : 0 + 0 + 0 + 0 + 0 + 0 + 3 + 2 ≤ _), (by decide : 0 + 0 + 0 + 0 + 0 + 0 + 6 + 12 ≤ _)⟩)
      dsimp only [Pt.U, Pt.locs, Pt.cells, Pt.slots] at Y26_ l26_ y26_ z26_ st26_ hQ26_ hSq26_ hgq26_ Cq26_
      subst l26_ y26_ z26_
      obtain ⟨X26_, hS26_, hZ26_, hown26_⟩ := rebS hS0 ((Nat.le_trans hk0 K17_.1)) Y26_ hSq26_ hgq26_ hZ hown
      obtain ⟨r, rfl, Nq26_, K26_, hr⟩ := hQ26_
      have N26_ := Fr.app N17_ Nq26_
      refine own_viaH (fun _ k => st26_.trans k) ?_
      show own_FinH _ _ _ _ _ _ _ _ _ T26_ (mkF m 63 #[.val (.int p1), .val (.int p2), .val (.int p3), .val (.int p4), .val (.int p5), .val (.int p6), .val (.int (1 : Int32)), .val (.int c1), .val (.int c2), .val (.int c3), .val (.int c4), .val (.int c5), .val (.ref x18_), .unset, .unset, .unset, .unset] [(.int r)])
      have G := own_good_1 hc1
      refine own_viaH (fun _ k => XS.istore X26_.here hx rfl (hb hby at_63) rfl (l' := #[.val (.int p1), .val (.int p2), .val (.int p3), .val (.int p4), .val (.int p5), .val (.int p6), .val (.int (1 : Int32)), .val (.int c1), .val (.int c2), .val (.int c3), .val (.int c4), .val (.int c5), .val (.ref x18_), .val (.int r), .unset, .unset, .unset]) rfl k) ?_
      show own_FinH _ _ _ _ _ _ _ _ _ T26_ (mkF m 65 #[.val (.int p1), .val (.int p2), .val (.int p3), .val (.int p4), .val (.int p5), .val (.int p6), .val (.int (1 : Int32)), .val (.int c1), .val (.int c2), .val (.int c3), .val (.int c4), .val (.int c5), .val (.ref x18_), .val (.int r), .unset, .unset, .unset] [])
      refine own_viaH (fun _ k => XS.iload X26_.here hx rfl (hb hby at_65) rfl k) ?_
      show own_FinH _ _ _ _ _ _ _ _ _ T26_ (mkF m 67 #[.val (.int p1), .val (.int p2), .val (.int p3), .val (.int p4), .val (.int p5), .val (.int p6), .val (.int (1 : Int32)), .val (.int c1), .val (.int c2), .val (.int c3), .val (.int c4), .val (.int c5), .val (.ref x18_), .val (.int r), .unset, .unset, .unset] [(.int (1 : Int32))])
      refine own_viaH (fun _ k => XS.ifYes X26_.here hx rfl (pc0 := 67) (pc' := 76) rfl (hb hby at_67) rfl ((if0 _ _).trans (feq (by decide)).2) (by decide) (by decide) k) ?_
      show own_FinH _ _ _ _ _ _ _ _ _ T26_ (mkF m 76 #[.val (.int p1), .val (.int p2), .val (.int p3), .val (.int p4), .val (.int p5), .val (.int p6), .val (.int (1 : Int32)), .val (.int c1), .val (.int c2), .val (.int c3), .val (.int c4), .val (.int c5), .val (.ref x18_), .val (.int r), .unset, .unset, .unset] [])
      refine own_viaH (fun _ k => XS.iload X26_.here hx rfl (hb hby at_76) rfl k) ?_
      show own_FinH _ _ _ _ _ _ _ _ _ T26_ (mkF m 78 #[.val (.int p1), .val (.int p2), .val (.int p3), .val (.int p4), .val (.int p5), .val (.int p6), .val (.int (1 : Int32)), .val (.int c1), .val (.int c2), .val (.int c3), .val (.int c4), .val (.int c5), .val (.ref x18_), .val (.int r), .unset, .unset, .unset] [(.int (1 : Int32))])
      refine own_viaH (fun _ k => XS.iconst X26_.here hx rfl (hb hby at_78) k) ?_
      show own_FinH _ _ _ _ _ _ _ _ _ T26_ (mkF m 79 #[.val (.int p1), .val (.int p2), .val (.int p3), .val (.int p4), .val (.int p5), .val (.int p6), .val (.int (1 : Int32)), .val (.int c1), .val (.int c2), .val (.int c3), .val (.int c4), .val (.int c5), .val (.ref x18_), .val (.int r), .unset, .unset, .unset] [(.int (1 : Int32)), (.int (1 : Int32))])
      refine own_viaH (fun _ k => XS.icmpNo X26_.here hx rfl (hb hby at_79) rfl (teq rfl).2 k) ?_
      show own_FinH _ _ _ _ _ _ _ _ _ T26_ (mkF m 82 #[.val (.int p1), .val (.int p2), .val (.int p3), .val (.int p4), .val (.int p5), .val (.int p6), .val (.int (1 : Int32)), .val (.int c1), .val (.int c2), .val (.int c3), .val (.int c4), .val (.int c5), .val (.ref x18_), .val (.int r), .unset, .unset, .unset] [])
      refine own_viaH (fun _ k => XS.iload X26_.here hx rfl (hb hby at_82) rfl k) ?_
      show own_FinH _ _ _ _ _ _ _ _ _ T26_ (mkF m 84 #[.val (.int p1), .val (.int p2), .val (.int p3), .val (.int p4), .val (.int p5), .val (.int p6), .val (.int (1 : Int32)), .val (.int c1), .val (.int c2), .val (.int c3), .val (.int c4), .val (.int c5), .val (.ref x18_), .val (.int r), .unset, .unset, .unset] [(.int c1)])
      refine own_viaH (fun _ k => XS.goto X26_.here hx rfl (pc0 := 84) (pc' := 122) rfl (hb hby at_84) (by decide) (by decide) k) ?_
      show own_FinH _ _ _ _ _ _ _ _ _ T26_ (mkF m 122 #[.val (.int p1), .val (.int p2), .val (.int p3), .val (.int p4), .val (.int p5), .val (.int p6), .val (.int (1 : Int32)), .val (.int c1), .val (.int c2), .val (.int c3), .val (.int c4), .val (.int c5), .val (.ref x18_), .val (.int r), .unset, .unset, .unset] [(.int c1)])
      refine own_viaH (fun _ k => XS.istore X26_.here hx rfl (hb hby at_122) rfl (l' := #[.val (.int p1), .val (.int p2), .val (.int p3), .val (.int p4), .val (.int p5), .val (.int p6), .val (.int (1 : Int32)), .val (.int c1), .val (.int c2), .val (.int c3), .val (.int c4), .val (.int c5), .val (.ref x18_), .val (.int r), .unset, .val (.int c1), .unset]) rfl k) ?_
      show own_FinH _ _ _ _ _ _ _ _ _ T26_ (mkF m 124 #[.val (.int p1), .val (.int p2), .val (.int p3), .val (.int p4), .val (.int p5), .val (.int p6), .val (.int (1 : Int32)), .val (.int c1), .val (.int c2), .val (.int c3), .val (.int c4), .val (.int c5), .val (.ref x18_), .val (.int r), .unset, .val (.int c1), .unset] [])
      have s211 : ∀ (dd : Int32) (hdd : (dd = (1 : Int32) ∧ (False)) ∨ (dd = (0 : Int32) ∧ ¬ (False))), own_FinH p e s below Z own_EL (own_Q_law Z p1 p2 p3 p4 p5 p6 cz fm h0 n0) room_1.cells room_1.slots T26_ (mkF m 211 #[.val (.int p1), .val (.int p2), .val (.int p3), .val (.int p4), .val (.int p5), .val (.int p6), .val (.int (1 : Int32)), .val (.int c1), .val (.int c2), .val (.int c3), .val (.int c4), .val (.int c5), .val (.ref x18_), .val (.int r), .unset, .val (.int c1), .val (.int dd)] []) := by
        intro dd hdd
        refine own_viaH (fun _ k => XS.iload X26_.here hx rfl (hb hby at_211) rfl k) ?_
        show own_FinH _ _ _ _ _ _ _ _ _ T26_ (mkF m 213 #[.val (.int p1), .val (.int p2), .val (.int p3), .val (.int p4), .val (.int p5), .val (.int p6), .val (.int (1 : Int32)), .val (.int c1), .val (.int c2), .val (.int c3), .val (.int c4), .val (.int c5), .val (.ref x18_), .val (.int r), .unset, .val (.int c1), .val (.int dd)] [(.int c1)])
        refine own_viaH (fun _ k => XS.bipush X26_.here hx rfl (hb hby at_213) k) ?_
        show own_FinH _ _ _ _ _ _ _ _ _ T26_ (mkF m 215 #[.val (.int p1), .val (.int p2), .val (.int p3), .val (.int p4), .val (.int p5), .val (.int p6), .val (.int (1 : Int32)), .val (.int c1), .val (.int c2), .val (.int c3), .val (.int c4), .val (.int c5), .val (.ref x18_), .val (.int r), .unset, .val (.int c1), .val (.int dd)] [(.int (46 : Int32)), (.int c1)])
        rcases Classical.em (c1 = (46 : Int32)) with hA | hA
        · refine own_viaH (fun _ k => XS.icmpYes X26_.here hx rfl (pc0 := 215) (pc' := 234) rfl (hb hby at_215) rfl (teq hA).1 (by decide) (by decide) k) ?_
          show own_FinH _ _ _ _ _ _ _ _ _ T26_ (mkF m 234 #[.val (.int p1), .val (.int p2), .val (.int p3), .val (.int p4), .val (.int p5), .val (.int p6), .val (.int (1 : Int32)), .val (.int c1), .val (.int c2), .val (.int c3), .val (.int c4), .val (.int c5), .val (.ref x18_), .val (.int r), .unset, .val (.int c1), .val (.int dd)] [])
          refine own_viaH (fun _ k => XS.iconst X26_.here hx rfl (hb hby at_234) k) ?_
          show own_FinH _ _ _ _ _ _ _ _ _ T26_ (mkF m 235 #[.val (.int p1), .val (.int p2), .val (.int p3), .val (.int p4), .val (.int p5), .val (.int p6), .val (.int (1 : Int32)), .val (.int c1), .val (.int c2), .val (.int c3), .val (.int c4), .val (.int c5), .val (.ref x18_), .val (.int r), .unset, .val (.int c1), .val (.int dd)] [(.int (0 : Int32))])
          refine own_viaH (fun _ k => XS.istore X26_.here hx rfl (hb hby at_235) rfl (l' := #[.val (.int p1), .val (.int p2), .val (.int p3), .val (.int p4), .val (.int p5), .val (.int p6), .val (.int (1 : Int32)), .val (.int c1), .val (.int c2), .val (.int c3), .val (.int c4), .val (.int c5), .val (.ref x18_), .val (.int r), .val (.int (0 : Int32)), .val (.int c1), .val (.int dd)]) rfl k) ?_
          show own_FinH _ _ _ _ _ _ _ _ _ T26_ (mkF m 237 #[.val (.int p1), .val (.int p2), .val (.int p3), .val (.int p4), .val (.int p5), .val (.int p6), .val (.int (1 : Int32)), .val (.int c1), .val (.int c2), .val (.int c3), .val (.int c4), .val (.int c5), .val (.ref x18_), .val (.int r), .val (.int (0 : Int32)), .val (.int c1), .val (.int dd)] [])
          refine own_viaH (fun _ k => XS.iload X26_.here hx rfl (hb hby at_237) rfl k) ?_
          show own_FinH _ _ _ _ _ _ _ _ _ T26_ (mkF m 239 #[.val (.int p1), .val (.int p2), .val (.int p3), .val (.int p4), .val (.int p5), .val (.int p6), .val (.int (1 : Int32)), .val (.int c1), .val (.int c2), .val (.int c3), .val (.int c4), .val (.int c5), .val (.ref x18_), .val (.int r), .val (.int (0 : Int32)), .val (.int c1), .val (.int dd)] [(.int r)])
          refine own_viaH (fun _ k => XS.iload X26_.here hx rfl (hb hby at_239) rfl k) ?_
          show own_FinH _ _ _ _ _ _ _ _ _ T26_ (mkF m 241 #[.val (.int p1), .val (.int p2), .val (.int p3), .val (.int p4), .val (.int p5), .val (.int p6), .val (.int (1 : Int32)), .val (.int c1), .val (.int c2), .val (.int c3), .val (.int c4), .val (.int c5), .val (.ref x18_), .val (.int r), .val (.int (0 : Int32)), .val (.int c1), .val (.int dd)] [(.int (0 : Int32)), (.int r)])
          refine own_viaH (fun _ k => XS.icmpNo X26_.here hx rfl (hb hby at_241) rfl (teq (hr.elim (fun q => absurd hA (G.mp q.2).1) (fun q => q.1))).2 k) ?_
          show own_FinH _ _ _ _ _ _ _ _ _ T26_ (mkF m 244 #[.val (.int p1), .val (.int p2), .val (.int p3), .val (.int p4), .val (.int p5), .val (.int p6), .val (.int (1 : Int32)), .val (.int c1), .val (.int c2), .val (.int c3), .val (.int c4), .val (.int c5), .val (.ref x18_), .val (.int r), .val (.int (0 : Int32)), .val (.int c1), .val (.int dd)] [])
          refine own_viaH (fun _ k => XS.iconst X26_.here hx rfl (hb hby at_244) k) ?_
          show own_FinH _ _ _ _ _ _ _ _ _ T26_ (mkF m 245 #[.val (.int p1), .val (.int p2), .val (.int p3), .val (.int p4), .val (.int p5), .val (.int p6), .val (.int (1 : Int32)), .val (.int c1), .val (.int c2), .val (.int c3), .val (.int c4), .val (.int c5), .val (.ref x18_), .val (.int r), .val (.int (0 : Int32)), .val (.int c1), .val (.int dd)] [(.int (1 : Int32))])
          refine own_viaH (fun _ k => XS.goto X26_.here hx rfl (pc0 := 245) (pc' := 249) rfl (hb hby at_245) (by decide) (by decide) k) ?_
          show own_FinH _ _ _ _ _ _ _ _ _ T26_ (mkF m 249 #[.val (.int p1), .val (.int p2), .val (.int p3), .val (.int p4), .val (.int p5), .val (.int p6), .val (.int (1 : Int32)), .val (.int c1), .val (.int c2), .val (.int c3), .val (.int c4), .val (.int c5), .val (.ref x18_), .val (.int r), .val (.int (0 : Int32)), .val (.int c1), .val (.int dd)] [(.int (1 : Int32))])
          have C28_ := C27_.trans Cq26_
          have H28_ := C28_.1
          exact own_retNH X26_ hx (t := .boolean) Bd.returns Bd.notSynchronized (own_ew hw) hZ26_ hS26_ (Nat.le_refl _) hh C28_ (by simp) (hb hby at_249) rfl rfl ⟨rfl, N26_⟩ (by decide) (by decide)
        · refine own_viaH (fun _ k => XS.icmpNo X26_.here hx rfl (hb hby at_215) rfl (feq hA).1 k) ?_
          show own_FinH _ _ _ _ _ _ _ _ _ T26_ (mkF m 218 #[.val (.int p1), .val (.int p2), .val (.int p3), .val (.int p4), .val (.int p5), .val (.int p6), .val (.int (1 : Int32)), .val (.int c1), .val (.int c2), .val (.int c3), .val (.int c4), .val (.int c5), .val (.ref x18_), .val (.int r), .unset, .val (.int c1), .val (.int dd)] [])
          refine own_viaH (fun _ k => XS.iload X26_.here hx rfl (hb hby at_218) rfl k) ?_
          show own_FinH _ _ _ _ _ _ _ _ _ T26_ (mkF m 220 #[.val (.int p1), .val (.int p2), .val (.int p3), .val (.int p4), .val (.int p5), .val (.int p6), .val (.int (1 : Int32)), .val (.int c1), .val (.int c2), .val (.int c3), .val (.int c4), .val (.int c5), .val (.ref x18_), .val (.int r), .unset, .val (.int c1), .val (.int dd)] [(.int c1)])
          refine own_viaH (fun _ k => XS.bipush X26_.here hx rfl (hb hby at_220) k) ?_
          show own_FinH _ _ _ _ _ _ _ _ _ T26_ (mkF m 222 #[.val (.int p1), .val (.int p2), .val (.int p3), .val (.int p4), .val (.int p5), .val (.int p6), .val (.int (1 : Int32)), .val (.int c1), .val (.int c2), .val (.int c3), .val (.int c4), .val (.int c5), .val (.ref x18_), .val (.int r), .unset, .val (.int c1), .val (.int dd)] [(.int (46 : Int32)), (.int c1)])
          rcases Classical.em (c1 = (46 : Int32)) with hB | hB
          · refine own_viaH (fun _ k => XS.icmpYes X26_.here hx rfl (pc0 := 222) (pc' := 234) rfl (hb hby at_222) rfl (teq hB).1 (by decide) (by decide) k) ?_
            show own_FinH _ _ _ _ _ _ _ _ _ T26_ (mkF m 234 #[.val (.int p1), .val (.int p2), .val (.int p3), .val (.int p4), .val (.int p5), .val (.int p6), .val (.int (1 : Int32)), .val (.int c1), .val (.int c2), .val (.int c3), .val (.int c4), .val (.int c5), .val (.ref x18_), .val (.int r), .unset, .val (.int c1), .val (.int dd)] [])
            refine own_viaH (fun _ k => XS.iconst X26_.here hx rfl (hb hby at_234) k) ?_
            show own_FinH _ _ _ _ _ _ _ _ _ T26_ (mkF m 235 #[.val (.int p1), .val (.int p2), .val (.int p3), .val (.int p4), .val (.int p5), .val (.int p6), .val (.int (1 : Int32)), .val (.int c1), .val (.int c2), .val (.int c3), .val (.int c4), .val (.int c5), .val (.ref x18_), .val (.int r), .unset, .val (.int c1), .val (.int dd)] [(.int (0 : Int32))])
            refine own_viaH (fun _ k => XS.istore X26_.here hx rfl (hb hby at_235) rfl (l' := #[.val (.int p1), .val (.int p2), .val (.int p3), .val (.int p4), .val (.int p5), .val (.int p6), .val (.int (1 : Int32)), .val (.int c1), .val (.int c2), .val (.int c3), .val (.int c4), .val (.int c5), .val (.ref x18_), .val (.int r), .val (.int (0 : Int32)), .val (.int c1), .val (.int dd)]) rfl k) ?_
            show own_FinH _ _ _ _ _ _ _ _ _ T26_ (mkF m 237 #[.val (.int p1), .val (.int p2), .val (.int p3), .val (.int p4), .val (.int p5), .val (.int p6), .val (.int (1 : Int32)), .val (.int c1), .val (.int c2), .val (.int c3), .val (.int c4), .val (.int c5), .val (.ref x18_), .val (.int r), .val (.int (0 : Int32)), .val (.int c1), .val (.int dd)] [])
            refine own_viaH (fun _ k => XS.iload X26_.here hx rfl (hb hby at_237) rfl k) ?_
            show own_FinH _ _ _ _ _ _ _ _ _ T26_ (mkF m 239 #[.val (.int p1), .val (.int p2), .val (.int p3), .val (.int p4), .val (.int p5), .val (.int p6), .val (.int (1 : Int32)), .val (.int c1), .val (.int c2), .val (.int c3), .val (.int c4), .val (.int c5), .val (.ref x18_), .val (.int r), .val (.int (0 : Int32)), .val (.int c1), .val (.int dd)] [(.int r)])
            refine own_viaH (fun _ k => XS.iload X26_.here hx rfl (hb hby at_239) rfl k) ?_
            show own_FinH _ _ _ _ _ _ _ _ _ T26_ (mkF m 241 #[.val (.int p1), .val (.int p2), .val (.int p3), .val (.int p4), .val (.int p5), .val (.int p6), .val (.int (1 : Int32)), .val (.int c1), .val (.int c2), .val (.int c3), .val (.int c4), .val (.int c5), .val (.ref x18_), .val (.int r), .val (.int (0 : Int32)), .val (.int c1), .val (.int dd)] [(.int (0 : Int32)), (.int r)])
            refine own_viaH (fun _ k => XS.icmpNo X26_.here hx rfl (hb hby at_241) rfl (teq (hr.elim (fun q => absurd hB (G.mp q.2).2.1) (fun q => q.1))).2 k) ?_
            show own_FinH _ _ _ _ _ _ _ _ _ T26_ (mkF m 244 #[.val (.int p1), .val (.int p2), .val (.int p3), .val (.int p4), .val (.int p5), .val (.int p6), .val (.int (1 : Int32)), .val (.int c1), .val (.int c2), .val (.int c3), .val (.int c4), .val (.int c5), .val (.ref x18_), .val (.int r), .val (.int (0 : Int32)), .val (.int c1), .val (.int dd)] [])
            refine own_viaH (fun _ k => XS.iconst X26_.here hx rfl (hb hby at_244) k) ?_
            show own_FinH _ _ _ _ _ _ _ _ _ T26_ (mkF m 245 #[.val (.int p1), .val (.int p2), .val (.int p3), .val (.int p4), .val (.int p5), .val (.int p6), .val (.int (1 : Int32)), .val (.int c1), .val (.int c2), .val (.int c3), .val (.int c4), .val (.int c5), .val (.ref x18_), .val (.int r), .val (.int (0 : Int32)), .val (.int c1), .val (.int dd)] [(.int (1 : Int32))])
            refine own_viaH (fun _ k => XS.goto X26_.here hx rfl (pc0 := 245) (pc' := 249) rfl (hb hby at_245) (by decide) (by decide) k) ?_
            show own_FinH _ _ _ _ _ _ _ _ _ T26_ (mkF m 249 #[.val (.int p1), .val (.int p2), .val (.int p3), .val (.int p4), .val (.int p5), .val (.int p6), .val (.int (1 : Int32)), .val (.int c1), .val (.int c2), .val (.int c3), .val (.int c4), .val (.int c5), .val (.ref x18_), .val (.int r), .val (.int (0 : Int32)), .val (.int c1), .val (.int dd)] [(.int (1 : Int32))])
            have C29_ := C27_.trans Cq26_
            have H29_ := C29_.1
            exact own_retNH X26_ hx (t := .boolean) Bd.returns Bd.notSynchronized (own_ew hw) hZ26_ hS26_ (Nat.le_refl _) hh C29_ (by simp) (hb hby at_249) rfl rfl ⟨rfl, N26_⟩ (by decide) (by decide)
          · refine own_viaH (fun _ k => XS.icmpNo X26_.here hx rfl (hb hby at_222) rfl (feq hB).1 k) ?_
            show own_FinH _ _ _ _ _ _ _ _ _ T26_ (mkF m 225 #[.val (.int p1), .val (.int p2), .val (.int p3), .val (.int p4), .val (.int p5), .val (.int p6), .val (.int (1 : Int32)), .val (.int c1), .val (.int c2), .val (.int c3), .val (.int c4), .val (.int c5), .val (.ref x18_), .val (.int r), .unset, .val (.int c1), .val (.int dd)] [])
            refine own_viaH (fun _ k => XS.iload X26_.here hx rfl (hb hby at_225) rfl k) ?_
            show own_FinH _ _ _ _ _ _ _ _ _ T26_ (mkF m 227 #[.val (.int p1), .val (.int p2), .val (.int p3), .val (.int p4), .val (.int p5), .val (.int p6), .val (.int (1 : Int32)), .val (.int c1), .val (.int c2), .val (.int c3), .val (.int c4), .val (.int c5), .val (.ref x18_), .val (.int r), .unset, .val (.int c1), .val (.int dd)] [(.int dd)])
            rcases Classical.em (dd = (0 : Int32)) with hC | hC
            · refine own_viaH (fun _ k => XS.ifNo X26_.here hx rfl (hb hby at_227) rfl ((if0 _ _).trans (teq hC).2) k) ?_
              show own_FinH _ _ _ _ _ _ _ _ _ T26_ (mkF m 230 #[.val (.int p1), .val (.int p2), .val (.int p3), .val (.int p4), .val (.int p5), .val (.int p6), .val (.int (1 : Int32)), .val (.int c1), .val (.int c2), .val (.int c3), .val (.int c4), .val (.int c5), .val (.ref x18_), .val (.int r), .unset, .val (.int c1), .val (.int dd)] [])
              refine own_viaH (fun _ k => XS.iconst X26_.here hx rfl (hb hby at_230) k) ?_
              show own_FinH _ _ _ _ _ _ _ _ _ T26_ (mkF m 231 #[.val (.int p1), .val (.int p2), .val (.int p3), .val (.int p4), .val (.int p5), .val (.int p6), .val (.int (1 : Int32)), .val (.int c1), .val (.int c2), .val (.int c3), .val (.int c4), .val (.int c5), .val (.ref x18_), .val (.int r), .unset, .val (.int c1), .val (.int dd)] [(.int (1 : Int32))])
              refine own_viaH (fun _ k => XS.goto X26_.here hx rfl (pc0 := 231) (pc' := 235) rfl (hb hby at_231) (by decide) (by decide) k) ?_
              show own_FinH _ _ _ _ _ _ _ _ _ T26_ (mkF m 235 #[.val (.int p1), .val (.int p2), .val (.int p3), .val (.int p4), .val (.int p5), .val (.int p6), .val (.int (1 : Int32)), .val (.int c1), .val (.int c2), .val (.int c3), .val (.int c4), .val (.int c5), .val (.ref x18_), .val (.int r), .unset, .val (.int c1), .val (.int dd)] [(.int (1 : Int32))])
              refine own_viaH (fun _ k => XS.istore X26_.here hx rfl (hb hby at_235) rfl (l' := #[.val (.int p1), .val (.int p2), .val (.int p3), .val (.int p4), .val (.int p5), .val (.int p6), .val (.int (1 : Int32)), .val (.int c1), .val (.int c2), .val (.int c3), .val (.int c4), .val (.int c5), .val (.ref x18_), .val (.int r), .val (.int (1 : Int32)), .val (.int c1), .val (.int dd)]) rfl k) ?_
              show own_FinH _ _ _ _ _ _ _ _ _ T26_ (mkF m 237 #[.val (.int p1), .val (.int p2), .val (.int p3), .val (.int p4), .val (.int p5), .val (.int p6), .val (.int (1 : Int32)), .val (.int c1), .val (.int c2), .val (.int c3), .val (.int c4), .val (.int c5), .val (.ref x18_), .val (.int r), .val (.int (1 : Int32)), .val (.int c1), .val (.int dd)] [])
              refine own_viaH (fun _ k => XS.iload X26_.here hx rfl (hb hby at_237) rfl k) ?_
              show own_FinH _ _ _ _ _ _ _ _ _ T26_ (mkF m 239 #[.val (.int p1), .val (.int p2), .val (.int p3), .val (.int p4), .val (.int p5), .val (.int p6), .val (.int (1 : Int32)), .val (.int c1), .val (.int c2), .val (.int c3), .val (.int c4), .val (.int c5), .val (.ref x18_), .val (.int r), .val (.int (1 : Int32)), .val (.int c1), .val (.int dd)] [(.int r)])
              refine own_viaH (fun _ k => XS.iload X26_.here hx rfl (hb hby at_239) rfl k) ?_
              show own_FinH _ _ _ _ _ _ _ _ _ T26_ (mkF m 241 #[.val (.int p1), .val (.int p2), .val (.int p3), .val (.int p4), .val (.int p5), .val (.int p6), .val (.int (1 : Int32)), .val (.int c1), .val (.int c2), .val (.int c3), .val (.int c4), .val (.int c5), .val (.ref x18_), .val (.int r), .val (.int (1 : Int32)), .val (.int c1), .val (.int dd)] [(.int (1 : Int32)), (.int r)])
              refine own_viaH (fun _ k => XS.icmpNo X26_.here hx rfl (hb hby at_241) rfl (teq (hr.elim (fun q => q.1) (fun q => absurd (G.mpr ⟨hA, hB, (hdd.resolve_left fun z => absurd (z.1.symm.trans hC) (by decide)).2⟩) q.2))).2 k) ?_
              show own_FinH _ _ _ _ _ _ _ _ _ T26_ (mkF m 244 #[.val (.int p1), .val (.int p2), .val (.int p3), .val (.int p4), .val (.int p5), .val (.int p6), .val (.int (1 : Int32)), .val (.int c1), .val (.int c2), .val (.int c3), .val (.int c4), .val (.int c5), .val (.ref x18_), .val (.int r), .val (.int (1 : Int32)), .val (.int c1), .val (.int dd)] [])
              refine own_viaH (fun _ k => XS.iconst X26_.here hx rfl (hb hby at_244) k) ?_
              show own_FinH _ _ _ _ _ _ _ _ _ T26_ (mkF m 245 #[.val (.int p1), .val (.int p2), .val (.int p3), .val (.int p4), .val (.int p5), .val (.int p6), .val (.int (1 : Int32)), .val (.int c1), .val (.int c2), .val (.int c3), .val (.int c4), .val (.int c5), .val (.ref x18_), .val (.int r), .val (.int (1 : Int32)), .val (.int c1), .val (.int dd)] [(.int (1 : Int32))])
              refine own_viaH (fun _ k => XS.goto X26_.here hx rfl (pc0 := 245) (pc' := 249) rfl (hb hby at_245) (by decide) (by decide) k) ?_
              show own_FinH _ _ _ _ _ _ _ _ _ T26_ (mkF m 249 #[.val (.int p1), .val (.int p2), .val (.int p3), .val (.int p4), .val (.int p5), .val (.int p6), .val (.int (1 : Int32)), .val (.int c1), .val (.int c2), .val (.int c3), .val (.int c4), .val (.int c5), .val (.ref x18_), .val (.int r), .val (.int (1 : Int32)), .val (.int c1), .val (.int dd)] [(.int (1 : Int32))])
              have C31_ := C27_.trans Cq26_
              have H31_ := C31_.1
              exact own_retNH X26_ hx (t := .boolean) Bd.returns Bd.notSynchronized (own_ew hw) hZ26_ hS26_ (Nat.le_refl _) hh C31_ (by simp) (hb hby at_249) rfl rfl ⟨rfl, N26_⟩ (by decide) (by decide)
            · refine own_viaH (fun _ k => XS.ifYes X26_.here hx rfl (pc0 := 227) (pc' := 234) rfl (hb hby at_227) rfl ((if0 _ _).trans (feq hC).2) (by decide) (by decide) k) ?_
              show own_FinH _ _ _ _ _ _ _ _ _ T26_ (mkF m 234 #[.val (.int p1), .val (.int p2), .val (.int p3), .val (.int p4), .val (.int p5), .val (.int p6), .val (.int (1 : Int32)), .val (.int c1), .val (.int c2), .val (.int c3), .val (.int c4), .val (.int c5), .val (.ref x18_), .val (.int r), .unset, .val (.int c1), .val (.int dd)] [])
              refine own_viaH (fun _ k => XS.iconst X26_.here hx rfl (hb hby at_234) k) ?_
              show own_FinH _ _ _ _ _ _ _ _ _ T26_ (mkF m 235 #[.val (.int p1), .val (.int p2), .val (.int p3), .val (.int p4), .val (.int p5), .val (.int p6), .val (.int (1 : Int32)), .val (.int c1), .val (.int c2), .val (.int c3), .val (.int c4), .val (.int c5), .val (.ref x18_), .val (.int r), .unset, .val (.int c1), .val (.int dd)] [(.int (0 : Int32))])
              refine own_viaH (fun _ k => XS.istore X26_.here hx rfl (hb hby at_235) rfl (l' := #[.val (.int p1), .val (.int p2), .val (.int p3), .val (.int p4), .val (.int p5), .val (.int p6), .val (.int (1 : Int32)), .val (.int c1), .val (.int c2), .val (.int c3), .val (.int c4), .val (.int c5), .val (.ref x18_), .val (.int r), .val (.int (0 : Int32)), .val (.int c1), .val (.int dd)]) rfl k) ?_
              show own_FinH _ _ _ _ _ _ _ _ _ T26_ (mkF m 237 #[.val (.int p1), .val (.int p2), .val (.int p3), .val (.int p4), .val (.int p5), .val (.int p6), .val (.int (1 : Int32)), .val (.int c1), .val (.int c2), .val (.int c3), .val (.int c4), .val (.int c5), .val (.ref x18_), .val (.int r), .val (.int (0 : Int32)), .val (.int c1), .val (.int dd)] [])
              refine own_viaH (fun _ k => XS.iload X26_.here hx rfl (hb hby at_237) rfl k) ?_
              show own_FinH _ _ _ _ _ _ _ _ _ T26_ (mkF m 239 #[.val (.int p1), .val (.int p2), .val (.int p3), .val (.int p4), .val (.int p5), .val (.int p6), .val (.int (1 : Int32)), .val (.int c1), .val (.int c2), .val (.int c3), .val (.int c4), .val (.int c5), .val (.ref x18_), .val (.int r), .val (.int (0 : Int32)), .val (.int c1), .val (.int dd)] [(.int r)])
              refine own_viaH (fun _ k => XS.iload X26_.here hx rfl (hb hby at_239) rfl k) ?_
              show own_FinH _ _ _ _ _ _ _ _ _ T26_ (mkF m 241 #[.val (.int p1), .val (.int p2), .val (.int p3), .val (.int p4), .val (.int p5), .val (.int p6), .val (.int (1 : Int32)), .val (.int c1), .val (.int c2), .val (.int c3), .val (.int c4), .val (.int c5), .val (.ref x18_), .val (.int r), .val (.int (0 : Int32)), .val (.int c1), .val (.int dd)] [(.int (0 : Int32)), (.int r)])
              refine own_viaH (fun _ k => XS.icmpNo X26_.here hx rfl (hb hby at_241) rfl (teq (hr.elim (fun q => absurd (hdd.resolve_right fun z => hC z.1).2 (G.mp q.2).2.2) (fun q => q.1))).2 k) ?_
              show own_FinH _ _ _ _ _ _ _ _ _ T26_ (mkF m 244 #[.val (.int p1), .val (.int p2), .val (.int p3), .val (.int p4), .val (.int p5), .val (.int p6), .val (.int (1 : Int32)), .val (.int c1), .val (.int c2), .val (.int c3), .val (.int c4), .val (.int c5), .val (.ref x18_), .val (.int r), .val (.int (0 : Int32)), .val (.int c1), .val (.int dd)] [])
              refine own_viaH (fun _ k => XS.iconst X26_.here hx rfl (hb hby at_244) k) ?_
              show own_FinH _ _ _ _ _ _ _ _ _ T26_ (mkF m 245 #[.val (.int p1), .val (.int p2), .val (.int p3), .val (.int p4), .val (.int p5), .val (.int p6), .val (.int (1 : Int32)), .val (.int c1), .val (.int c2), .val (.int c3), .val (.int c4), .val (.int c5), .val (.ref x18_), .val (.int r), .val (.int (0 : Int32)), .val (.int c1), .val (.int dd)] [(.int (1 : Int32))])
              refine own_viaH (fun _ k => XS.goto X26_.here hx rfl (pc0 := 245) (pc' := 249) rfl (hb hby at_245) (by decide) (by decide) k) ?_
              show own_FinH _ _ _ _ _ _ _ _ _ T26_ (mkF m 249 #[.val (.int p1), .val (.int p2), .val (.int p3), .val (.int p4), .val (.int p5), .val (.int p6), .val (.int (1 : Int32)), .val (.int c1), .val (.int c2), .val (.int c3), .val (.int c4), .val (.int c5), .val (.ref x18_), .val (.int r), .val (.int (0 : Int32)), .val (.int c1), .val (.int dd)] [(.int (1 : Int32))])
              have C30_ := C27_.trans Cq26_
              have H30_ := C30_.1
              exact own_retNH X26_ hx (t := .boolean) Bd.returns Bd.notSynchronized (own_ew hw) hZ26_ hS26_ (Nat.le_refl _) hh C30_ (by simp) (hb hby at_249) rfl rfl ⟨rfl, N26_⟩ (by decide) (by decide)
      refine own_viaH (fun _ k => XS.iload X26_.here hx rfl (hb hby at_124) rfl k) ?_
      show own_FinH _ _ _ _ _ _ _ _ _ T26_ (mkF m 126 #[.val (.int p1), .val (.int p2), .val (.int p3), .val (.int p4), .val (.int p5), .val (.int p6), .val (.int (1 : Int32)), .val (.int c1), .val (.int c2), .val (.int c3), .val (.int c4), .val (.int c5), .val (.ref x18_), .val (.int r), .unset, .val (.int c1), .unset] [(.int (1 : Int32))])
      refine own_viaH (fun _ k => XS.iconst X26_.here hx rfl (hb hby at_126) k) ?_
      show own_FinH _ _ _ _ _ _ _ _ _ T26_ (mkF m 127 #[.val (.int p1), .val (.int p2), .val (.int p3), .val (.int p4), .val (.int p5), .val (.int p6), .val (.int (1 : Int32)), .val (.int c1), .val (.int c2), .val (.int c3), .val (.int c4), .val (.int c5), .val (.ref x18_), .val (.int r), .unset, .val (.int c1), .unset] [(.int (2 : Int32)), (.int (1 : Int32))])
      refine own_viaH (fun _ k => XS.icmpYes X26_.here hx rfl (pc0 := 127) (pc' := 144) rfl (hb hby at_127) rfl (tlt (by decide)).1 (by decide) (by decide) k) ?_
      show own_FinH _ _ _ _ _ _ _ _ _ T26_ (mkF m 144 #[.val (.int p1), .val (.int p2), .val (.int p3), .val (.int p4), .val (.int p5), .val (.int p6), .val (.int (1 : Int32)), .val (.int c1), .val (.int c2), .val (.int c3), .val (.int c4), .val (.int c5), .val (.ref x18_), .val (.int r), .unset, .val (.int c1), .unset] [])
      refine own_viaH (fun _ k => XS.iload X26_.here hx rfl (hb hby at_144) rfl k) ?_
      show own_FinH _ _ _ _ _ _ _ _ _ T26_ (mkF m 146 #[.val (.int p1), .val (.int p2), .val (.int p3), .val (.int p4), .val (.int p5), .val (.int p6), .val (.int (1 : Int32)), .val (.int c1), .val (.int c2), .val (.int c3), .val (.int c4), .val (.int c5), .val (.ref x18_), .val (.int r), .unset, .val (.int c1), .unset] [(.int (1 : Int32))])
      refine own_viaH (fun _ k => XS.iconst X26_.here hx rfl (hb hby at_146) k) ?_
      show own_FinH _ _ _ _ _ _ _ _ _ T26_ (mkF m 147 #[.val (.int p1), .val (.int p2), .val (.int p3), .val (.int p4), .val (.int p5), .val (.int p6), .val (.int (1 : Int32)), .val (.int c1), .val (.int c2), .val (.int c3), .val (.int c4), .val (.int c5), .val (.ref x18_), .val (.int r), .unset, .val (.int c1), .unset] [(.int (3 : Int32)), (.int (1 : Int32))])
      refine own_viaH (fun _ k => XS.icmpYes X26_.here hx rfl (pc0 := 147) (pc' := 164) rfl (hb hby at_147) rfl (tlt (by decide)).1 (by decide) (by decide) k) ?_
      show own_FinH _ _ _ _ _ _ _ _ _ T26_ (mkF m 164 #[.val (.int p1), .val (.int p2), .val (.int p3), .val (.int p4), .val (.int p5), .val (.int p6), .val (.int (1 : Int32)), .val (.int c1), .val (.int c2), .val (.int c3), .val (.int c4), .val (.int c5), .val (.ref x18_), .val (.int r), .unset, .val (.int c1), .unset] [])
      refine own_viaH (fun _ k => XS.iload X26_.here hx rfl (hb hby at_164) rfl k) ?_
      show own_FinH _ _ _ _ _ _ _ _ _ T26_ (mkF m 166 #[.val (.int p1), .val (.int p2), .val (.int p3), .val (.int p4), .val (.int p5), .val (.int p6), .val (.int (1 : Int32)), .val (.int c1), .val (.int c2), .val (.int c3), .val (.int c4), .val (.int c5), .val (.ref x18_), .val (.int r), .unset, .val (.int c1), .unset] [(.int (1 : Int32))])
      refine own_viaH (fun _ k => XS.iconst X26_.here hx rfl (hb hby at_166) k) ?_
      show own_FinH _ _ _ _ _ _ _ _ _ T26_ (mkF m 167 #[.val (.int p1), .val (.int p2), .val (.int p3), .val (.int p4), .val (.int p5), .val (.int p6), .val (.int (1 : Int32)), .val (.int c1), .val (.int c2), .val (.int c3), .val (.int c4), .val (.int c5), .val (.ref x18_), .val (.int r), .unset, .val (.int c1), .unset] [(.int (4 : Int32)), (.int (1 : Int32))])
      refine own_viaH (fun _ k => XS.icmpYes X26_.here hx rfl (pc0 := 167) (pc' := 184) rfl (hb hby at_167) rfl (tlt (by decide)).1 (by decide) (by decide) k) ?_
      show own_FinH _ _ _ _ _ _ _ _ _ T26_ (mkF m 184 #[.val (.int p1), .val (.int p2), .val (.int p3), .val (.int p4), .val (.int p5), .val (.int p6), .val (.int (1 : Int32)), .val (.int c1), .val (.int c2), .val (.int c3), .val (.int c4), .val (.int c5), .val (.ref x18_), .val (.int r), .unset, .val (.int c1), .unset] [])
      refine own_viaH (fun _ k => XS.iload X26_.here hx rfl (hb hby at_184) rfl k) ?_
      show own_FinH _ _ _ _ _ _ _ _ _ T26_ (mkF m 186 #[.val (.int p1), .val (.int p2), .val (.int p3), .val (.int p4), .val (.int p5), .val (.int p6), .val (.int (1 : Int32)), .val (.int c1), .val (.int c2), .val (.int c3), .val (.int c4), .val (.int c5), .val (.ref x18_), .val (.int r), .unset, .val (.int c1), .unset] [(.int (1 : Int32))])
      refine own_viaH (fun _ k => XS.iconst X26_.here hx rfl (hb hby at_186) k) ?_
      show own_FinH _ _ _ _ _ _ _ _ _ T26_ (mkF m 187 #[.val (.int p1), .val (.int p2), .val (.int p3), .val (.int p4), .val (.int p5), .val (.int p6), .val (.int (1 : Int32)), .val (.int c1), .val (.int c2), .val (.int c3), .val (.int c4), .val (.int c5), .val (.ref x18_), .val (.int r), .unset, .val (.int c1), .unset] [(.int (5 : Int32)), (.int (1 : Int32))])
      refine own_viaH (fun _ k => XS.icmpYes X26_.here hx rfl (pc0 := 187) (pc' := 208) rfl (hb hby at_187) rfl (tlt (by decide)).1 (by decide) (by decide) k) ?_
      show own_FinH _ _ _ _ _ _ _ _ _ T26_ (mkF m 208 #[.val (.int p1), .val (.int p2), .val (.int p3), .val (.int p4), .val (.int p5), .val (.int p6), .val (.int (1 : Int32)), .val (.int c1), .val (.int c2), .val (.int c3), .val (.int c4), .val (.int c5), .val (.ref x18_), .val (.int r), .unset, .val (.int c1), .unset] [])
      refine own_viaH (fun _ k => XS.iconst X26_.here hx rfl (hb hby at_208) k) ?_
      show own_FinH _ _ _ _ _ _ _ _ _ T26_ (mkF m 209 #[.val (.int p1), .val (.int p2), .val (.int p3), .val (.int p4), .val (.int p5), .val (.int p6), .val (.int (1 : Int32)), .val (.int c1), .val (.int c2), .val (.int c3), .val (.int c4), .val (.int c5), .val (.ref x18_), .val (.int r), .unset, .val (.int c1), .unset] [(.int (0 : Int32))])
      refine own_viaH (fun _ k => XS.istore X26_.here hx rfl (hb hby at_209) rfl (l' := #[.val (.int p1), .val (.int p2), .val (.int p3), .val (.int p4), .val (.int p5), .val (.int p6), .val (.int (1 : Int32)), .val (.int c1), .val (.int c2), .val (.int c3), .val (.int c4), .val (.int c5), .val (.ref x18_), .val (.int r), .unset, .val (.int c1), .val (.int (0 : Int32))]) rfl k) ?_
      show own_FinH _ _ _ _ _ _ _ _ _ T26_ (mkF m 211 #[.val (.int p1), .val (.int p2), .val (.int p3), .val (.int p4), .val (.int p5), .val (.int p6), .val (.int (1 : Int32)), .val (.int c1), .val (.int c2), .val (.int c3), .val (.int c4), .val (.int c5), .val (.ref x18_), .val (.int r), .unset, .val (.int c1), .val (.int (0 : Int32))] [])
      exact s211 _ (Or.inr ⟨rfl, not_false⟩)
    · show own_FinH _ _ _ _ _ _ _ _ _ T5_ (mkF m 41 #[.val (.int p1), .val (.int p2), .val (.int p3), .val (.int p4), .val (.int p5), .val (.int p6), .val (.int (2 : Int32)), .val (.int c1), .val (.int c2), .val (.int c3), .val (.int c4), .val (.int c5), .unset, .unset, .unset, .unset, .unset] [])
      refine own_viaH (fun _ k => XS.iload X5_.here hx rfl (hb hby at_41) rfl k) ?_
      show own_FinH _ _ _ _ _ _ _ _ _ T5_ (mkF m 43 #[.val (.int p1), .val (.int p2), .val (.int p3), .val (.int p4), .val (.int p5), .val (.int p6), .val (.int (2 : Int32)), .val (.int c1), .val (.int c2), .val (.int c3), .val (.int c4), .val (.int c5), .unset, .unset, .unset, .unset, .unset] [(.int (2 : Int32))])
      refine own_viaH (fun _ k => XS.iload X5_.here hx rfl (hb hby at_43) rfl k) ?_
      show own_FinH _ _ _ _ _ _ _ _ _ T5_ (mkF m 45 #[.val (.int p1), .val (.int p2), .val (.int p3), .val (.int p4), .val (.int p5), .val (.int p6), .val (.int (2 : Int32)), .val (.int c1), .val (.int c2), .val (.int c3), .val (.int c4), .val (.int c5), .unset, .unset, .unset, .unset, .unset] [(.int c1), (.int (2 : Int32))])
      refine own_viaH (fun _ k => XS.iload X5_.here hx rfl (hb hby at_45) rfl k) ?_
      show own_FinH _ _ _ _ _ _ _ _ _ T5_ (mkF m 47 #[.val (.int p1), .val (.int p2), .val (.int p3), .val (.int p4), .val (.int p5), .val (.int p6), .val (.int (2 : Int32)), .val (.int c1), .val (.int c2), .val (.int c3), .val (.int c4), .val (.int c5), .unset, .unset, .unset, .unset, .unset] [(.int c2), (.int c1), (.int (2 : Int32))])
      refine own_viaH (fun _ k => XS.iload X5_.here hx rfl (hb hby at_47) rfl k) ?_
      show own_FinH _ _ _ _ _ _ _ _ _ T5_ (mkF m 49 #[.val (.int p1), .val (.int p2), .val (.int p3), .val (.int p4), .val (.int p5), .val (.int p6), .val (.int (2 : Int32)), .val (.int c1), .val (.int c2), .val (.int c3), .val (.int c4), .val (.int c5), .unset, .unset, .unset, .unset, .unset] [(.int c3), (.int c2), (.int c1), (.int (2 : Int32))])
      refine own_viaH (fun _ k => XS.iload X5_.here hx rfl (hb hby at_49) rfl k) ?_
      show own_FinH _ _ _ _ _ _ _ _ _ T5_ (mkF m 51 #[.val (.int p1), .val (.int p2), .val (.int p3), .val (.int p4), .val (.int p5), .val (.int p6), .val (.int (2 : Int32)), .val (.int c1), .val (.int c2), .val (.int c3), .val (.int c4), .val (.int c5), .unset, .unset, .unset, .unset, .unset] [(.int c4), (.int c3), (.int c2), (.int c1), (.int (2 : Int32))])
      refine own_viaH (fun _ k => XS.iload X5_.here hx rfl (hb hby at_51) rfl k) ?_
      show own_FinH _ _ _ _ _ _ _ _ _ T5_ (mkF m 53 #[.val (.int p1), .val (.int p2), .val (.int p3), .val (.int p4), .val (.int p5), .val (.int p6), .val (.int (2 : Int32)), .val (.int c1), .val (.int c2), .val (.int c3), .val (.int c4), .val (.int c5), .unset, .unset, .unset, .unset, .unset] [(.int c5), (.int c4), (.int c3), (.int c2), (.int c1), (.int (2 : Int32))])
      obtain ⟨_, _, ⟨T32_, L32_, k32_, n32_⟩, -, X32_, ⟨Lc32_, hQ32_, l32_, y32_, z32_⟩, st32_⟩ := Jvm.LawKit.callS X5_ hx (y := (⟨"com/example/dependency_container/dependencycontainer/BeanDefinitionIsPropertyPathPinLaw", "make", "(ICCCCC)Ljava/lang/String;"⟩ : MethodName)) hown (mvT hZ (hw _ (List.mem_of_getElem? (i := 4) rfl))) (mvT hZ (hw _ (List.mem_of_getElem? (i := 5) rfl))) (mvT hZ (hw _ (List.mem_of_getElem? (i := 2) rfl))) (mvT hZ (hw _ (List.mem_of_getElem? (i := 6) rfl))) (by decide) (backOf (W := 0) (own_rm_make2 l Z a0 hw [] c1 c2 c3 c4 c5 cz h0 n0 Z0 O0 S1 (by first | assumption | decide) (by first | assumption | decide) (by first | assumption | decide) (by first | assumption | decide) (by first | assumption | decide) (by first | assumption | decide)) hZ (hw _ (List.mem_of_getElem? (i := 6) rfl)) (hw _ (List.mem_of_getElem? (i := 2) rfl)) (by decide) (by decide)) (g := (mkF m 53 #[.val (.int p1), .val (.int p2), .val (.int p3), .val (.int p4), .val (.int p5), .val (.int p6), .val (.int (2 : Int32)), .val (.int c1), .val (.int c2), .val (.int c3), .val (.int c4), .val (.int c5), .unset, .unset, .unset, .unset, .unset] [(.int c5), (.int c4), (.int c3), (.int c2), (.int c1), (.int (2 : Int32))])) rfl (by rw [hml]; rfl) (argsL := [(.int (2 : Int32)), (.int c1), (.int c2), (.int c3), (.int c4), (.int c5)]) (rest := []) (lenOf own_pd18 rfl) rfl (by show 2 * 0 + _ ≤ _; exact Nat.le_of_eq rfl) (hb hby at_53) (fun _ _ => ⟨rfl, hh5_, (by decide : 0 + 0 + 0 + 0 + 0 + 0 + 3 ≤ _), (by decide : 0 + 0 + 0 + 0 + 0 + 0 + 8 ≤ _)⟩)
      dsimp only [Pt.U, Pt.locs, Pt.cells, Pt.slots] at X32_ l32_ y32_ z32_ st32_ hQ32_
      subst l32_ y32_ z32_
      obtain ⟨x33_, t34_, kt35_, rfl, Nq32_, K32_, r36_, r37_, r38_, r39_, r40_⟩ := hQ32_
      have N32_ := Fr.app N5_ Nq32_
      refine own_viaH (fun _ k => st32_ _ k) ?_
      show own_FinH _ _ _ _ _ _ _ _ _ T32_ (mkF m 56 #[.val (.int p1), .val (.int p2), .val (.int p3), .val (.int p4), .val (.int p5), .val (.int p6), .val (.int (2 : Int32)), .val (.int c1), .val (.int c2), .val (.int c3), .val (.int c4), .val (.int c5), .unset, .unset, .unset, .unset, .unset] [(.ref x33_)])
      refine own_viaH (fun _ k => XS.astore X32_.here hx rfl (hb hby at_56) rfl rfl (l' := #[.val (.int p1), .val (.int p2), .val (.int p3), .val (.int p4), .val (.int p5), .val (.int p6), .val (.int (2 : Int32)), .val (.int c1), .val (.int c2), .val (.int c3), .val (.int c4), .val (.int c5), .val (.ref x33_), .unset, .unset, .unset, .unset]) rfl k) ?_
      show own_FinH _ _ _ _ _ _ _ _ _ T32_ (mkF m 58 #[.val (.int p1), .val (.int p2), .val (.int p3), .val (.int p4), .val (.int p5), .val (.int p6), .val (.int (2 : Int32)), .val (.int c1), .val (.int c2), .val (.int c3), .val (.int c4), .val (.int c5), .val (.ref x33_), .unset, .unset, .unset, .unset] [])
      refine own_viaH (fun _ k => XS.aload X32_.here hx rfl (hb hby at_58) rfl rfl k) ?_
      show own_FinH _ _ _ _ _ _ _ _ _ T32_ (mkF m 60 #[.val (.int p1), .val (.int p2), .val (.int p3), .val (.int p4), .val (.int p5), .val (.int p6), .val (.int (2 : Int32)), .val (.int c1), .val (.int c2), .val (.int c3), .val (.int c4), .val (.int c5), .val (.ref x33_), .unset, .unset, .unset, .unset] [(.ref x33_)])
      have C42_ := C0.trans (CHr.keep K32_ sf0 H0)
      have H42_ := C42_.1
      obtain ⟨_, _, ⟨T41_, L41_, k41_, n41_⟩, -, Y41_, hSq41_, hgq41_, ⟨Lc41_, hQ41_, l41_, y41_, z41_, Cq41_⟩, st41_⟩ := callSS X32_ hx (y := (⟨"com/example/dependency_container/dependencycontainer/BeanDefinition", "isPropertyPath", "(Ljava/lang/String;)Z"⟩ : MethodName)) hown (mvT hZ (hw _ (List.mem_of_getElem? (i := 29) rfl))) (mvT hZ (hw _ (List.mem_of_getElem? (i := 30) rfl))) (mvT hZ (hw _ (List.mem_of_getElem? (i := 31) rfl))) (mvT hZ (hw _ (List.mem_of_getElem? (i := 32) rfl))) (by decide) (backOfSH (s := s) (vm0 := s.vm) (W := 0) (own_rm_ipp l Z a0 hw [] x33_ cz t34_ kt35_ (2 : Int32) ([c1.toInt8.toInt32, c2.toInt8.toInt32]) 2 fm T32_.heap n0 (Nat.le_trans Z0 K32_.1) (O0.keep K32_ all0) S1 (by first | assumption | decide) r37_ r38_ r39_ r40_ S2 r_fm rfl (by decide) (by decide) (own_bytes [c1, c2])) hZ (hw _ (List.mem_of_getElem? (i := 32) rfl)) (hw _ (List.mem_of_getElem? (i := 31) rfl)) (by decide) (by decide) (own_ew hw) H42_) (g := (mkF m 60 #[.val (.int p1), .val (.int p2), .val (.int p3), .val (.int p4), .val (.int p5), .val (.int p6), .val (.int (2 : Int32)), .val (.int c1), .val (.int c2), .val (.int c3), .val (.int c4), .val (.int c5), .val (.ref x33_), .unset, .unset, .unset, .unset] [(.ref x33_)])) rfl (by rw [hml]; rfl) (argsL := [(.ref x33_)]) (rest := []) (lenOf own_pd19 rfl) rfl (by show 2 * 0 + _ ≤ _; exact Nat.le_of_eq rfl) (hb hby at_60) (fun _ _ => ⟨rfl, rfl, (by decide : 0 + 0 + 0 + 0 + 0 + 0 + 3 + 2 ≤ _), (by decide : 0 + 0 + 0 + 0 + 0 + 0 + 8 + 12 ≤ _)⟩)
      dsimp only [Pt.U, Pt.locs, Pt.cells, Pt.slots] at Y41_ l41_ y41_ z41_ st41_ hQ41_ hSq41_ hgq41_ Cq41_
      subst l41_ y41_ z41_
      obtain ⟨X41_, hS41_, hZ41_, hown41_⟩ := rebS hS0 ((Nat.le_trans hk0 K32_.1)) Y41_ hSq41_ hgq41_ hZ hown
      obtain ⟨r, rfl, Nq41_, K41_, hr⟩ := hQ41_
      have N41_ := Fr.app N32_ Nq41_
      refine own_viaH (fun _ k => st41_.trans k) ?_
      show own_FinH _ _ _ _ _ _ _ _ _ T41_ (mkF m 63 #[.val (.int p1), .val (.int p2), .val (.int p3), .val (.int p4), .val (.int p5), .val (.int p6), .val (.int (2 : Int32)), .val (.int c1), .val (.int c2), .val (.int c3), .val (.int c4), .val (.int c5), .val (.ref x33_), .unset, .unset, .unset, .unset] [(.int r)])
      have G := own_good_2 hc1 hc2
      refine own_viaH (fun _ k => XS.istore X41_.here hx rfl (hb hby at_63) rfl (l' := #[.val (.int p1), .val (.int p2), .val (.int p3), .val (.int p4), .val (.int p5), .val (.int p6), .val (.int (2 : Int32)), .val (.int c1), .val (.int c2), .val (.int c3), .val (.int c4), .val (.int c5), .val (.ref x33_), .val (.int r), .unset, .unset, .unset]) rfl k) ?_
      show own_FinH _ _ _ _ _ _ _ _ _ T41_ (mkF m 65 #[.val (.int p1), .val (.int p2), .val (.int p3), .val (.int p4), .val (.int p5), .val (.int p6), .val (.int (2 : Int32)), .val (.int c1), .val (.int c2), .val (.int c3), .val (.int c4), .val (.int c5), .val (.ref x33_), .val (.int r), .unset, .unset, .unset] [])
      refine own_viaH (fun _ k => XS.iload X41_.here hx rfl (hb hby at_65) rfl k) ?_
      show own_FinH _ _ _ _ _ _ _ _ _ T41_ (mkF m 67 #[.val (.int p1), .val (.int p2), .val (.int p3), .val (.int p4), .val (.int p5), .val (.int p6), .val (.int (2 : Int32)), .val (.int c1), .val (.int c2), .val (.int c3), .val (.int c4), .val (.int c5), .val (.ref x33_), .val (.int r), .unset, .unset, .unset] [(.int (2 : Int32))])
      refine own_viaH (fun _ k => XS.ifYes X41_.here hx rfl (pc0 := 67) (pc' := 76) rfl (hb hby at_67) rfl ((if0 _ _).trans (feq (by decide)).2) (by decide) (by decide) k) ?_
      show own_FinH _ _ _ _ _ _ _ _ _ T41_ (mkF m 76 #[.val (.int p1), .val (.int p2), .val (.int p3), .val (.int p4), .val (.int p5), .val (.int p6), .val (.int (2 : Int32)), .val (.int c1), .val (.int c2), .val (.int c3), .val (.int c4), .val (.int c5), .val (.ref x33_), .val (.int r), .unset, .unset, .unset] [])
      refine own_viaH (fun _ k => XS.iload X41_.here hx rfl (hb hby at_76) rfl k) ?_
      show own_FinH _ _ _ _ _ _ _ _ _ T41_ (mkF m 78 #[.val (.int p1), .val (.int p2), .val (.int p3), .val (.int p4), .val (.int p5), .val (.int p6), .val (.int (2 : Int32)), .val (.int c1), .val (.int c2), .val (.int c3), .val (.int c4), .val (.int c5), .val (.ref x33_), .val (.int r), .unset, .unset, .unset] [(.int (2 : Int32))])
      refine own_viaH (fun _ k => XS.iconst X41_.here hx rfl (hb hby at_78) k) ?_
      show own_FinH _ _ _ _ _ _ _ _ _ T41_ (mkF m 79 #[.val (.int p1), .val (.int p2), .val (.int p3), .val (.int p4), .val (.int p5), .val (.int p6), .val (.int (2 : Int32)), .val (.int c1), .val (.int c2), .val (.int c3), .val (.int c4), .val (.int c5), .val (.ref x33_), .val (.int r), .unset, .unset, .unset] [(.int (1 : Int32)), (.int (2 : Int32))])
      refine own_viaH (fun _ k => XS.icmpYes X41_.here hx rfl (pc0 := 79) (pc' := 87) rfl (hb hby at_79) rfl (feq (by decide)).2 (by decide) (by decide) k) ?_
      show own_FinH _ _ _ _ _ _ _ _ _ T41_ (mkF m 87 #[.val (.int p1), .val (.int p2), .val (.int p3), .val (.int p4), .val (.int p5), .val (.int p6), .val (.int (2 : Int32)), .val (.int c1), .val (.int c2), .val (.int c3), .val (.int c4), .val (.int c5), .val (.ref x33_), .val (.int r), .unset, .unset, .unset] [])
      refine own_viaH (fun _ k => XS.iload X41_.here hx rfl (hb hby at_87) rfl k) ?_
      show own_FinH _ _ _ _ _ _ _ _ _ T41_ (mkF m 89 #[.val (.int p1), .val (.int p2), .val (.int p3), .val (.int p4), .val (.int p5), .val (.int p6), .val (.int (2 : Int32)), .val (.int c1), .val (.int c2), .val (.int c3), .val (.int c4), .val (.int c5), .val (.ref x33_), .val (.int r), .unset, .unset, .unset] [(.int (2 : Int32))])
      refine own_viaH (fun _ k => XS.iconst X41_.here hx rfl (hb hby at_89) k) ?_
      show own_FinH _ _ _ _ _ _ _ _ _ T41_ (mkF m 90 #[.val (.int p1), .val (.int p2), .val (.int p3), .val (.int p4), .val (.int p5), .val (.int p6), .val (.int (2 : Int32)), .val (.int c1), .val (.int c2), .val (.int c3), .val (.int c4), .val (.int c5), .val (.ref x33_), .val (.int r), .unset, .unset, .unset] [(.int (2 : Int32)), (.int (2 : Int32))])
      refine own_viaH (fun _ k => XS.icmpNo X41_.here hx rfl (hb hby at_90) rfl (teq rfl).2 k) ?_
      show own_FinH _ _ _ _ _ _ _ _ _ T41_ (mkF m 93 #[.val (.int p1), .val (.int p2), .val (.int p3), .val (.int p4), .val (.int p5), .val (.int p6), .val (.int (2 : Int32)), .val (.int c1), .val (.int c2), .val (.int c3), .val (.int c4), .val (.int c5), .val (.ref x33_), .val (.int r), .unset, .unset, .unset] [])
      refine own_viaH (fun _ k => XS.iload X41_.here hx rfl (hb hby at_93) rfl k) ?_
      show own_FinH _ _ _ _ _ _ _ _ _ T41_ (mkF m 95 #[.val (.int p1), .val (.int p2), .val (.int p3), .val (.int p4), .val (.int p5), .val (.int p6), .val (.int (2 : Int32)), .val (.int c1), .val (.int c2), .val (.int c3), .val (.int c4), .val (.int c5), .val (.ref x33_), .val (.int r), .unset, .unset, .unset] [(.int c2)])
      refine own_viaH (fun _ k => XS.goto X41_.here hx rfl (pc0 := 95) (pc' := 122) rfl (hb hby at_95) (by decide) (by decide) k) ?_
      show own_FinH _ _ _ _ _ _ _ _ _ T41_ (mkF m 122 #[.val (.int p1), .val (.int p2), .val (.int p3), .val (.int p4), .val (.int p5), .val (.int p6), .val (.int (2 : Int32)), .val (.int c1), .val (.int c2), .val (.int c3), .val (.int c4), .val (.int c5), .val (.ref x33_), .val (.int r), .unset, .unset, .unset] [(.int c2)])
      refine own_viaH (fun _ k => XS.istore X41_.here hx rfl (hb hby at_122) rfl (l' := #[.val (.int p1), .val (.int p2), .val (.int p3), .val (.int p4), .val (.int p5), .val (.int p6), .val (.int (2 : Int32)), .val (.int c1), .val (.int c2), .val (.int c3), .val (.int c4), .val (.int c5), .val (.ref x33_), .val (.int r), .unset, .val (.int c2), .unset]) rfl k) ?_
      show own_FinH _ _ _ _ _ _ _ _ _ T41_ (mkF m 124 #[.val (.int p1), .val (.int p2), .val (.int p3), .val (.int p4), .val (.int p5), .val (.int p6), .val (.int (2 : Int32)), .val (.int c1), .val (.int c2), .val (.int c3), .val (.int c4), .val (.int c5), .val (.ref x33_), .val (.int r), .unset, .val (.int c2), .unset] [])
      have s211 : ∀ (dd : Int32) (hdd : (dd = (1 : Int32) ∧ ((c1 = (46 : Int32) ∧ c2 = (46 : Int32)))) ∨ (dd = (0 : Int32) ∧ ¬ ((c1 = (46 : Int32) ∧ c2 = (46 : Int32))))), own_FinH p e s below Z own_EL (own_Q_law Z p1 p2 p3 p4 p5 p6 cz fm h0 n0) room_1.cells room_1.slots T41_ (mkF m 211 #[.val (.int p1), .val (.int p2), .val (.int p3), .val (.int p4), .val (.int p5), .val (.int p6), .val (.int (2 : Int32)), .val (.int c1), .val (.int c2), .val (.int c3), .val (.int c4), .val (.int c5), .val (.ref x33_), .val (.int r), .unset, .val (.int c2), .val (.int dd)] []) := by
        intro dd hdd
        refine own_viaH (fun _ k => XS.iload X41_.here hx rfl (hb hby at_211) rfl k) ?_
        show own_FinH _ _ _ _ _ _ _ _ _ T41_ (mkF m 213 #[.val (.int p1), .val (.int p2), .val (.int p3), .val (.int p4), .val (.int p5), .val (.int p6), .val (.int (2 : Int32)), .val (.int c1), .val (.int c2), .val (.int c3), .val (.int c4), .val (.int c5), .val (.ref x33_), .val (.int r), .unset, .val (.int c2), .val (.int dd)] [(.int c1)])
        refine own_viaH (fun _ k => XS.bipush X41_.here hx rfl (hb hby at_213) k) ?_
        show own_FinH _ _ _ _ _ _ _ _ _ T41_ (mkF m 215 #[.val (.int p1), .val (.int p2), .val (.int p3), .val (.int p4), .val (.int p5), .val (.int p6), .val (.int (2 : Int32)), .val (.int c1), .val (.int c2), .val (.int c3), .val (.int c4), .val (.int c5), .val (.ref x33_), .val (.int r), .unset, .val (.int c2), .val (.int dd)] [(.int (46 : Int32)), (.int c1)])
        rcases Classical.em (c1 = (46 : Int32)) with hA | hA
        · refine own_viaH (fun _ k => XS.icmpYes X41_.here hx rfl (pc0 := 215) (pc' := 234) rfl (hb hby at_215) rfl (teq hA).1 (by decide) (by decide) k) ?_
          show own_FinH _ _ _ _ _ _ _ _ _ T41_ (mkF m 234 #[.val (.int p1), .val (.int p2), .val (.int p3), .val (.int p4), .val (.int p5), .val (.int p6), .val (.int (2 : Int32)), .val (.int c1), .val (.int c2), .val (.int c3), .val (.int c4), .val (.int c5), .val (.ref x33_), .val (.int r), .unset, .val (.int c2), .val (.int dd)] [])
          refine own_viaH (fun _ k => XS.iconst X41_.here hx rfl (hb hby at_234) k) ?_
          show own_FinH _ _ _ _ _ _ _ _ _ T41_ (mkF m 235 #[.val (.int p1), .val (.int p2), .val (.int p3), .val (.int p4), .val (.int p5), .val (.int p6), .val (.int (2 : Int32)), .val (.int c1), .val (.int c2), .val (.int c3), .val (.int c4), .val (.int c5), .val (.ref x33_), .val (.int r), .unset, .val (.int c2), .val (.int dd)] [(.int (0 : Int32))])
          refine own_viaH (fun _ k => XS.istore X41_.here hx rfl (hb hby at_235) rfl (l' := #[.val (.int p1), .val (.int p2), .val (.int p3), .val (.int p4), .val (.int p5), .val (.int p6), .val (.int (2 : Int32)), .val (.int c1), .val (.int c2), .val (.int c3), .val (.int c4), .val (.int c5), .val (.ref x33_), .val (.int r), .val (.int (0 : Int32)), .val (.int c2), .val (.int dd)]) rfl k) ?_
          show own_FinH _ _ _ _ _ _ _ _ _ T41_ (mkF m 237 #[.val (.int p1), .val (.int p2), .val (.int p3), .val (.int p4), .val (.int p5), .val (.int p6), .val (.int (2 : Int32)), .val (.int c1), .val (.int c2), .val (.int c3), .val (.int c4), .val (.int c5), .val (.ref x33_), .val (.int r), .val (.int (0 : Int32)), .val (.int c2), .val (.int dd)] [])
          refine own_viaH (fun _ k => XS.iload X41_.here hx rfl (hb hby at_237) rfl k) ?_
          show own_FinH _ _ _ _ _ _ _ _ _ T41_ (mkF m 239 #[.val (.int p1), .val (.int p2), .val (.int p3), .val (.int p4), .val (.int p5), .val (.int p6), .val (.int (2 : Int32)), .val (.int c1), .val (.int c2), .val (.int c3), .val (.int c4), .val (.int c5), .val (.ref x33_), .val (.int r), .val (.int (0 : Int32)), .val (.int c2), .val (.int dd)] [(.int r)])
          refine own_viaH (fun _ k => XS.iload X41_.here hx rfl (hb hby at_239) rfl k) ?_
          show own_FinH _ _ _ _ _ _ _ _ _ T41_ (mkF m 241 #[.val (.int p1), .val (.int p2), .val (.int p3), .val (.int p4), .val (.int p5), .val (.int p6), .val (.int (2 : Int32)), .val (.int c1), .val (.int c2), .val (.int c3), .val (.int c4), .val (.int c5), .val (.ref x33_), .val (.int r), .val (.int (0 : Int32)), .val (.int c2), .val (.int dd)] [(.int (0 : Int32)), (.int r)])
          refine own_viaH (fun _ k => XS.icmpNo X41_.here hx rfl (hb hby at_241) rfl (teq (hr.elim (fun q => absurd hA (G.mp q.2).1) (fun q => q.1))).2 k) ?_
          show own_FinH _ _ _ _ _ _ _ _ _ T41_ (mkF m 244 #[.val (.int p1), .val (.int p2), .val (.int p3), .val (.int p4), .val (.int p5), .val (.int p6), .val (.int (2 : Int32)), .val (.int c1), .val (.int c2), .val (.int c3), .val (.int c4), .val (.int c5), .val (.ref x33_), .val (.int r), .val (.int (0 : Int32)), .val (.int c2), .val (.int dd)] [])
          refine own_viaH (fun _ k => XS.iconst X41_.here hx rfl (hb hby at_244) k) ?_
          show own_FinH _ _ _ _ _ _ _ _ _ T41_ (mkF m 245 #[.val (.int p1), .val (.int p2), .val (.int p3), .val (.int p4), .val (.int p5), .val (.int p6), .val (.int (2 : Int32)), .val (.int c1), .val (.int c2), .val (.int c3), .val (.int c4), .val (.int c5), .val (.ref x33_), .val (.int r), .val (.int (0 : Int32)), .val (.int c2), .val (.int dd)] [(.int (1 : Int32))])
          refine own_viaH (fun _ k => XS.goto X41_.here hx rfl (pc0 := 245) (pc' := 249) rfl (hb hby at_245) (by decide) (by decide) k) ?_
          show own_FinH _ _ _ _ _ _ _ _ _ T41_ (mkF m 249 #[.val (.int p1), .val (.int p2), .val (.int p3), .val (.int p4), .val (.int p5), .val (.int p6), .val (.int (2 : Int32)), .val (.int c1), .val (.int c2), .val (.int c3), .val (.int c4), .val (.int c5), .val (.ref x33_), .val (.int r), .val (.int (0 : Int32)), .val (.int c2), .val (.int dd)] [(.int (1 : Int32))])
          have C43_ := C42_.trans Cq41_
          have H43_ := C43_.1
          exact own_retNH X41_ hx (t := .boolean) Bd.returns Bd.notSynchronized (own_ew hw) hZ41_ hS41_ (Nat.le_refl _) hh C43_ (by simp) (hb hby at_249) rfl rfl ⟨rfl, N41_⟩ (by decide) (by decide)
        · refine own_viaH (fun _ k => XS.icmpNo X41_.here hx rfl (hb hby at_215) rfl (feq hA).1 k) ?_
          show own_FinH _ _ _ _ _ _ _ _ _ T41_ (mkF m 218 #[.val (.int p1), .val (.int p2), .val (.int p3), .val (.int p4), .val (.int p5), .val (.int p6), .val (.int (2 : Int32)), .val (.int c1), .val (.int c2), .val (.int c3), .val (.int c4), .val (.int c5), .val (.ref x33_), .val (.int r), .unset, .val (.int c2), .val (.int dd)] [])
          refine own_viaH (fun _ k => XS.iload X41_.here hx rfl (hb hby at_218) rfl k) ?_
          show own_FinH _ _ _ _ _ _ _ _ _ T41_ (mkF m 220 #[.val (.int p1), .val (.int p2), .val (.int p3), .val (.int p4), .val (.int p5), .val (.int p6), .val (.int (2 : Int32)), .val (.int c1), .val (.int c2), .val (.int c3), .val (.int c4), .val (.int c5), .val (.ref x33_), .val (.int r), .unset, .val (.int c2), .val (.int dd)] [(.int c2)])
          refine own_viaH (fun _ k => XS.bipush X41_.here hx rfl (hb hby at_220) k) ?_
          show own_FinH _ _ _ _ _ _ _ _ _ T41_ (mkF m 222 #[.val (.int p1), .val (.int p2), .val (.int p3), .val (.int p4), .val (.int p5), .val (.int p6), .val (.int (2 : Int32)), .val (.int c1), .val (.int c2), .val (.int c3), .val (.int c4), .val (.int c5), .val (.ref x33_), .val (.int r), .unset, .val (.int c2), .val (.int dd)] [(.int (46 : Int32)), (.int c2)])
          rcases Classical.em (c2 = (46 : Int32)) with hB | hB
          · refine own_viaH (fun _ k => XS.icmpYes X41_.here hx rfl (pc0 := 222) (pc' := 234) rfl (hb hby at_222) rfl (teq hB).1 (by decide) (by decide) k) ?_
            show own_FinH _ _ _ _ _ _ _ _ _ T41_ (mkF m 234 #[.val (.int p1), .val (.int p2), .val (.int p3), .val (.int p4), .val (.int p5), .val (.int p6), .val (.int (2 : Int32)), .val (.int c1), .val (.int c2), .val (.int c3), .val (.int c4), .val (.int c5), .val (.ref x33_), .val (.int r), .unset, .val (.int c2), .val (.int dd)] [])
            refine own_viaH (fun _ k => XS.iconst X41_.here hx rfl (hb hby at_234) k) ?_
            show own_FinH _ _ _ _ _ _ _ _ _ T41_ (mkF m 235 #[.val (.int p1), .val (.int p2), .val (.int p3), .val (.int p4), .val (.int p5), .val (.int p6), .val (.int (2 : Int32)), .val (.int c1), .val (.int c2), .val (.int c3), .val (.int c4), .val (.int c5), .val (.ref x33_), .val (.int r), .unset, .val (.int c2), .val (.int dd)] [(.int (0 : Int32))])
            refine own_viaH (fun _ k => XS.istore X41_.here hx rfl (hb hby at_235) rfl (l' := #[.val (.int p1), .val (.int p2), .val (.int p3), .val (.int p4), .val (.int p5), .val (.int p6), .val (.int (2 : Int32)), .val (.int c1), .val (.int c2), .val (.int c3), .val (.int c4), .val (.int c5), .val (.ref x33_), .val (.int r), .val (.int (0 : Int32)), .val (.int c2), .val (.int dd)]) rfl k) ?_
            show own_FinH _ _ _ _ _ _ _ _ _ T41_ (mkF m 237 #[.val (.int p1), .val (.int p2), .val (.int p3), .val (.int p4), .val (.int p5), .val (.int p6), .val (.int (2 : Int32)), .val (.int c1), .val (.int c2), .val (.int c3), .val (.int c4), .val (.int c5), .val (.ref x33_), .val (.int r), .val (.int (0 : Int32)), .val (.int c2), .val (.int dd)] [])
            refine own_viaH (fun _ k => XS.iload X41_.here hx rfl (hb hby at_237) rfl k) ?_
            show own_FinH _ _ _ _ _ _ _ _ _ T41_ (mkF m 239 #[.val (.int p1), .val (.int p2), .val (.int p3), .val (.int p4), .val (.int p5), .val (.int p6), .val (.int (2 : Int32)), .val (.int c1), .val (.int c2), .val (.int c3), .val (.int c4), .val (.int c5), .val (.ref x33_), .val (.int r), .val (.int (0 : Int32)), .val (.int c2), .val (.int dd)] [(.int r)])
            refine own_viaH (fun _ k => XS.iload X41_.here hx rfl (hb hby at_239) rfl k) ?_
            show own_FinH _ _ _ _ _ _ _ _ _ T41_ (mkF m 241 #[.val (.int p1), .val (.int p2), .val (.int p3), .val (.int p4), .val (.int p5), .val (.int p6), .val (.int (2 : Int32)), .val (.int c1), .val (.int c2), .val (.int c3), .val (.int c4), .val (.int c5), .val (.ref x33_), .val (.int r), .val (.int (0 : Int32)), .val (.int c2), .val (.int dd)] [(.int (0 : Int32)), (.int r)])
            refine own_viaH (fun _ k => XS.icmpNo X41_.here hx rfl (hb hby at_241) rfl (teq (hr.elim (fun q => absurd hB (G.mp q.2).2.1) (fun q => q.1))).2 k) ?_
            show own_FinH _ _ _ _ _ _ _ _ _ T41_ (mkF m 244 #[.val (.int p1), .val (.int p2), .val (.int p3), .val (.int p4), .val (.int p5), .val (.int p6), .val (.int (2 : Int32)), .val (.int c1), .val (.int c2), .val (.int c3), .val (.int c4), .val (.int c5), .val (.ref x33_), .val (.int r), .val (.int (0 : Int32)), .val (.int c2), .val (.int dd)] [])
            refine own_viaH (fun _ k => XS.iconst X41_.here hx rfl (hb hby at_244) k) ?_
            show own_FinH _ _ _ _ _ _ _ _ _ T41_ (mkF m 245 #[.val (.int p1), .val (.int p2), .val (.int p3), .val (.int p4), .val (.int p5), .val (.int p6), .val (.int (2 : Int32)), .val (.int c1), .val (.int c2), .val (.int c3), .val (.int c4), .val (.int c5), .val (.ref x33_), .val (.int r), .val (.int (0 : Int32)), .val (.int c2), .val (.int dd)] [(.int (1 : Int32))])
            refine own_viaH (fun _ k => XS.goto X41_.here hx rfl (pc0 := 245) (pc' := 249) rfl (hb hby at_245) (by decide) (by decide) k) ?_
            show own_FinH _ _ _ _ _ _ _ _ _ T41_ (mkF m 249 #[.val (.int p1), .val (.int p2), .val (.int p3), .val (.int p4), .val (.int p5), .val (.int p6), .val (.int (2 : Int32)), .val (.int c1), .val (.int c2), .val (.int c3), .val (.int c4), .val (.int c5), .val (.ref x33_), .val (.int r), .val (.int (0 : Int32)), .val (.int c2), .val (.int dd)] [(.int (1 : Int32))])
            have C44_ := C42_.trans Cq41_
            have H44_ := C44_.1
            exact own_retNH X41_ hx (t := .boolean) Bd.returns Bd.notSynchronized (own_ew hw) hZ41_ hS41_ (Nat.le_refl _) hh C44_ (by simp) (hb hby at_249) rfl rfl ⟨rfl, N41_⟩ (by decide) (by decide)
          · refine own_viaH (fun _ k => XS.icmpNo X41_.here hx rfl (hb hby at_222) rfl (feq hB).1 k) ?_
            show own_FinH _ _ _ _ _ _ _ _ _ T41_ (mkF m 225 #[.val (.int p1), .val (.int p2), .val (.int p3), .val (.int p4), .val (.int p5), .val (.int p6), .val (.int (2 : Int32)), .val (.int c1), .val (.int c2), .val (.int c3), .val (.int c4), .val (.int c5), .val (.ref x33_), .val (.int r), .unset, .val (.int c2), .val (.int dd)] [])
            refine own_viaH (fun _ k => XS.iload X41_.here hx rfl (hb hby at_225) rfl k) ?_
            show own_FinH _ _ _ _ _ _ _ _ _ T41_ (mkF m 227 #[.val (.int p1), .val (.int p2), .val (.int p3), .val (.int p4), .val (.int p5), .val (.int p6), .val (.int (2 : Int32)), .val (.int c1), .val (.int c2), .val (.int c3), .val (.int c4), .val (.int c5), .val (.ref x33_), .val (.int r), .unset, .val (.int c2), .val (.int dd)] [(.int dd)])
            rcases Classical.em (dd = (0 : Int32)) with hC | hC
            · refine own_viaH (fun _ k => XS.ifNo X41_.here hx rfl (hb hby at_227) rfl ((if0 _ _).trans (teq hC).2) k) ?_
              show own_FinH _ _ _ _ _ _ _ _ _ T41_ (mkF m 230 #[.val (.int p1), .val (.int p2), .val (.int p3), .val (.int p4), .val (.int p5), .val (.int p6), .val (.int (2 : Int32)), .val (.int c1), .val (.int c2), .val (.int c3), .val (.int c4), .val (.int c5), .val (.ref x33_), .val (.int r), .unset, .val (.int c2), .val (.int dd)] [])
              refine own_viaH (fun _ k => XS.iconst X41_.here hx rfl (hb hby at_230) k) ?_
              show own_FinH _ _ _ _ _ _ _ _ _ T41_ (mkF m 231 #[.val (.int p1), .val (.int p2), .val (.int p3), .val (.int p4), .val (.int p5), .val (.int p6), .val (.int (2 : Int32)), .val (.int c1), .val (.int c2), .val (.int c3), .val (.int c4), .val (.int c5), .val (.ref x33_), .val (.int r), .unset, .val (.int c2), .val (.int dd)] [(.int (1 : Int32))])
              refine own_viaH (fun _ k => XS.goto X41_.here hx rfl (pc0 := 231) (pc' := 235) rfl (hb hby at_231) (by decide) (by decide) k) ?_
              show own_FinH _ _ _ _ _ _ _ _ _ T41_ (mkF m 235 #[.val (.int p1), .val (.int p2), .val (.int p3), .val (.int p4), .val (.int p5), .val (.int p6), .val (.int (2 : Int32)), .val (.int c1), .val (.int c2), .val (.int c3), .val (.int c4), .val (.int c5), .val (.ref x33_), .val (.int r), .unset, .val (.int c2), .val (.int dd)] [(.int (1 : Int32))])
              refine own_viaH (fun _ k => XS.istore X41_.here hx rfl (hb hby at_235) rfl (l' := #[.val (.int p1), .val (.int p2), .val (.int p3), .val (.int p4), .val (.int p5), .val (.int p6), .val (.int (2 : Int32)), .val (.int c1), .val (.int c2), .val (.int c3), .val (.int c4), .val (.int c5), .val (.ref x33_), .val (.int r), .val (.int (1 : Int32)), .val (.int c2), .val (.int dd)]) rfl k) ?_
              show own_FinH _ _ _ _ _ _ _ _ _ T41_ (mkF m 237 #[.val (.int p1), .val (.int p2), .val (.int p3), .val (.int p4), .val (.int p5), .val (.int p6), .val (.int (2 : Int32)), .val (.int c1), .val (.int c2), .val (.int c3), .val (.int c4), .val (.int c5), .val (.ref x33_), .val (.int r), .val (.int (1 : Int32)), .val (.int c2), .val (.int dd)] [])
              refine own_viaH (fun _ k => XS.iload X41_.here hx rfl (hb hby at_237) rfl k) ?_
              show own_FinH _ _ _ _ _ _ _ _ _ T41_ (mkF m 239 #[.val (.int p1), .val (.int p2), .val (.int p3), .val (.int p4), .val (.int p5), .val (.int p6), .val (.int (2 : Int32)), .val (.int c1), .val (.int c2), .val (.int c3), .val (.int c4), .val (.int c5), .val (.ref x33_), .val (.int r), .val (.int (1 : Int32)), .val (.int c2), .val (.int dd)] [(.int r)])
              refine own_viaH (fun _ k => XS.iload X41_.here hx rfl (hb hby at_239) rfl k) ?_
              show own_FinH _ _ _ _ _ _ _ _ _ T41_ (mkF m 241 #[.val (.int p1), .val (.int p2), .val (.int p3), .val (.int p4), .val (.int p5), .val (.int p6), .val (.int (2 : Int32)), .val (.int c1), .val (.int c2), .val (.int c3), .val (.int c4), .val (.int c5), .val (.ref x33_), .val (.int r), .val (.int (1 : Int32)), .val (.int c2), .val (.int dd)] [(.int (1 : Int32)), (.int r)])
              refine own_viaH (fun _ k => XS.icmpNo X41_.here hx rfl (hb hby at_241) rfl (teq (hr.elim (fun q => q.1) (fun q => absurd (G.mpr ⟨hA, hB, (hdd.resolve_left fun z => absurd (z.1.symm.trans hC) (by decide)).2⟩) q.2))).2 k) ?_
              show own_FinH _ _ _ _ _ _ _ _ _ T41_ (mkF m 244 #[.val (.int p1), .val (.int p2), .val (.int p3), .val (.int p4), .val (.int p5), .val (.int p6), .val (.int (2 : Int32)), .val (.int c1), .val (.int c2), .val (.int c3), .val (.int c4), .val (.int c5), .val (.ref x33_), .val (.int r), .val (.int (1 : Int32)), .val (.int c2), .val (.int dd)] [])
              refine own_viaH (fun _ k => XS.iconst X41_.here hx rfl (hb hby at_244) k) ?_
              show own_FinH _ _ _ _ _ _ _ _ _ T41_ (mkF m 245 #[.val (.int p1), .val (.int p2), .val (.int p3), .val (.int p4), .val (.int p5), .val (.int p6), .val (.int (2 : Int32)), .val (.int c1), .val (.int c2), .val (.int c3), .val (.int c4), .val (.int c5), .val (.ref x33_), .val (.int r), .val (.int (1 : Int32)), .val (.int c2), .val (.int dd)] [(.int (1 : Int32))])
              refine own_viaH (fun _ k => XS.goto X41_.here hx rfl (pc0 := 245) (pc' := 249) rfl (hb hby at_245) (by decide) (by decide) k) ?_
              show own_FinH _ _ _ _ _ _ _ _ _ T41_ (mkF m 249 #[.val (.int p1), .val (.int p2), .val (.int p3), .val (.int p4), .val (.int p5), .val (.int p6), .val (.int (2 : Int32)), .val (.int c1), .val (.int c2), .val (.int c3), .val (.int c4), .val (.int c5), .val (.ref x33_), .val (.int r), .val (.int (1 : Int32)), .val (.int c2), .val (.int dd)] [(.int (1 : Int32))])
              have C46_ := C42_.trans Cq41_
              have H46_ := C46_.1
              exact own_retNH X41_ hx (t := .boolean) Bd.returns Bd.notSynchronized (own_ew hw) hZ41_ hS41_ (Nat.le_refl _) hh C46_ (by simp) (hb hby at_249) rfl rfl ⟨rfl, N41_⟩ (by decide) (by decide)
            · refine own_viaH (fun _ k => XS.ifYes X41_.here hx rfl (pc0 := 227) (pc' := 234) rfl (hb hby at_227) rfl ((if0 _ _).trans (feq hC).2) (by decide) (by decide) k) ?_
              show own_FinH _ _ _ _ _ _ _ _ _ T41_ (mkF m 234 #[.val (.int p1), .val (.int p2), .val (.int p3), .val (.int p4), .val (.int p5), .val (.int p6), .val (.int (2 : Int32)), .val (.int c1), .val (.int c2), .val (.int c3), .val (.int c4), .val (.int c5), .val (.ref x33_), .val (.int r), .unset, .val (.int c2), .val (.int dd)] [])
              refine own_viaH (fun _ k => XS.iconst X41_.here hx rfl (hb hby at_234) k) ?_
              show own_FinH _ _ _ _ _ _ _ _ _ T41_ (mkF m 235 #[.val (.int p1), .val (.int p2), .val (.int p3), .val (.int p4), .val (.int p5), .val (.int p6), .val (.int (2 : Int32)), .val (.int c1), .val (.int c2), .val (.int c3), .val (.int c4), .val (.int c5), .val (.ref x33_), .val (.int r), .unset, .val (.int c2), .val (.int dd)] [(.int (0 : Int32))])
              refine own_viaH (fun _ k => XS.istore X41_.here hx rfl (hb hby at_235) rfl (l' := #[.val (.int p1), .val (.int p2), .val (.int p3), .val (.int p4), .val (.int p5), .val (.int p6), .val (.int (2 : Int32)), .val (.int c1), .val (.int c2), .val (.int c3), .val (.int c4), .val (.int c5), .val (.ref x33_), .val (.int r), .val (.int (0 : Int32)), .val (.int c2), .val (.int dd)]) rfl k) ?_
              show own_FinH _ _ _ _ _ _ _ _ _ T41_ (mkF m 237 #[.val (.int p1), .val (.int p2), .val (.int p3), .val (.int p4), .val (.int p5), .val (.int p6), .val (.int (2 : Int32)), .val (.int c1), .val (.int c2), .val (.int c3), .val (.int c4), .val (.int c5), .val (.ref x33_), .val (.int r), .val (.int (0 : Int32)), .val (.int c2), .val (.int dd)] [])
              refine own_viaH (fun _ k => XS.iload X41_.here hx rfl (hb hby at_237) rfl k) ?_
              show own_FinH _ _ _ _ _ _ _ _ _ T41_ (mkF m 239 #[.val (.int p1), .val (.int p2), .val (.int p3), .val (.int p4), .val (.int p5), .val (.int p6), .val (.int (2 : Int32)), .val (.int c1), .val (.int c2), .val (.int c3), .val (.int c4), .val (.int c5), .val (.ref x33_), .val (.int r), .val (.int (0 : Int32)), .val (.int c2), .val (.int dd)] [(.int r)])
              refine own_viaH (fun _ k => XS.iload X41_.here hx rfl (hb hby at_239) rfl k) ?_
              show own_FinH _ _ _ _ _ _ _ _ _ T41_ (mkF m 241 #[.val (.int p1), .val (.int p2), .val (.int p3), .val (.int p4), .val (.int p5), .val (.int p6), .val (.int (2 : Int32)), .val (.int c1), .val (.int c2), .val (.int c3), .val (.int c4), .val (.int c5), .val (.ref x33_), .val (.int r), .val (.int (0 : Int32)), .val (.int c2), .val (.int dd)] [(.int (0 : Int32)), (.int r)])
              refine own_viaH (fun _ k => XS.icmpNo X41_.here hx rfl (hb hby at_241) rfl (teq (hr.elim (fun q => absurd (hdd.resolve_right fun z => hC z.1).2 (G.mp q.2).2.2) (fun q => q.1))).2 k) ?_
              show own_FinH _ _ _ _ _ _ _ _ _ T41_ (mkF m 244 #[.val (.int p1), .val (.int p2), .val (.int p3), .val (.int p4), .val (.int p5), .val (.int p6), .val (.int (2 : Int32)), .val (.int c1), .val (.int c2), .val (.int c3), .val (.int c4), .val (.int c5), .val (.ref x33_), .val (.int r), .val (.int (0 : Int32)), .val (.int c2), .val (.int dd)] [])
              refine own_viaH (fun _ k => XS.iconst X41_.here hx rfl (hb hby at_244) k) ?_
              show own_FinH _ _ _ _ _ _ _ _ _ T41_ (mkF m 245 #[.val (.int p1), .val (.int p2), .val (.int p3), .val (.int p4), .val (.int p5), .val (.int p6), .val (.int (2 : Int32)), .val (.int c1), .val (.int c2), .val (.int c3), .val (.int c4), .val (.int c5), .val (.ref x33_), .val (.int r), .val (.int (0 : Int32)), .val (.int c2), .val (.int dd)] [(.int (1 : Int32))])
              refine own_viaH (fun _ k => XS.goto X41_.here hx rfl (pc0 := 245) (pc' := 249) rfl (hb hby at_245) (by decide) (by decide) k) ?_
              show own_FinH _ _ _ _ _ _ _ _ _ T41_ (mkF m 249 #[.val (.int p1), .val (.int p2), .val (.int p3), .val (.int p4), .val (.int p5), .val (.int p6), .val (.int (2 : Int32)), .val (.int c1), .val (.int c2), .val (.int c3), .val (.int c4), .val (.int c5), .val (.ref x33_), .val (.int r), .val (.int (0 : Int32)), .val (.int c2), .val (.int dd)] [(.int (1 : Int32))])
              have C45_ := C42_.trans Cq41_
              have H45_ := C45_.1
              exact own_retNH X41_ hx (t := .boolean) Bd.returns Bd.notSynchronized (own_ew hw) hZ41_ hS41_ (Nat.le_refl _) hh C45_ (by simp) (hb hby at_249) rfl rfl ⟨rfl, N41_⟩ (by decide) (by decide)
      refine own_viaH (fun _ k => XS.iload X41_.here hx rfl (hb hby at_124) rfl k) ?_
      show own_FinH _ _ _ _ _ _ _ _ _ T41_ (mkF m 126 #[.val (.int p1), .val (.int p2), .val (.int p3), .val (.int p4), .val (.int p5), .val (.int p6), .val (.int (2 : Int32)), .val (.int c1), .val (.int c2), .val (.int c3), .val (.int c4), .val (.int c5), .val (.ref x33_), .val (.int r), .unset, .val (.int c2), .unset] [(.int (2 : Int32))])
      refine own_viaH (fun _ k => XS.iconst X41_.here hx rfl (hb hby at_126) k) ?_
      show own_FinH _ _ _ _ _ _ _ _ _ T41_ (mkF m 127 #[.val (.int p1), .val (.int p2), .val (.int p3), .val (.int p4), .val (.int p5), .val (.int p6), .val (.int (2 : Int32)), .val (.int c1), .val (.int c2), .val (.int c3), .val (.int c4), .val (.int c5), .val (.ref x33_), .val (.int r), .unset, .val (.int c2), .unset] [(.int (2 : Int32)), (.int (2 : Int32))])
      refine own_viaH (fun _ k => XS.icmpNo X41_.here hx rfl (hb hby at_127) rfl (flt (by decide)).1 k) ?_
      show own_FinH _ _ _ _ _ _ _ _ _ T41_ (mkF m 130 #[.val (.int p1), .val (.int p2), .val (.int p3), .val (.int p4), .val (.int p5), .val (.int p6), .val (.int (2 : Int32)), .val (.int c1), .val (.int c2), .val (.int c3), .val (.int c4), .val (.int c5), .val (.ref x33_), .val (.int r), .unset, .val (.int c2), .unset] [])
      have sp0 : ∀ (hp0 : ¬ (c1 = (46 : Int32) ∧ c2 = (46 : Int32))), own_FinH p e s below Z own_EL (own_Q_law Z p1 p2 p3 p4 p5 p6 cz fm h0 n0) room_1.cells room_1.slots T41_ (mkF m 144 #[.val (.int p1), .val (.int p2), .val (.int p3), .val (.int p4), .val (.int p5), .val (.int p6), .val (.int (2 : Int32)), .val (.int c1), .val (.int c2), .val (.int c3), .val (.int c4), .val (.int c5), .val (.ref x33_), .val (.int r), .unset, .val (.int c2), .unset] []) := by
        intro hp0
        refine own_viaH (fun _ k => XS.iload X41_.here hx rfl (hb hby at_144) rfl k) ?_
        show own_FinH _ _ _ _ _ _ _ _ _ T41_ (mkF m 146 #[.val (.int p1), .val (.int p2), .val (.int p3), .val (.int p4), .val (.int p5), .val (.int p6), .val (.int (2 : Int32)), .val (.int c1), .val (.int c2), .val (.int c3), .val (.int c4), .val (.int c5), .val (.ref x33_), .val (.int r), .unset, .val (.int c2), .unset] [(.int (2 : Int32))])
        refine own_viaH (fun _ k => XS.iconst X41_.here hx rfl (hb hby at_146) k) ?_
        show own_FinH _ _ _ _ _ _ _ _ _ T41_ (mkF m 147 #[.val (.int p1), .val (.int p2), .val (.int p3), .val (.int p4), .val (.int p5), .val (.int p6), .val (.int (2 : Int32)), .val (.int c1), .val (.int c2), .val (.int c3), .val (.int c4), .val (.int c5), .val (.ref x33_), .val (.int r), .unset, .val (.int c2), .unset] [(.int (3 : Int32)), (.int (2 : Int32))])
        refine own_viaH (fun _ k => XS.icmpYes X41_.here hx rfl (pc0 := 147) (pc' := 164) rfl (hb hby at_147) rfl (tlt (by decide)).1 (by decide) (by decide) k) ?_
        show own_FinH _ _ _ _ _ _ _ _ _ T41_ (mkF m 164 #[.val (.int p1), .val (.int p2), .val (.int p3), .val (.int p4), .val (.int p5), .val (.int p6), .val (.int (2 : Int32)), .val (.int c1), .val (.int c2), .val (.int c3), .val (.int c4), .val (.int c5), .val (.ref x33_), .val (.int r), .unset, .val (.int c2), .unset] [])
        refine own_viaH (fun _ k => XS.iload X41_.here hx rfl (hb hby at_164) rfl k) ?_
        show own_FinH _ _ _ _ _ _ _ _ _ T41_ (mkF m 166 #[.val (.int p1), .val (.int p2), .val (.int p3), .val (.int p4), .val (.int p5), .val (.int p6), .val (.int (2 : Int32)), .val (.int c1), .val (.int c2), .val (.int c3), .val (.int c4), .val (.int c5), .val (.ref x33_), .val (.int r), .unset, .val (.int c2), .unset] [(.int (2 : Int32))])
        refine own_viaH (fun _ k => XS.iconst X41_.here hx rfl (hb hby at_166) k) ?_
        show own_FinH _ _ _ _ _ _ _ _ _ T41_ (mkF m 167 #[.val (.int p1), .val (.int p2), .val (.int p3), .val (.int p4), .val (.int p5), .val (.int p6), .val (.int (2 : Int32)), .val (.int c1), .val (.int c2), .val (.int c3), .val (.int c4), .val (.int c5), .val (.ref x33_), .val (.int r), .unset, .val (.int c2), .unset] [(.int (4 : Int32)), (.int (2 : Int32))])
        refine own_viaH (fun _ k => XS.icmpYes X41_.here hx rfl (pc0 := 167) (pc' := 184) rfl (hb hby at_167) rfl (tlt (by decide)).1 (by decide) (by decide) k) ?_
        show own_FinH _ _ _ _ _ _ _ _ _ T41_ (mkF m 184 #[.val (.int p1), .val (.int p2), .val (.int p3), .val (.int p4), .val (.int p5), .val (.int p6), .val (.int (2 : Int32)), .val (.int c1), .val (.int c2), .val (.int c3), .val (.int c4), .val (.int c5), .val (.ref x33_), .val (.int r), .unset, .val (.int c2), .unset] [])
        refine own_viaH (fun _ k => XS.iload X41_.here hx rfl (hb hby at_184) rfl k) ?_
        show own_FinH _ _ _ _ _ _ _ _ _ T41_ (mkF m 186 #[.val (.int p1), .val (.int p2), .val (.int p3), .val (.int p4), .val (.int p5), .val (.int p6), .val (.int (2 : Int32)), .val (.int c1), .val (.int c2), .val (.int c3), .val (.int c4), .val (.int c5), .val (.ref x33_), .val (.int r), .unset, .val (.int c2), .unset] [(.int (2 : Int32))])
        refine own_viaH (fun _ k => XS.iconst X41_.here hx rfl (hb hby at_186) k) ?_
        show own_FinH _ _ _ _ _ _ _ _ _ T41_ (mkF m 187 #[.val (.int p1), .val (.int p2), .val (.int p3), .val (.int p4), .val (.int p5), .val (.int p6), .val (.int (2 : Int32)), .val (.int c1), .val (.int c2), .val (.int c3), .val (.int c4), .val (.int c5), .val (.ref x33_), .val (.int r), .unset, .val (.int c2), .unset] [(.int (5 : Int32)), (.int (2 : Int32))])
        refine own_viaH (fun _ k => XS.icmpYes X41_.here hx rfl (pc0 := 187) (pc' := 208) rfl (hb hby at_187) rfl (tlt (by decide)).1 (by decide) (by decide) k) ?_
        show own_FinH _ _ _ _ _ _ _ _ _ T41_ (mkF m 208 #[.val (.int p1), .val (.int p2), .val (.int p3), .val (.int p4), .val (.int p5), .val (.int p6), .val (.int (2 : Int32)), .val (.int c1), .val (.int c2), .val (.int c3), .val (.int c4), .val (.int c5), .val (.ref x33_), .val (.int r), .unset, .val (.int c2), .unset] [])
        refine own_viaH (fun _ k => XS.iconst X41_.here hx rfl (hb hby at_208) k) ?_
        show own_FinH _ _ _ _ _ _ _ _ _ T41_ (mkF m 209 #[.val (.int p1), .val (.int p2), .val (.int p3), .val (.int p4), .val (.int p5), .val (.int p6), .val (.int (2 : Int32)), .val (.int c1), .val (.int c2), .val (.int c3), .val (.int c4), .val (.int c5), .val (.ref x33_), .val (.int r), .unset, .val (.int c2), .unset] [(.int (0 : Int32))])
        refine own_viaH (fun _ k => XS.istore X41_.here hx rfl (hb hby at_209) rfl (l' := #[.val (.int p1), .val (.int p2), .val (.int p3), .val (.int p4), .val (.int p5), .val (.int p6), .val (.int (2 : Int32)), .val (.int c1), .val (.int c2), .val (.int c3), .val (.int c4), .val (.int c5), .val (.ref x33_), .val (.int r), .unset, .val (.int c2), .val (.int (0 : Int32))]) rfl k) ?_
        show own_FinH _ _ _ _ _ _ _ _ _ T41_ (mkF m 211 #[.val (.int p1), .val (.int p2), .val (.int p3), .val (.int p4), .val (.int p5), .val (.int p6), .val (.int (2 : Int32)), .val (.int c1), .val (.int c2), .val (.int c3), .val (.int c4), .val (.int c5), .val (.ref x33_), .val (.int r), .unset, .val (.int c2), .val (.int (0 : Int32))] [])
        exact s211 _ (Or.inr ⟨rfl, hp0⟩)
      refine own_viaH (fun _ k => XS.iload X41_.here hx rfl (hb hby at_130) rfl k) ?_
      show own_FinH _ _ _ _ _ _ _ _ _ T41_ (mkF m 132 #[.val (.int p1), .val (.int p2), .val (.int p3), .val (.int p4), .val (.int p5), .val (.int p6), .val (.int (2 : Int32)), .val (.int c1), .val (.int c2), .val (.int c3), .val (.int c4), .val (.int c5), .val (.ref x33_), .val (.int r), .unset, .val (.int c2), .unset] [(.int c1)])
      refine own_viaH (fun _ k => XS.bipush X41_.here hx rfl (hb hby at_132) k) ?_
      show own_FinH _ _ _ _ _ _ _ _ _ T41_ (mkF m 134 #[.val (.int p1), .val (.int p2), .val (.int p3), .val (.int p4), .val (.int p5), .val (.int p6), .val (.int (2 : Int32)), .val (.int c1), .val (.int c2), .val (.int c3), .val (.int c4), .val (.int c5), .val (.ref x33_), .val (.int r), .unset, .val (.int c2), .unset] [(.int (46 : Int32)), (.int c1)])
      rcases Classical.em (c1 = (46 : Int32)) with ha | ha
      · refine own_viaH (fun _ k => XS.icmpNo X41_.here hx rfl (hb hby at_134) rfl (teq ha).2 k) ?_
        show own_FinH _ _ _ _ _ _ _ _ _ T41_ (mkF m 137 #[.val (.int p1), .val (.int p2), .val (.int p3), .val (.int p4), .val (.int p5), .val (.int p6), .val (.int (2 : Int32)), .val (.int c1), .val (.int c2), .val (.int c3), .val (.int c4), .val (.int c5), .val (.ref x33_), .val (.int r), .unset, .val (.int c2), .unset] [])
        refine own_viaH (fun _ k => XS.iload X41_.here hx rfl (hb hby at_137) rfl k) ?_
        show own_FinH _ _ _ _ _ _ _ _ _ T41_ (mkF m 139 #[.val (.int p1), .val (.int p2), .val (.int p3), .val (.int p4), .val (.int p5), .val (.int p6), .val (.int (2 : Int32)), .val (.int c1), .val (.int c2), .val (.int c3), .val (.int c4), .val (.int c5), .val (.ref x33_), .val (.int r), .unset, .val (.int c2), .unset] [(.int c2)])
        refine own_viaH (fun _ k => XS.bipush X41_.here hx rfl (hb hby at_139) k) ?_
        show own_FinH _ _ _ _ _ _ _ _ _ T41_ (mkF m 141 #[.val (.int p1), .val (.int p2), .val (.int p3), .val (.int p4), .val (.int p5), .val (.int p6), .val (.int (2 : Int32)), .val (.int c1), .val (.int c2), .val (.int c3), .val (.int c4), .val (.int c5), .val (.ref x33_), .val (.int r), .unset, .val (.int c2), .unset] [(.int (46 : Int32)), (.int c2)])
        rcases Classical.em (c2 = (46 : Int32)) with hbb | hbb
        · refine own_viaH (fun _ k => XS.icmpYes X41_.here hx rfl (pc0 := 141) (pc' := 204) rfl (hb hby at_141) rfl (teq hbb).1 (by decide) (by decide) k) ?_
          show own_FinH _ _ _ _ _ _ _ _ _ T41_ (mkF m 204 #[.val (.int p1), .val (.int p2), .val (.int p3), .val (.int p4), .val (.int p5), .val (.int p6), .val (.int (2 : Int32)), .val (.int c1), .val (.int c2), .val (.int c3), .val (.int c4), .val (.int c5), .val (.ref x33_), .val (.int r), .unset, .val (.int c2), .unset] [])
          refine own_viaH (fun _ k => XS.iconst X41_.here hx rfl (hb hby at_204) k) ?_
          show own_FinH _ _ _ _ _ _ _ _ _ T41_ (mkF m 205 #[.val (.int p1), .val (.int p2), .val (.int p3), .val (.int p4), .val (.int p5), .val (.int p6), .val (.int (2 : Int32)), .val (.int c1), .val (.int c2), .val (.int c3), .val (.int c4), .val (.int c5), .val (.ref x33_), .val (.int r), .unset, .val (.int c2), .unset] [(.int (1 : Int32))])
          refine own_viaH (fun _ k => XS.goto X41_.here hx rfl (pc0 := 205) (pc' := 209) rfl (hb hby at_205) (by decide) (by decide) k) ?_
          show own_FinH _ _ _ _ _ _ _ _ _ T41_ (mkF m 209 #[.val (.int p1), .val (.int p2), .val (.int p3), .val (.int p4), .val (.int p5), .val (.int p6), .val (.int (2 : Int32)), .val (.int c1), .val (.int c2), .val (.int c3), .val (.int c4), .val (.int c5), .val (.ref x33_), .val (.int r), .unset, .val (.int c2), .unset] [(.int (1 : Int32))])
          refine own_viaH (fun _ k => XS.istore X41_.here hx rfl (hb hby at_209) rfl (l' := #[.val (.int p1), .val (.int p2), .val (.int p3), .val (.int p4), .val (.int p5), .val (.int p6), .val (.int (2 : Int32)), .val (.int c1), .val (.int c2), .val (.int c3), .val (.int c4), .val (.int c5), .val (.ref x33_), .val (.int r), .unset, .val (.int c2), .val (.int (1 : Int32))]) rfl k) ?_
          show own_FinH _ _ _ _ _ _ _ _ _ T41_ (mkF m 211 #[.val (.int p1), .val (.int p2), .val (.int p3), .val (.int p4), .val (.int p5), .val (.int p6), .val (.int (2 : Int32)), .val (.int c1), .val (.int c2), .val (.int c3), .val (.int c4), .val (.int c5), .val (.ref x33_), .val (.int r), .unset, .val (.int c2), .val (.int (1 : Int32))] [])
          exact s211 _ (Or.inl ⟨rfl, ⟨ha, hbb⟩⟩)
        · refine own_viaH (fun _ k => XS.icmpNo X41_.here hx rfl (hb hby at_141) rfl (feq hbb).1 k) ?_
          show own_FinH _ _ _ _ _ _ _ _ _ T41_ (mkF m 144 #[.val (.int p1), .val (.int p2), .val (.int p3), .val (.int p4), .val (.int p5), .val (.int p6), .val (.int (2 : Int32)), .val (.int c1), .val (.int c2), .val (.int c3), .val (.int c4), .val (.int c5), .val (.ref x33_), .val (.int r), .unset, .val (.int c2), .unset] [])
          exact sp0 (fun q => hbb q.2)
      · refine own_viaH (fun _ k => XS.icmpYes X41_.here hx rfl (pc0 := 134) (pc' := 144) rfl (hb hby at_134) rfl (feq ha).2 (by decide) (by decide) k) ?_
        show own_FinH _ _ _ _ _ _ _ _ _ T41_ (mkF m 144 #[.val (.int p1), .val (.int p2), .val (.int p3), .val (.int p4), .val (.int p5), .val (.int p6), .val (.int (2 : Int32)), .val (.int c1), .val (.int c2), .val (.int c3), .val (.int c4), .val (.int c5), .val (.ref x33_), .val (.int r), .unset, .val (.int c2), .unset] [])
        exact sp0 (fun q => ha q.1)
    · show own_FinH _ _ _ _ _ _ _ _ _ T5_ (mkF m 41 #[.val (.int p1), .val (.int p2), .val (.int p3), .val (.int p4), .val (.int p5), .val (.int p6), .val (.int (3 : Int32)), .val (.int c1), .val (.int c2), .val (.int c3), .val (.int c4), .val (.int c5), .unset, .unset, .unset, .unset, .unset] [])
      refine own_viaH (fun _ k => XS.iload X5_.here hx rfl (hb hby at_41) rfl k) ?_
      show own_FinH _ _ _ _ _ _ _ _ _ T5_ (mkF m 43 #[.val (.int p1), .val (.int p2), .val (.int p3), .val (.int p4), .val (.int p5), .val (.int p6), .val (.int (3 : Int32)), .val (.int c1), .val (.int c2), .val (.int c3), .val (.int c4), .val (.int c5), .unset, .unset, .unset, .unset, .unset] [(.int (3 : Int32))])
      refine own_viaH (fun _ k => XS.iload X5_.here hx rfl (hb hby at_43) rfl k) ?_
      show own_FinH _ _ _ _ _ _ _ _ _ T5_ (mkF m 45 #[.val (.int p1), .val (.int p2), .val (.int p3), .val (.int p4), .val (.int p5), .val (.int p6), .val (.int (3 : Int32)), .val (.int c1), .val (.int c2), .val (.int c3), .val (.int c4), .val (.int c5), .unset, .unset, .unset, .unset, .unset] [(.int c1), (.int (3 : Int32))])
      refine own_viaH (fun _ k => XS.iload X5_.here hx rfl (hb hby at_45) rfl k) ?_
      show own_FinH _ _ _ _ _ _ _ _ _ T5_ (mkF m 47 #[.val (.int p1), .val (.int p2), .val (.int p3), .val (.int p4), .val (.int p5), .val (.int p6), .val (.int (3 : Int32)), .val (.int c1), .val (.int c2), .val (.int c3), .val (.int c4), .val (.int c5), .unset, .unset, .unset, .unset, .unset] [(.int c2), (.int c1), (.int (3 : Int32))])
      refine own_viaH (fun _ k => XS.iload X5_.here hx rfl (hb hby at_47) rfl k) ?_
      show own_FinH _ _ _ _ _ _ _ _ _ T5_ (mkF m 49 #[.val (.int p1), .val (.int p2), .val (.int p3), .val (.int p4), .val (.int p5), .val (.int p6), .val (.int (3 : Int32)), .val (.int c1), .val (.int c2), .val (.int c3), .val (.int c4), .val (.int c5), .unset, .unset, .unset, .unset, .unset] [(.int c3), (.int c2), (.int c1), (.int (3 : Int32))])
      refine own_viaH (fun _ k => XS.iload X5_.here hx rfl (hb hby at_49) rfl k) ?_
      show own_FinH _ _ _ _ _ _ _ _ _ T5_ (mkF m 51 #[.val (.int p1), .val (.int p2), .val (.int p3), .val (.int p4), .val (.int p5), .val (.int p6), .val (.int (3 : Int32)), .val (.int c1), .val (.int c2), .val (.int c3), .val (.int c4), .val (.int c5), .unset, .unset, .unset, .unset, .unset] [(.int c4), (.int c3), (.int c2), (.int c1), (.int (3 : Int32))])
      refine own_viaH (fun _ k => XS.iload X5_.here hx rfl (hb hby at_51) rfl k) ?_
      show own_FinH _ _ _ _ _ _ _ _ _ T5_ (mkF m 53 #[.val (.int p1), .val (.int p2), .val (.int p3), .val (.int p4), .val (.int p5), .val (.int p6), .val (.int (3 : Int32)), .val (.int c1), .val (.int c2), .val (.int c3), .val (.int c4), .val (.int c5), .unset, .unset, .unset, .unset, .unset] [(.int c5), (.int c4), (.int c3), (.int c2), (.int c1), (.int (3 : Int32))])
      obtain ⟨_, _, ⟨T47_, L47_, k47_, n47_⟩, -, X47_, ⟨Lc47_, hQ47_, l47_, y47_, z47_⟩, st47_⟩ := Jvm.LawKit.callS X5_ hx (y := (⟨"com/example/dependency_container/dependencycontainer/BeanDefinitionIsPropertyPathPinLaw", "make", "(ICCCCC)Ljava/lang/String;"⟩ : MethodName)) hown (mvT hZ (hw _ (List.mem_of_getElem? (i := 4) rfl))) (mvT hZ (hw _ (List.mem_of_getElem? (i := 5) rfl))) (mvT hZ (hw _ (List.mem_of_getElem? (i := 2) rfl))) (mvT hZ (hw _ (List.mem_of_getElem? (i := 6) rfl))) (by decide) (backOf (W := 0) (own_rm_make3 l Z a0 hw [] c1 c2 c3 c4 c5 cz h0 n0 Z0 O0 S1 (by first | assumption | decide) (by first | assumption | decide) (by first | assumption | decide) (by first | assumption | decide) (by first | assumption | decide) (by first | assumption | decide)) hZ (hw _ (List.mem_of_getElem? (i := 6) rfl)) (hw _ (List.mem_of_getElem? (i := 2) rfl)) (by decide) (by decide)) (g := (mkF m 53 #[.val (.int p1), .val (.int p2), .val (.int p3), .val (.int p4), .val (.int p5), .val (.int p6), .val (.int (3 : Int32)), .val (.int c1), .val (.int c2), .val (.int c3), .val (.int c4), .val (.int c5), .unset, .unset, .unset, .unset, .unset] [(.int c5), (.int c4), (.int c3), (.int c2), (.int c1), (.int (3 : Int32))])) rfl (by rw [hml]; rfl) (argsL := [(.int (3 : Int32)), (.int c1), (.int c2), (.int c3), (.int c4), (.int c5)]) (rest := []) (lenOf own_pd18 rfl) rfl (by show 2 * 0 + _ ≤ _; exact Nat.le_of_eq rfl) (hb hby at_53) (fun _ _ => ⟨rfl, hh5_, (by decide : 0 + 0 + 0 + 0 + 0 + 0 + 3 ≤ _), (by decide : 0 + 0 + 0 + 0 + 0 + 0 + 10 ≤ _)⟩)
      dsimp only [Pt.U, Pt.locs, Pt.cells, Pt.slots] at X47_ l47_ y47_ z47_ st47_ hQ47_
      subst l47_ y47_ z47_
      obtain ⟨x48_, t49_, kt50_, rfl, Nq47_, K47_, r51_, r52_, r53_, r54_, r55_⟩ := hQ47_
      have N47_ := Fr.app N5_ Nq47_
      refine own_viaH (fun _ k => st47_ _ k) ?_
      show own_FinH _ _ _ _ _ _ _ _ _ T47_ (mkF m 56 #[.val (.int p1), .val (.int p2), .val (.int p3), .val (.int p4), .val (.int p5), .val (.int p6), .val (.int (3 : Int32)), .val (.int c1), .val (.int c2), .val (.int c3), .val (.int c4), .val (.int c5), .unset, .unset, .unset, .unset, .unset] [(.ref x48_)])
      refine own_viaH (fun _ k => XS.astore X47_.here hx rfl (hb hby at_56) rfl rfl (l' := #[.val (.int p1), .val (.int p2), .val (.int p3), .val (.int p4), .val (.int p5), .val (.int p6), .val (.int (3 : Int32)), .val (.int c1), .val (.int c2), .val (.int c3), .val (.int c4), .val (.int c5), .val (.ref x48_), .unset, .unset, .unset, .unset]) rfl k) ?_
      show own_FinH _ _ _ _ _ _ _ _ _ T47_ (mkF m 58 #[.val (.int p1), .val (.int p2), .val (.int p3), .val (.int p4), .val (.int p5), .val (.int p6), .val (.int (3 : Int32)), .val (.int c1), .val (.int c2), .val (.int c3), .val (.int c4), .val (.int c5), .val (.ref x48_), .unset, .unset, .unset, .unset] [])
      refine own_viaH (fun _ k => XS.aload X47_.here hx rfl (hb hby at_58) rfl rfl k) ?_
      show own_FinH _ _ _ _ _ _ _ _ _ T47_ (mkF m 60 #[.val (.int p1), .val (.int p2), .val (.int p3), .val (.int p4), .val (.int p5), .val (.int p6), .val (.int (3 : Int32)), .val (.int c1), .val (.int c2), .val (.int c3), .val (.int c4), .val (.int c5), .val (.ref x48_), .unset, .unset, .unset, .unset] [(.ref x48_)])
      have C57_ := C0.trans (CHr.keep K47_ sf0 H0)
      have H57_ := C57_.1
      obtain ⟨_, _, ⟨T56_, L56_, k56_, n56_⟩, -, Y56_, hSq56_, hgq56_, ⟨Lc56_, hQ56_, l56_, y56_, z56_, Cq56_⟩, st56_⟩ := callSS X47_ hx (y := (⟨"com/example/dependency_container/dependencycontainer/BeanDefinition", "isPropertyPath", "(Ljava/lang/String;)Z"⟩ : MethodName)) hown (mvT hZ (hw _ (List.mem_of_getElem? (i := 29) rfl))) (mvT hZ (hw _ (List.mem_of_getElem? (i := 30) rfl))) (mvT hZ (hw _ (List.mem_of_getElem? (i := 31) rfl))) (mvT hZ (hw _ (List.mem_of_getElem? (i := 32) rfl))) (by decide) (backOfSH (s := s) (vm0 := s.vm) (W := 0) (own_rm_ipp l Z a0 hw [] x48_ cz t49_ kt50_ (3 : Int32) ([c1.toInt8.toInt32, c2.toInt8.toInt32, c3.toInt8.toInt32]) 3 fm T47_.heap n0 (Nat.le_trans Z0 K47_.1) (O0.keep K47_ all0) S1 (by first | assumption | decide) r52_ r53_ r54_ r55_ S2 r_fm rfl (by decide) (by decide) (own_bytes [c1, c2, c3])) hZ (hw _ (List.mem_of_getElem? (i := 32) rfl)) (hw _ (List.mem_of_getElem? (i := 31) rfl)) (by decide) (by decide) (own_ew hw) H57_) (g := (mkF m 60 #[.val (.int p1), .val (.int p2), .val (.int p3), .val (.int p4), .val (.int p5), .val (.int p6), .val (.int (3 : Int32)), .val (.int c1), .val (.int c2), .val (.int c3), .val (.int c4), .val (.int c5), .val (.ref x48_), .unset, .unset, .unset, .unset] [(.ref x48_)])) rfl (by rw [hml]; rfl) (argsL := [(.ref x48_)]) (rest := []) (lenOf own_pd19 rfl) rfl (by show 2 * 0 + _ ≤ _; exact Nat.le_of_eq rfl) (hb hby at_60) (fun _ _ => ⟨rfl, rfl, (by decide : 0 + 0 + 0 + 0 + 0 + 0 + 3 + 2 ≤ _), (by decide : 0 + 0 + 0 + 0 + 0 + 0 + 10 + 12 ≤ _)⟩)
      dsimp only [Pt.U, Pt.locs, Pt.cells, Pt.slots] at Y56_ l56_ y56_ z56_ st56_ hQ56_ hSq56_ hgq56_ Cq56_
      subst l56_ y56_ z56_
      obtain ⟨X56_, hS56_, hZ56_, hown56_⟩ := rebS hS0 ((Nat.le_trans hk0 K47_.1)) Y56_ hSq56_ hgq56_ hZ hown
      obtain ⟨r, rfl, Nq56_, K56_, hr⟩ := hQ56_
      have N56_ := Fr.app N47_ Nq56_
      refine own_viaH (fun _ k => st56_.trans k) ?_
      show own_FinH _ _ _ _ _ _ _ _ _ T56_ (mkF m 63 #[.val (.int p1), .val (.int p2), .val (.int p3), .val (.int p4), .val (.int p5), .val (.int p6), .val (.int (3 : Int32)), .val (.int c1), .val (.int c2), .val (.int c3), .val (.int c4), .val (.int c5), .val (.ref x48_), .unset, .unset, .unset, .unset] [(.int r)])
      have G := own_good_3 hc1 hc2 hc3
      refine own_viaH (fun _ k => XS.istore X56_.here hx rfl (hb hby at_63) rfl (l' := #[.val (.int p1), .val (.int p2), .val (.int p3), .val (.int p4), .val (.int p5), .val (.int p6), .val (.int (3 : Int32)), .val (.int c1), .val (.int c2), .val (.int c3), .val (.int c4), .val (.int c5), .val (.ref x48_), .val (.int r), .unset, .unset, .unset]) rfl k) ?_
      show own_FinH _ _ _ _ _ _ _ _ _ T56_ (mkF m 65 #[.val (.int p1), .val (.int p2), .val (.int p3), .val (.int p4), .val (.int p5), .val (.int p6), .val (.int (3 : Int32)), .val (.int c1), .val (.int c2), .val (.int c3), .val (.int c4), .val (.int c5), .val (.ref x48_), .val (.int r), .unset, .unset, .unset] [])
      refine own_viaH (fun _ k => XS.iload X56_.here hx rfl (hb hby at_65) rfl k) ?_
      show own_FinH _ _ _ _ _ _ _ _ _ T56_ (mkF m 67 #[.val (.int p1), .val (.int p2), .val (.int p3), .val (.int p4), .val (.int p5), .val (.int p6), .val (.int (3 : Int32)), .val (.int c1), .val (.int c2), .val (.int c3), .val (.int c4), .val (.int c5), .val (.ref x48_), .val (.int r), .unset, .unset, .unset] [(.int (3 : Int32))])
      refine own_viaH (fun _ k => XS.ifYes X56_.here hx rfl (pc0 := 67) (pc' := 76) rfl (hb hby at_67) rfl ((if0 _ _).trans (feq (by decide)).2) (by decide) (by decide) k) ?_
      show own_FinH _ _ _ _ _ _ _ _ _ T56_ (mkF m 76 #[.val (.int p1), .val (.int p2), .val (.int p3), .val (.int p4), .val (.int p5), .val (.int p6), .val (.int (3 : Int32)), .val (.int c1), .val (.int c2), .val (.int c3), .val (.int c4), .val (.int c5), .val (.ref x48_), .val (.int r), .unset, .unset, .unset] [])
      refine own_viaH (fun _ k => XS.iload X56_.here hx rfl (hb hby at_76) rfl k) ?_
      show own_FinH _ _ _ _ _ _ _ _ _ T56_ (mkF m 78 #[.val (.int p1), .val (.int p2), .val (.int p3), .val (.int p4), .val (.int p5), .val (.int p6), .val (.int (3 : Int32)), .val (.int c1), .val (.int c2), .val (.int c3), .val (.int c4), .val (.int c5), .val (.ref x48_), .val (.int r), .unset, .unset, .unset] [(.int (3 : Int32))])
      refine own_viaH (fun _ k => XS.iconst X56_.here hx rfl (hb hby at_78) k) ?_
      show own_FinH _ _ _ _ _ _ _ _ _ T56_ (mkF m 79 #[.val (.int p1), .val (.int p2), .val (.int p3), .val (.int p4), .val (.int p5), .val (.int p6), .val (.int (3 : Int32)), .val (.int c1), .val (.int c2), .val (.int c3), .val (.int c4), .val (.int c5), .val (.ref x48_), .val (.int r), .unset, .unset, .unset] [(.int (1 : Int32)), (.int (3 : Int32))])
      refine own_viaH (fun _ k => XS.icmpYes X56_.here hx rfl (pc0 := 79) (pc' := 87) rfl (hb hby at_79) rfl (feq (by decide)).2 (by decide) (by decide) k) ?_
      show own_FinH _ _ _ _ _ _ _ _ _ T56_ (mkF m 87 #[.val (.int p1), .val (.int p2), .val (.int p3), .val (.int p4), .val (.int p5), .val (.int p6), .val (.int (3 : Int32)), .val (.int c1), .val (.int c2), .val (.int c3), .val (.int c4), .val (.int c5), .val (.ref x48_), .val (.int r), .unset, .unset, .unset] [])
      refine own_viaH (fun _ k => XS.iload X56_.here hx rfl (hb hby at_87) rfl k) ?_
      show own_FinH _ _ _ _ _ _ _ _ _ T56_ (mkF m 89 #[.val (.int p1), .val (.int p2), .val (.int p3), .val (.int p4), .val (.int p5), .val (.int p6), .val (.int (3 : Int32)), .val (.int c1), .val (.int c2), .val (.int c3), .val (.int c4), .val (.int c5), .val (.ref x48_), .val (.int r), .unset, .unset, .unset] [(.int (3 : Int32))])
      refine own_viaH (fun _ k => XS.iconst X56_.here hx rfl (hb hby at_89) k) ?_
      show own_FinH _ _ _ _ _ _ _ _ _ T56_ (mkF m 90 #[.val (.int p1), .val (.int p2), .val (.int p3), .val (.int p4), .val (.int p5), .val (.int p6), .val (.int (3 : Int32)), .val (.int c1), .val (.int c2), .val (.int c3), .val (.int c4), .val (.int c5), .val (.ref x48_), .val (.int r), .unset, .unset, .unset] [(.int (2 : Int32)), (.int (3 : Int32))])
      refine own_viaH (fun _ k => XS.icmpYes X56_.here hx rfl (pc0 := 90) (pc' := 98) rfl (hb hby at_90) rfl (feq (by decide)).2 (by decide) (by decide) k) ?_
      show own_FinH _ _ _ _ _ _ _ _ _ T56_ (mkF m 98 #[.val (.int p1), .val (.int p2), .val (.int p3), .val (.int p4), .val (.int p5), .val (.int p6), .val (.int (3 : Int32)), .val (.int c1), .val (.int c2), .val (.int c3), .val (.int c4), .val (.int c5), .val (.ref x48_), .val (.int r), .unset, .unset, .unset] [])
      refine own_viaH (fun _ k => XS.iload X56_.here hx rfl (hb hby at_98) rfl k) ?_
      show own_FinH _ _ _ _ _ _ _ _ _ T56_ (mkF m 100 #[.val (.int p1), .val (.int p2), .val (.int p3), .val (.int p4), .val (.int p5), .val (.int p6), .val (.int (3 : Int32)), .val (.int c1), .val (.int c2), .val (.int c3), .val (.int c4), .val (.int c5), .val (.ref x48_), .val (.int r), .unset, .unset, .unset] [(.int (3 : Int32))])
      refine own_viaH (fun _ k => XS.iconst X56_.here hx rfl (hb hby at_100) k) ?_
      show own_FinH _ _ _ _ _ _ _ _ _ T56_ (mkF m 101 #[.val (.int p1), .val (.int p2), .val (.int p3), .val (.int p4), .val (.int p5), .val (.int p6), .val (.int (3 : Int32)), .val (.int c1), .val (.int c2), .val (.int c3), .val (.int c4), .val (.int c5), .val (.ref x48_), .val (.int r), .unset, .unset, .unset] [(.int (3 : Int32)), (.int (3 : Int32))])
      refine own_viaH (fun _ k => XS.icmpNo X56_.here hx rfl (hb hby at_101) rfl (teq rfl).2 k) ?_
      show own_FinH _ _ _ _ _ _ _ _ _ T56_ (mkF m 104 #[.val (.int p1), .val (.int p2), .val (.int p3), .val (.int p4), .val (.int p5), .val (.int p6), .val (.int (3 : Int32)), .val (.int c1), .val (.int c2), .val (.int c3), .val (.int c4), .val (.int c5), .val (.ref x48_), .val (.int r), .unset, .unset, .unset] [])
      refine own_viaH (fun _ k => XS.iload X56_.here hx rfl (hb hby at_104) rfl k) ?_
      show own_FinH _ _ _ _ _ _ _ _ _ T56_ (mkF m 106 #[.val (.int p1), .val (.int p2), .val (.int p3), .val (.int p4), .val (.int p5), .val (.int p6), .val (.int (3 : Int32)), .val (.int c1), .val (.int c2), .val (.int c3), .val (.int c4), .val (.int c5), .val (.ref x48_), .val (.int r), .unset, .unset, .unset] [(.int c3)])
      refine own_viaH (fun _ k => XS.goto X56_.here hx rfl (pc0 := 106) (pc' := 122) rfl (hb hby at_106) (by decide) (by decide) k) ?_
      show own_FinH _ _ _ _ _ _ _ _ _ T56_ (mkF m 122 #[.val (.int p1), .val (.int p2), .val (.int p3), .val (.int p4), .val (.int p5), .val (.int p6), .val (.int (3 : Int32)), .val (.int c1), .val (.int c2), .val (.int c3), .val (.int c4), .val (.int c5), .val (.ref x48_), .val (.int r), .unset, .unset, .unset] [(.int c3)])
      refine own_viaH (fun _ k => XS.istore X56_.here hx rfl (hb hby at_122) rfl (l' := #[.val (.int p1), .val (.int p2), .val (.int p3), .val (.int p4), .val (.int p5), .val (.int p6), .val (.int (3 : Int32)), .val (.int c1), .val (.int c2), .val (.int c3), .val (.int c4), .val (.int c5), .val (.ref x48_), .val (.int r), .unset, .val (.int c3), .unset]) rfl k) ?_
      show own_FinH _ _ _ _ _ _ _ _ _ T56_ (mkF m 124 #[.val (.int p1), .val (.int p2), .val (.int p3), .val (.int p4), .val (.int p5), .val (.int p6), .val (.int (3 : Int32)), .val (.int c1), .val (.int c2), .val (.int c3), .val (.int c4), .val (.int c5), .val (.ref x48_), .val (.int r), .unset, .val (.int c3), .unset] [])
      have s211 : ∀ (dd : Int32) (hdd : (dd = (1 : Int32) ∧ ((c1 = (46 : Int32) ∧ c2 = (46 : Int32)) ∨ (c2 = (46 : Int32) ∧ c3 = (46 : Int32)))) ∨ (dd = (0 : Int32) ∧ ¬ ((c1 = (46 : Int32) ∧ c2 = (46 : Int32)) ∨ (c2 = (46 : Int32) ∧ c3 = (46 : Int32))))), own_FinH p e s below Z own_EL (own_Q_law Z p1 p2 p3 p4 p5 p6 cz fm h0 n0) room_1.cells room_1.slots T56_ (mkF m 211 #[.val (.int p1), .val (.int p2), .val (.int p3), .val (.int p4), .val (.int p5), .val (.int p6), .val (.int (3 : Int32)), .val (.int c1), .val (.int c2), .val (.int c3), .val (.int c4), .val (.int c5), .val (.ref x48_), .val (.int r), .unset, .val (.int c3), .val (.int dd)] []) := by
        intro dd hdd
        refine own_viaH (fun _ k => XS.iload X56_.here hx rfl (hb hby at_211) rfl k) ?_
        show own_FinH _ _ _ _ _ _ _ _ _ T56_ (mkF m 213 #[.val (.int p1), .val (.int p2), .val (.int p3), .val (.int p4), .val (.int p5), .val (.int p6), .val (.int (3 : Int32)), .val (.int c1), .val (.int c2), .val (.int c3), .val (.int c4), .val (.int c5), .val (.ref x48_), .val (.int r), .unset, .val (.int c3), .val (.int dd)] [(.int c1)])
        refine own_viaH (fun _ k => XS.bipush X56_.here hx rfl (hb hby at_213) k) ?_
        show own_FinH _ _ _ _ _ _ _ _ _ T56_ (mkF m 215 #[.val (.int p1), .val (.int p2), .val (.int p3), .val (.int p4), .val (.int p5), .val (.int p6), .val (.int (3 : Int32)), .val (.int c1), .val (.int c2), .val (.int c3), .val (.int c4), .val (.int c5), .val (.ref x48_), .val (.int r), .unset, .val (.int c3), .val (.int dd)] [(.int (46 : Int32)), (.int c1)])
        rcases Classical.em (c1 = (46 : Int32)) with hA | hA
        · refine own_viaH (fun _ k => XS.icmpYes X56_.here hx rfl (pc0 := 215) (pc' := 234) rfl (hb hby at_215) rfl (teq hA).1 (by decide) (by decide) k) ?_
          show own_FinH _ _ _ _ _ _ _ _ _ T56_ (mkF m 234 #[.val (.int p1), .val (.int p2), .val (.int p3), .val (.int p4), .val (.int p5), .val (.int p6), .val (.int (3 : Int32)), .val (.int c1), .val (.int c2), .val (.int c3), .val (.int c4), .val (.int c5), .val (.ref x48_), .val (.int r), .unset, .val (.int c3), .val (.int dd)] [])
          refine own_viaH (fun _ k => XS.iconst X56_.here hx rfl (hb hby at_234) k) ?_
          show own_FinH _ _ _ _ _ _ _ _ _ T56_ (mkF m 235 #[.val (.int p1), .val (.int p2), .val (.int p3), .val (.int p4), .val (.int p5), .val (.int p6), .val (.int (3 : Int32)), .val (.int c1), .val (.int c2), .val (.int c3), .val (.int c4), .val (.int c5), .val (.ref x48_), .val (.int r), .unset, .val (.int c3), .val (.int dd)] [(.int (0 : Int32))])
          refine own_viaH (fun _ k => XS.istore X56_.here hx rfl (hb hby at_235) rfl (l' := #[.val (.int p1), .val (.int p2), .val (.int p3), .val (.int p4), .val (.int p5), .val (.int p6), .val (.int (3 : Int32)), .val (.int c1), .val (.int c2), .val (.int c3), .val (.int c4), .val (.int c5), .val (.ref x48_), .val (.int r), .val (.int (0 : Int32)), .val (.int c3), .val (.int dd)]) rfl k) ?_
          show own_FinH _ _ _ _ _ _ _ _ _ T56_ (mkF m 237 #[.val (.int p1), .val (.int p2), .val (.int p3), .val (.int p4), .val (.int p5), .val (.int p6), .val (.int (3 : Int32)), .val (.int c1), .val (.int c2), .val (.int c3), .val (.int c4), .val (.int c5), .val (.ref x48_), .val (.int r), .val (.int (0 : Int32)), .val (.int c3), .val (.int dd)] [])
          refine own_viaH (fun _ k => XS.iload X56_.here hx rfl (hb hby at_237) rfl k) ?_
          show own_FinH _ _ _ _ _ _ _ _ _ T56_ (mkF m 239 #[.val (.int p1), .val (.int p2), .val (.int p3), .val (.int p4), .val (.int p5), .val (.int p6), .val (.int (3 : Int32)), .val (.int c1), .val (.int c2), .val (.int c3), .val (.int c4), .val (.int c5), .val (.ref x48_), .val (.int r), .val (.int (0 : Int32)), .val (.int c3), .val (.int dd)] [(.int r)])
          refine own_viaH (fun _ k => XS.iload X56_.here hx rfl (hb hby at_239) rfl k) ?_
          show own_FinH _ _ _ _ _ _ _ _ _ T56_ (mkF m 241 #[.val (.int p1), .val (.int p2), .val (.int p3), .val (.int p4), .val (.int p5), .val (.int p6), .val (.int (3 : Int32)), .val (.int c1), .val (.int c2), .val (.int c3), .val (.int c4), .val (.int c5), .val (.ref x48_), .val (.int r), .val (.int (0 : Int32)), .val (.int c3), .val (.int dd)] [(.int (0 : Int32)), (.int r)])
          refine own_viaH (fun _ k => XS.icmpNo X56_.here hx rfl (hb hby at_241) rfl (teq (hr.elim (fun q => absurd hA (G.mp q.2).1) (fun q => q.1))).2 k) ?_
          show own_FinH _ _ _ _ _ _ _ _ _ T56_ (mkF m 244 #[.val (.int p1), .val (.int p2), .val (.int p3), .val (.int p4), .val (.int p5), .val (.int p6), .val (.int (3 : Int32)), .val (.int c1), .val (.int c2), .val (.int c3), .val (.int c4), .val (.int c5), .val (.ref x48_), .val (.int r), .val (.int (0 : Int32)), .val (.int c3), .val (.int dd)] [])
          refine own_viaH (fun _ k => XS.iconst X56_.here hx rfl (hb hby at_244) k) ?_
          show own_FinH _ _ _ _ _ _ _ _ _ T56_ (mkF m 245 #[.val (.int p1), .val (.int p2), .val (.int p3), .val (.int p4), .val (.int p5), .val (.int p6), .val (.int (3 : Int32)), .val (.int c1), .val (.int c2), .val (.int c3), .val (.int c4), .val (.int c5), .val (.ref x48_), .val (.int r), .val (.int (0 : Int32)), .val (.int c3), .val (.int dd)] [(.int (1 : Int32))])
          refine own_viaH (fun _ k => XS.goto X56_.here hx rfl (pc0 := 245) (pc' := 249) rfl (hb hby at_245) (by decide) (by decide) k) ?_
          show own_FinH _ _ _ _ _ _ _ _ _ T56_ (mkF m 249 #[.val (.int p1), .val (.int p2), .val (.int p3), .val (.int p4), .val (.int p5), .val (.int p6), .val (.int (3 : Int32)), .val (.int c1), .val (.int c2), .val (.int c3), .val (.int c4), .val (.int c5), .val (.ref x48_), .val (.int r), .val (.int (0 : Int32)), .val (.int c3), .val (.int dd)] [(.int (1 : Int32))])
          have C58_ := C57_.trans Cq56_
          have H58_ := C58_.1
          exact own_retNH X56_ hx (t := .boolean) Bd.returns Bd.notSynchronized (own_ew hw) hZ56_ hS56_ (Nat.le_refl _) hh C58_ (by simp) (hb hby at_249) rfl rfl ⟨rfl, N56_⟩ (by decide) (by decide)
        · refine own_viaH (fun _ k => XS.icmpNo X56_.here hx rfl (hb hby at_215) rfl (feq hA).1 k) ?_
          show own_FinH _ _ _ _ _ _ _ _ _ T56_ (mkF m 218 #[.val (.int p1), .val (.int p2), .val (.int p3), .val (.int p4), .val (.int p5), .val (.int p6), .val (.int (3 : Int32)), .val (.int c1), .val (.int c2), .val (.int c3), .val (.int c4), .val (.int c5), .val (.ref x48_), .val (.int r), .unset, .val (.int c3), .val (.int dd)] [])
          refine own_viaH (fun _ k => XS.iload X56_.here hx rfl (hb hby at_218) rfl k) ?_
          show own_FinH _ _ _ _ _ _ _ _ _ T56_ (mkF m 220 #[.val (.int p1), .val (.int p2), .val (.int p3), .val (.int p4), .val (.int p5), .val (.int p6), .val (.int (3 : Int32)), .val (.int c1), .val (.int c2), .val (.int c3), .val (.int c4), .val (.int c5), .val (.ref x48_), .val (.int r), .unset, .val (.int c3), .val (.int dd)] [(.int c3)])
          refine own_viaH (fun _ k => XS.bipush X56_.here hx rfl (hb hby at_220) k) ?_
          show own_FinH _ _ _ _ _ _ _ _ _ T56_ (mkF m 222 #[.val (.int p1), .val (.int p2), .val (.int p3), .val (.int p4), .val (.int p5), .val (.int p6), .val (.int (3 : Int32)), .val (.int c1), .val (.int c2), .val (.int c3), .val (.int c4), .val (.int c5), .val (.ref x48_), .val (.int r), .unset, .val (.int c3), .val (.int dd)] [(.int (46 : Int32)), (.int c3)])
          rcases Classical.em (c3 = (46 : Int32)) with hB | hB
          · refine own_viaH (fun _ k => XS.icmpYes X56_.here hx rfl (pc0 := 222) (pc' := 234) rfl (hb hby at_222) rfl (teq hB).1 (by decide) (by decide) k) ?_
            show own_FinH _ _ _ _ _ _ _ _ _ T56_ (mkF m 234 #[.val (.int p1), .val (.int p2), .val (.int p3), .val (.int p4), .val (.int p5), .val (.int p6), .val (.int (3 : Int32)), .val (.int c1), .val (.int c2), .val (.int c3), .val (.int c4), .val (.int c5), .val (.ref x48_), .val (.int r), .unset, .val (.int c3), .val (.int dd)] [])
            refine own_viaH (fun _ k => XS.iconst X56_.here hx rfl (hb hby at_234) k) ?_
            show own_FinH _ _ _ _ _ _ _ _ _ T56_ (mkF m 235 #[.val (.int p1), .val (.int p2), .val (.int p3), .val (.int p4), .val (.int p5), .val (.int p6), .val (.int (3 : Int32)), .val (.int c1), .val (.int c2), .val (.int c3), .val (.int c4), .val (.int c5), .val (.ref x48_), .val (.int r), .unset, .val (.int c3), .val (.int dd)] [(.int (0 : Int32))])
            refine own_viaH (fun _ k => XS.istore X56_.here hx rfl (hb hby at_235) rfl (l' := #[.val (.int p1), .val (.int p2), .val (.int p3), .val (.int p4), .val (.int p5), .val (.int p6), .val (.int (3 : Int32)), .val (.int c1), .val (.int c2), .val (.int c3), .val (.int c4), .val (.int c5), .val (.ref x48_), .val (.int r), .val (.int (0 : Int32)), .val (.int c3), .val (.int dd)]) rfl k) ?_
            show own_FinH _ _ _ _ _ _ _ _ _ T56_ (mkF m 237 #[.val (.int p1), .val (.int p2), .val (.int p3), .val (.int p4), .val (.int p5), .val (.int p6), .val (.int (3 : Int32)), .val (.int c1), .val (.int c2), .val (.int c3), .val (.int c4), .val (.int c5), .val (.ref x48_), .val (.int r), .val (.int (0 : Int32)), .val (.int c3), .val (.int dd)] [])
            refine own_viaH (fun _ k => XS.iload X56_.here hx rfl (hb hby at_237) rfl k) ?_
            show own_FinH _ _ _ _ _ _ _ _ _ T56_ (mkF m 239 #[.val (.int p1), .val (.int p2), .val (.int p3), .val (.int p4), .val (.int p5), .val (.int p6), .val (.int (3 : Int32)), .val (.int c1), .val (.int c2), .val (.int c3), .val (.int c4), .val (.int c5), .val (.ref x48_), .val (.int r), .val (.int (0 : Int32)), .val (.int c3), .val (.int dd)] [(.int r)])
            refine own_viaH (fun _ k => XS.iload X56_.here hx rfl (hb hby at_239) rfl k) ?_
            show own_FinH _ _ _ _ _ _ _ _ _ T56_ (mkF m 241 #[.val (.int p1), .val (.int p2), .val (.int p3), .val (.int p4), .val (.int p5), .val (.int p6), .val (.int (3 : Int32)), .val (.int c1), .val (.int c2), .val (.int c3), .val (.int c4), .val (.int c5), .val (.ref x48_), .val (.int r), .val (.int (0 : Int32)), .val (.int c3), .val (.int dd)] [(.int (0 : Int32)), (.int r)])
            refine own_viaH (fun _ k => XS.icmpNo X56_.here hx rfl (hb hby at_241) rfl (teq (hr.elim (fun q => absurd hB (G.mp q.2).2.1) (fun q => q.1))).2 k) ?_
            show own_FinH _ _ _ _ _ _ _ _ _ T56_ (mkF m 244 #[.val (.int p1), .val (.int p2), .val (.int p3), .val (.int p4), .val (.int p5), .val (.int p6), .val (.int (3 : Int32)), .val (.int c1), .val (.int c2), .val (.int c3), .val (.int c4), .val (.int c5), .val (.ref x48_), .val (.int r), .val (.int (0 : Int32)), .val (.int c3), .val (.int dd)] [])
            refine own_viaH (fun _ k => XS.iconst X56_.here hx rfl (hb hby at_244) k) ?_
            show own_FinH _ _ _ _ _ _ _ _ _ T56_ (mkF m 245 #[.val (.int p1), .val (.int p2), .val (.int p3), .val (.int p4), .val (.int p5), .val (.int p6), .val (.int (3 : Int32)), .val (.int c1), .val (.int c2), .val (.int c3), .val (.int c4), .val (.int c5), .val (.ref x48_), .val (.int r), .val (.int (0 : Int32)), .val (.int c3), .val (.int dd)] [(.int (1 : Int32))])
            refine own_viaH (fun _ k => XS.goto X56_.here hx rfl (pc0 := 245) (pc' := 249) rfl (hb hby at_245) (by decide) (by decide) k) ?_
            show own_FinH _ _ _ _ _ _ _ _ _ T56_ (mkF m 249 #[.val (.int p1), .val (.int p2), .val (.int p3), .val (.int p4), .val (.int p5), .val (.int p6), .val (.int (3 : Int32)), .val (.int c1), .val (.int c2), .val (.int c3), .val (.int c4), .val (.int c5), .val (.ref x48_), .val (.int r), .val (.int (0 : Int32)), .val (.int c3), .val (.int dd)] [(.int (1 : Int32))])
            have C59_ := C57_.trans Cq56_
            have H59_ := C59_.1
            exact own_retNH X56_ hx (t := .boolean) Bd.returns Bd.notSynchronized (own_ew hw) hZ56_ hS56_ (Nat.le_refl _) hh C59_ (by simp) (hb hby at_249) rfl rfl ⟨rfl, N56_⟩ (by decide) (by decide)
          · refine own_viaH (fun _ k => XS.icmpNo X56_.here hx rfl (hb hby at_222) rfl (feq hB).1 k) ?_
            show own_FinH _ _ _ _ _ _ _ _ _ T56_ (mkF m 225 #[.val (.int p1), .val (.int p2), .val (.int p3), .val (.int p4), .val (.int p5), .val (.int p6), .val (.int (3 : Int32)), .val (.int c1), .val (.int c2), .val (.int c3), .val (.int c4), .val (.int c5), .val (.ref x48_), .val (.int r), .unset, .val (.int c3), .val (.int dd)] [])
            refine own_viaH (fun _ k => XS.iload X56_.here hx rfl (hb hby at_225) rfl k) ?_
            show own_FinH _ _ _ _ _ _ _ _ _ T56_ (mkF m 227 #[.val (.int p1), .val (.int p2), .val (.int p3), .val (.int p4), .val (.int p5), .val (.int p6), .val (.int (3 : Int32)), .val (.int c1), .val (.int c2), .val (.int c3), .val (.int c4), .val (.int c5), .val (.ref x48_), .val (.int r), .unset, .val (.int c3), .val (.int dd)] [(.int dd)])
            rcases Classical.em (dd = (0 : Int32)) with hC | hC
            · refine own_viaH (fun _ k => XS.ifNo X56_.here hx rfl (hb hby at_227) rfl ((if0 _ _).trans (teq hC).2) k) ?_
              show own_FinH _ _ _ _ _ _ _ _ _ T56_ (mkF m 230 #[.val (.int p1), .val (.int p2), .val (.int p3), .val (.int p4), .val (.int p5), .val (.int p6), .val (.int (3 : Int32)), .val (.int c1), .val (.int c2), .val (.int c3), .val (.int c4), .val (.int c5), .val (.ref x48_), .val (.int r), .unset, .val (.int c3), .val (.int dd)] [])
              refine own_viaH (fun _ k => XS.iconst X56_.here hx rfl (hb hby at_230) k) ?_
              show own_FinH _ _ _ _ _ _ _ _ _ T56_ (mkF m 231 #[.val (.int p1), .val (.int p2), .val (.int p3), .val (.int p4), .val (.int p5), .val (.int p6), .val (.int (3 : Int32)), .val (.int c1), .val (.int c2), .val (.int c3), .val (.int c4), .val (.int c5), .val (.ref x48_), .val (.int r), .unset, .val (.int c3), .val (.int dd)] [(.int (1 : Int32))])
              refine own_viaH (fun _ k => XS.goto X56_.here hx rfl (pc0 := 231) (pc' := 235) rfl (hb hby at_231) (by decide) (by decide) k) ?_
              show own_FinH _ _ _ _ _ _ _ _ _ T56_ (mkF m 235 #[.val (.int p1), .val (.int p2), .val (.int p3), .val (.int p4), .val (.int p5), .val (.int p6), .val (.int (3 : Int32)), .val (.int c1), .val (.int c2), .val (.int c3), .val (.int c4), .val (.int c5), .val (.ref x48_), .val (.int r), .unset, .val (.int c3), .val (.int dd)] [(.int (1 : Int32))])
              refine own_viaH (fun _ k => XS.istore X56_.here hx rfl (hb hby at_235) rfl (l' := #[.val (.int p1), .val (.int p2), .val (.int p3), .val (.int p4), .val (.int p5), .val (.int p6), .val (.int (3 : Int32)), .val (.int c1), .val (.int c2), .val (.int c3), .val (.int c4), .val (.int c5), .val (.ref x48_), .val (.int r), .val (.int (1 : Int32)), .val (.int c3), .val (.int dd)]) rfl k) ?_
              show own_FinH _ _ _ _ _ _ _ _ _ T56_ (mkF m 237 #[.val (.int p1), .val (.int p2), .val (.int p3), .val (.int p4), .val (.int p5), .val (.int p6), .val (.int (3 : Int32)), .val (.int c1), .val (.int c2), .val (.int c3), .val (.int c4), .val (.int c5), .val (.ref x48_), .val (.int r), .val (.int (1 : Int32)), .val (.int c3), .val (.int dd)] [])
              refine own_viaH (fun _ k => XS.iload X56_.here hx rfl (hb hby at_237) rfl k) ?_
              show own_FinH _ _ _ _ _ _ _ _ _ T56_ (mkF m 239 #[.val (.int p1), .val (.int p2), .val (.int p3), .val (.int p4), .val (.int p5), .val (.int p6), .val (.int (3 : Int32)), .val (.int c1), .val (.int c2), .val (.int c3), .val (.int c4), .val (.int c5), .val (.ref x48_), .val (.int r), .val (.int (1 : Int32)), .val (.int c3), .val (.int dd)] [(.int r)])
              refine own_viaH (fun _ k => XS.iload X56_.here hx rfl (hb hby at_239) rfl k) ?_
              show own_FinH _ _ _ _ _ _ _ _ _ T56_ (mkF m 241 #[.val (.int p1), .val (.int p2), .val (.int p3), .val (.int p4), .val (.int p5), .val (.int p6), .val (.int (3 : Int32)), .val (.int c1), .val (.int c2), .val (.int c3), .val (.int c4), .val (.int c5), .val (.ref x48_), .val (.int r), .val (.int (1 : Int32)), .val (.int c3), .val (.int dd)] [(.int (1 : Int32)), (.int r)])
              refine own_viaH (fun _ k => XS.icmpNo X56_.here hx rfl (hb hby at_241) rfl (teq (hr.elim (fun q => q.1) (fun q => absurd (G.mpr ⟨hA, hB, (hdd.resolve_left fun z => absurd (z.1.symm.trans hC) (by decide)).2⟩) q.2))).2 k) ?_
              show own_FinH _ _ _ _ _ _ _ _ _ T56_ (mkF m 244 #[.val (.int p1), .val (.int p2), .val (.int p3), .val (.int p4), .val (.int p5), .val (.int p6), .val (.int (3 : Int32)), .val (.int c1), .val (.int c2), .val (.int c3), .val (.int c4), .val (.int c5), .val (.ref x48_), .val (.int r), .val (.int (1 : Int32)), .val (.int c3), .val (.int dd)] [])
              refine own_viaH (fun _ k => XS.iconst X56_.here hx rfl (hb hby at_244) k) ?_
              show own_FinH _ _ _ _ _ _ _ _ _ T56_ (mkF m 245 #[.val (.int p1), .val (.int p2), .val (.int p3), .val (.int p4), .val (.int p5), .val (.int p6), .val (.int (3 : Int32)), .val (.int c1), .val (.int c2), .val (.int c3), .val (.int c4), .val (.int c5), .val (.ref x48_), .val (.int r), .val (.int (1 : Int32)), .val (.int c3), .val (.int dd)] [(.int (1 : Int32))])
              refine own_viaH (fun _ k => XS.goto X56_.here hx rfl (pc0 := 245) (pc' := 249) rfl (hb hby at_245) (by decide) (by decide) k) ?_
              show own_FinH _ _ _ _ _ _ _ _ _ T56_ (mkF m 249 #[.val (.int p1), .val (.int p2), .val (.int p3), .val (.int p4), .val (.int p5), .val (.int p6), .val (.int (3 : Int32)), .val (.int c1), .val (.int c2), .val (.int c3), .val (.int c4), .val (.int c5), .val (.ref x48_), .val (.int r), .val (.int (1 : Int32)), .val (.int c3), .val (.int dd)] [(.int (1 : Int32))])
              have C61_ := C57_.trans Cq56_
              have H61_ := C61_.1
              exact own_retNH X56_ hx (t := .boolean) Bd.returns Bd.notSynchronized (own_ew hw) hZ56_ hS56_ (Nat.le_refl _) hh C61_ (by simp) (hb hby at_249) rfl rfl ⟨rfl, N56_⟩ (by decide) (by decide)
            · refine own_viaH (fun _ k => XS.ifYes X56_.here hx rfl (pc0 := 227) (pc' := 234) rfl (hb hby at_227) rfl ((if0 _ _).trans (feq hC).2) (by decide) (by decide) k) ?_
              show own_FinH _ _ _ _ _ _ _ _ _ T56_ (mkF m 234 #[.val (.int p1), .val (.int p2), .val (.int p3), .val (.int p4), .val (.int p5), .val (.int p6), .val (.int (3 : Int32)), .val (.int c1), .val (.int c2), .val (.int c3), .val (.int c4), .val (.int c5), .val (.ref x48_), .val (.int r), .unset, .val (.int c3), .val (.int dd)] [])
              refine own_viaH (fun _ k => XS.iconst X56_.here hx rfl (hb hby at_234) k) ?_
              show own_FinH _ _ _ _ _ _ _ _ _ T56_ (mkF m 235 #[.val (.int p1), .val (.int p2), .val (.int p3), .val (.int p4), .val (.int p5), .val (.int p6), .val (.int (3 : Int32)), .val (.int c1), .val (.int c2), .val (.int c3), .val (.int c4), .val (.int c5), .val (.ref x48_), .val (.int r), .unset, .val (.int c3), .val (.int dd)] [(.int (0 : Int32))])
              refine own_viaH (fun _ k => XS.istore X56_.here hx rfl (hb hby at_235) rfl (l' := #[.val (.int p1), .val (.int p2), .val (.int p3), .val (.int p4), .val (.int p5), .val (.int p6), .val (.int (3 : Int32)), .val (.int c1), .val (.int c2), .val (.int c3), .val (.int c4), .val (.int c5), .val (.ref x48_), .val (.int r), .val (.int (0 : Int32)), .val (.int c3), .val (.int dd)]) rfl k) ?_
              show own_FinH _ _ _ _ _ _ _ _ _ T56_ (mkF m 237 #[.val (.int p1), .val (.int p2), .val (.int p3), .val (.int p4), .val (.int p5), .val (.int p6), .val (.int (3 : Int32)), .val (.int c1), .val (.int c2), .val (.int c3), .val (.int c4), .val (.int c5), .val (.ref x48_), .val (.int r), .val (.int (0 : Int32)), .val (.int c3), .val (.int dd)] [])
              refine own_viaH (fun _ k => XS.iload X56_.here hx rfl (hb hby at_237) rfl k) ?_
              show own_FinH _ _ _ _ _ _ _ _ _ T56_ (mkF m 239 #[.val (.int p1), .val (.int p2), .val (.int p3), .val (.int p4), .val (.int p5), .val (.int p6), .val (.int (3 : Int32)), .val (.int c1), .val (.int c2), .val (.int c3), .val (.int c4), .val (.int c5), .val (.ref x48_), .val (.int r), .val (.int (0 : Int32)), .val (.int c3), .val (.int dd)] [(.int r)])
              refine own_viaH (fun _ k => XS.iload X56_.here hx rfl (hb hby at_239) rfl k) ?_
              show own_FinH _ _ _ _ _ _ _ _ _ T56_ (mkF m 241 #[.val (.int p1), .val (.int p2), .val (.int p3), .val (.int p4), .val (.int p5), .val (.int p6), .val (.int (3 : Int32)), .val (.int c1), .val (.int c2), .val (.int c3), .val (.int c4), .val (.int c5), .val (.ref x48_), .val (.int r), .val (.int (0 : Int32)), .val (.int c3), .val (.int dd)] [(.int (0 : Int32)), (.int r)])
              refine own_viaH (fun _ k => XS.icmpNo X56_.here hx rfl (hb hby at_241) rfl (teq (hr.elim (fun q => absurd (hdd.resolve_right fun z => hC z.1).2 (G.mp q.2).2.2) (fun q => q.1))).2 k) ?_
              show own_FinH _ _ _ _ _ _ _ _ _ T56_ (mkF m 244 #[.val (.int p1), .val (.int p2), .val (.int p3), .val (.int p4), .val (.int p5), .val (.int p6), .val (.int (3 : Int32)), .val (.int c1), .val (.int c2), .val (.int c3), .val (.int c4), .val (.int c5), .val (.ref x48_), .val (.int r), .val (.int (0 : Int32)), .val (.int c3), .val (.int dd)] [])
              refine own_viaH (fun _ k => XS.iconst X56_.here hx rfl (hb hby at_244) k) ?_
              show own_FinH _ _ _ _ _ _ _ _ _ T56_ (mkF m 245 #[.val (.int p1), .val (.int p2), .val (.int p3), .val (.int p4), .val (.int p5), .val (.int p6), .val (.int (3 : Int32)), .val (.int c1), .val (.int c2), .val (.int c3), .val (.int c4), .val (.int c5), .val (.ref x48_), .val (.int r), .val (.int (0 : Int32)), .val (.int c3), .val (.int dd)] [(.int (1 : Int32))])
              refine own_viaH (fun _ k => XS.goto X56_.here hx rfl (pc0 := 245) (pc' := 249) rfl (hb hby at_245) (by decide) (by decide) k) ?_
              show own_FinH _ _ _ _ _ _ _ _ _ T56_ (mkF m 249 #[.val (.int p1), .val (.int p2), .val (.int p3), .val (.int p4), .val (.int p5), .val (.int p6), .val (.int (3 : Int32)), .val (.int c1), .val (.int c2), .val (.int c3), .val (.int c4), .val (.int c5), .val (.ref x48_), .val (.int r), .val (.int (0 : Int32)), .val (.int c3), .val (.int dd)] [(.int (1 : Int32))])
              have C60_ := C57_.trans Cq56_
              have H60_ := C60_.1
              exact own_retNH X56_ hx (t := .boolean) Bd.returns Bd.notSynchronized (own_ew hw) hZ56_ hS56_ (Nat.le_refl _) hh C60_ (by simp) (hb hby at_249) rfl rfl ⟨rfl, N56_⟩ (by decide) (by decide)
      refine own_viaH (fun _ k => XS.iload X56_.here hx rfl (hb hby at_124) rfl k) ?_
      show own_FinH _ _ _ _ _ _ _ _ _ T56_ (mkF m 126 #[.val (.int p1), .val (.int p2), .val (.int p3), .val (.int p4), .val (.int p5), .val (.int p6), .val (.int (3 : Int32)), .val (.int c1), .val (.int c2), .val (.int c3), .val (.int c4), .val (.int c5), .val (.ref x48_), .val (.int r), .unset, .val (.int c3), .unset] [(.int (3 : Int32))])
      refine own_viaH (fun _ k => XS.iconst X56_.here hx rfl (hb hby at_126) k) ?_
      show own_FinH _ _ _ _ _ _ _ _ _ T56_ (mkF m 127 #[.val (.int p1), .val (.int p2), .val (.int p3), .val (.int p4), .val (.int p5), .val (.int p6), .val (.int (3 : Int32)), .val (.int c1), .val (.int c2), .val (.int c3), .val (.int c4), .val (.int c5), .val (.ref x48_), .val (.int r), .unset, .val (.int c3), .unset] [(.int (2 : Int32)), (.int (3 : Int32))])
      refine own_viaH (fun _ k => XS.icmpNo X56_.here hx rfl (hb hby at_127) rfl (flt (by decide)).1 k) ?_
      show own_FinH _ _ _ _ _ _ _ _ _ T56_ (mkF m 130 #[.val (.int p1), .val (.int p2), .val (.int p3), .val (.int p4), .val (.int p5), .val (.int p6), .val (.int (3 : Int32)), .val (.int c1), .val (.int c2), .val (.int c3), .val (.int c4), .val (.int c5), .val (.ref x48_), .val (.int r), .unset, .val (.int c3), .unset] [])
      have sp0 : ∀ (hp0 : ¬ (c1 = (46 : Int32) ∧ c2 = (46 : Int32))), own_FinH p e s below Z own_EL (own_Q_law Z p1 p2 p3 p4 p5 p6 cz fm h0 n0) room_1.cells room_1.slots T56_ (mkF m 144 #[.val (.int p1), .val (.int p2), .val (.int p3), .val (.int p4), .val (.int p5), .val (.int p6), .val (.int (3 : Int32)), .val (.int c1), .val (.int c2), .val (.int c3), .val (.int c4), .val (.int c5), .val (.ref x48_), .val (.int r), .unset, .val (.int c3), .unset] []) := by
        intro hp0
        refine own_viaH (fun _ k => XS.iload X56_.here hx rfl (hb hby at_144) rfl k) ?_
        show own_FinH _ _ _ _ _ _ _ _ _ T56_ (mkF m 146 #[.val (.int p1), .val (.int p2), .val (.int p3), .val (.int p4), .val (.int p5), .val (.int p6), .val (.int (3 : Int32)), .val (.int c1), .val (.int c2), .val (.int c3), .val (.int c4), .val (.int c5), .val (.ref x48_), .val (.int r), .unset, .val (.int c3), .unset] [(.int (3 : Int32))])
        refine own_viaH (fun _ k => XS.iconst X56_.here hx rfl (hb hby at_146) k) ?_
        show own_FinH _ _ _ _ _ _ _ _ _ T56_ (mkF m 147 #[.val (.int p1), .val (.int p2), .val (.int p3), .val (.int p4), .val (.int p5), .val (.int p6), .val (.int (3 : Int32)), .val (.int c1), .val (.int c2), .val (.int c3), .val (.int c4), .val (.int c5), .val (.ref x48_), .val (.int r), .unset, .val (.int c3), .unset] [(.int (3 : Int32)), (.int (3 : Int32))])
        refine own_viaH (fun _ k => XS.icmpNo X56_.here hx rfl (hb hby at_147) rfl (flt (by decide)).1 k) ?_
        show own_FinH _ _ _ _ _ _ _ _ _ T56_ (mkF m 150 #[.val (.int p1), .val (.int p2), .val (.int p3), .val (.int p4), .val (.int p5), .val (.int p6), .val (.int (3 : Int32)), .val (.int c1), .val (.int c2), .val (.int c3), .val (.int c4), .val (.int c5), .val (.ref x48_), .val (.int r), .unset, .val (.int c3), .unset] [])
        have sp1 : ∀ (hp1 : ¬ (c2 = (46 : Int32) ∧ c3 = (46 : Int32))), own_FinH p e s below Z own_EL (own_Q_law Z p1 p2 p3 p4 p5 p6 cz fm h0 n0) room_1.cells room_1.slots T56_ (mkF m 164 #[.val (.int p1), .val (.int p2), .val (.int p3), .val (.int p4), .val (.int p5), .val (.int p6), .val (.int (3 : Int32)), .val (.int c1), .val (.int c2), .val (.int c3), .val (.int c4), .val (.int c5), .val (.ref x48_), .val (.int r), .unset, .val (.int c3), .unset] []) := by
          intro hp1
          refine own_viaH (fun _ k => XS.iload X56_.here hx rfl (hb hby at_164) rfl k) ?_
          show own_FinH _ _ _ _ _ _ _ _ _ T56_ (mkF m 166 #[.val (.int p1), .val (.int p2), .val (.int p3), .val (.int p4), .val (.int p5), .val (.int p6), .val (.int (3 : Int32)), .val (.int c1), .val (.int c2), .val (.int c3), .val (.int c4), .val (.int c5), .val (.ref x48_), .val (.int r), .unset, .val (.int c3), .unset] [(.int (3 : Int32))])
          refine own_viaH (fun _ k => XS.iconst X56_.here hx rfl (hb hby at_166) k) ?_
          show own_FinH _ _ _ _ _ _ _ _ _ T56_ (mkF m 167 #[.val (.int p1), .val (.int p2), .val (.int p3), .val (.int p4), .val (.int p5), .val (.int p6), .val (.int (3 : Int32)), .val (.int c1), .val (.int c2), .val (.int c3), .val (.int c4), .val (.int c5), .val (.ref x48_), .val (.int r), .unset, .val (.int c3), .unset] [(.int (4 : Int32)), (.int (3 : Int32))])
          refine own_viaH (fun _ k => XS.icmpYes X56_.here hx rfl (pc0 := 167) (pc' := 184) rfl (hb hby at_167) rfl (tlt (by decide)).1 (by decide) (by decide) k) ?_
          show own_FinH _ _ _ _ _ _ _ _ _ T56_ (mkF m 184 #[.val (.int p1), .val (.int p2), .val (.int p3), .val (.int p4), .val (.int p5), .val (.int p6), .val (.int (3 : Int32)), .val (.int c1), .val (.int c2), .val (.int c3), .val (.int c4), .val (.int c5), .val (.ref x48_), .val (.int r), .unset, .val (.int c3), .unset] [])
          refine own_viaH (fun _ k => XS.iload X56_.here hx rfl (hb hby at_184) rfl k) ?_
          show own_FinH _ _ _ _ _ _ _ _ _ T56_ (mkF m 186 #[.val (.int p1), .val (.int p2), .val (.int p3), .val (.int p4), .val (.int p5), .val (.int p6), .val (.int (3 : Int32)), .val (.int c1), .val (.int c2), .val (.int c3), .val (.int c4), .val (.int c5), .val (.ref x48_), .val (.int r), .unset, .val (.int c3), .unset] [(.int (3 : Int32))])
          refine own_viaH (fun _ k => XS.iconst X56_.here hx rfl (hb hby at_186) k) ?_
          show own_FinH _ _ _ _ _ _ _ _ _ T56_ (mkF m 187 #[.val (.int p1), .val (.int p2), .val (.int p3), .val (.int p4), .val (.int p5), .val (.int p6), .val (.int (3 : Int32)), .val (.int c1), .val (.int c2), .val (.int c3), .val (.int c4), .val (.int c5), .val (.ref x48_), .val (.int r), .unset, .val (.int c3), .unset] [(.int (5 : Int32)), (.int (3 : Int32))])
          refine own_viaH (fun _ k => XS.icmpYes X56_.here hx rfl (pc0 := 187) (pc' := 208) rfl (hb hby at_187) rfl (tlt (by decide)).1 (by decide) (by decide) k) ?_
          show own_FinH _ _ _ _ _ _ _ _ _ T56_ (mkF m 208 #[.val (.int p1), .val (.int p2), .val (.int p3), .val (.int p4), .val (.int p5), .val (.int p6), .val (.int (3 : Int32)), .val (.int c1), .val (.int c2), .val (.int c3), .val (.int c4), .val (.int c5), .val (.ref x48_), .val (.int r), .unset, .val (.int c3), .unset] [])
          refine own_viaH (fun _ k => XS.iconst X56_.here hx rfl (hb hby at_208) k) ?_
          show own_FinH _ _ _ _ _ _ _ _ _ T56_ (mkF m 209 #[.val (.int p1), .val (.int p2), .val (.int p3), .val (.int p4), .val (.int p5), .val (.int p6), .val (.int (3 : Int32)), .val (.int c1), .val (.int c2), .val (.int c3), .val (.int c4), .val (.int c5), .val (.ref x48_), .val (.int r), .unset, .val (.int c3), .unset] [(.int (0 : Int32))])
          refine own_viaH (fun _ k => XS.istore X56_.here hx rfl (hb hby at_209) rfl (l' := #[.val (.int p1), .val (.int p2), .val (.int p3), .val (.int p4), .val (.int p5), .val (.int p6), .val (.int (3 : Int32)), .val (.int c1), .val (.int c2), .val (.int c3), .val (.int c4), .val (.int c5), .val (.ref x48_), .val (.int r), .unset, .val (.int c3), .val (.int (0 : Int32))]) rfl k) ?_
          show own_FinH _ _ _ _ _ _ _ _ _ T56_ (mkF m 211 #[.val (.int p1), .val (.int p2), .val (.int p3), .val (.int p4), .val (.int p5), .val (.int p6), .val (.int (3 : Int32)), .val (.int c1), .val (.int c2), .val (.int c3), .val (.int c4), .val (.int c5), .val (.ref x48_), .val (.int r), .unset, .val (.int c3), .val (.int (0 : Int32))] [])
          exact s211 _ (Or.inr ⟨rfl, (not_or.mpr ⟨hp0, hp1⟩)⟩)
        refine own_viaH (fun _ k => XS.iload X56_.here hx rfl (hb hby at_150) rfl k) ?_
        show own_FinH _ _ _ _ _ _ _ _ _ T56_ (mkF m 152 #[.val (.int p1), .val (.int p2), .val (.int p3), .val (.int p4), .val (.int p5), .val (.int p6), .val (.int (3 : Int32)), .val (.int c1), .val (.int c2), .val (.int c3), .val (.int c4), .val (.int c5), .val (.ref x48_), .val (.int r), .unset, .val (.int c3), .unset] [(.int c2)])
        refine own_viaH (fun _ k => XS.bipush X56_.here hx rfl (hb hby at_152) k) ?_
        show own_FinH _ _ _ _ _ _ _ _ _ T56_ (mkF m 154 #[.val (.int p1), .val (.int p2), .val (.int p3), .val (.int p4), .val (.int p5), .val (.int p6), .val (.int (3 : Int32)), .val (.int c1), .val (.int c2), .val (.int c3), .val (.int c4), .val (.int c5), .val (.ref x48_), .val (.int r), .unset, .val (.int c3), .unset] [(.int (46 : Int32)), (.int c2)])
        rcases Classical.em (c2 = (46 : Int32)) with ha | ha
        · refine own_viaH (fun _ k => XS.icmpNo X56_.here hx rfl (hb hby at_154) rfl (teq ha).2 k) ?_
          show own_FinH _ _ _ _ _ _ _ _ _ T56_ (mkF m 157 #[.val (.int p1), .val (.int p2), .val (.int p3), .val (.int p4), .val (.int p5), .val (.int p6), .val (.int (3 : Int32)), .val (.int c1), .val (.int c2), .val (.int c3), .val (.int c4), .val (.int c5), .val (.ref x48_), .val (.int r), .unset, .val (.int c3), .unset] [])
          refine own_viaH (fun _ k => XS.iload X56_.here hx rfl (hb hby at_157) rfl k) ?_
          show own_FinH _ _ _ _ _ _ _ _ _ T56_ (mkF m 159 #[.val (.int p1), .val (.int p2), .val (.int p3), .val (.int p4), .val (.int p5), .val (.int p6), .val (.int (3 : Int32)), .val (.int c1), .val (.int c2), .val (.int c3), .val (.int c4), .val (.int c5), .val (.ref x48_), .val (.int r), .unset, .val (.int c3), .unset] [(.int c3)])
          refine own_viaH (fun _ k => XS.bipush X56_.here hx rfl (hb hby at_159) k) ?_
          show own_FinH _ _ _ _ _ _ _ _ _ T56_ (mkF m 161 #[.val (.int p1), .val (.int p2), .val (.int p3), .val (.int p4), .val (.int p5), .val (.int p6), .val (.int (3 : Int32)), .val (.int c1), .val (.int c2), .val (.int c3), .val (.int c4), .val (.int c5), .val (.ref x48_), .val (.int r), .unset, .val (.int c3), .unset] [(.int (46 : Int32)), (.int c3)])
          rcases Classical.em (c3 = (46 : Int32)) with hbb | hbb
          · refine own_viaH (fun _ k => XS.icmpYes X56_.here hx rfl (pc0 := 161) (pc' := 204) rfl (hb hby at_161) rfl (teq hbb).1 (by decide) (by decide) k) ?_
            show own_FinH _ _ _ _ _ _ _ _ _ T56_ (mkF m 204 #[.val (.int p1), .val (.int p2), .val (.int p3), .val (.int p4), .val (.int p5), .val (.int p6), .val (.int (3 : Int32)), .val (.int c1), .val (.int c2), .val (.int c3), .val (.int c4), .val (.int c5), .val (.ref x48_), .val (.int r), .unset, .val (.int c3), .unset] [])
            refine own_viaH (fun _ k => XS.iconst X56_.here hx rfl (hb hby at_204) k) ?_
            show own_FinH _ _ _ _ _ _ _ _ _ T56_ (mkF m 205 #[.val (.int p1), .val (.int p2), .val (.int p3), .val (.int p4), .val (.int p5), .val (.int p6), .val (.int (3 : Int32)), .val (.int c1), .val (.int c2), .val (.int c3), .val (.int c4), .val (.int c5), .val (.ref x48_), .val (.int r), .unset, .val (.int c3), .unset] [(.int (1 : Int32))])
            refine own_viaH (fun _ k => XS.goto X56_.here hx rfl (pc0 := 205) (pc' := 209) rfl (hb hby at_205) (by decide) (by decide) k) ?_
            show own_FinH _ _ _ _ _ _ _ _ _ T56_ (mkF m 209 #[.val (.int p1), .val (.int p2), .val (.int p3), .val (.int p4), .val (.int p5), .val (.int p6), .val (.int (3 : Int32)), .val (.int c1), .val (.int c2), .val (.int c3), .val (.int c4), .val (.int c5), .val (.ref x48_), .val (.int r), .unset, .val (.int c3), .unset] [(.int (1 : Int32))])
            refine own_viaH (fun _ k => XS.istore X56_.here hx rfl (hb hby at_209) rfl (l' := #[.val (.int p1), .val (.int p2), .val (.int p3), .val (.int p4), .val (.int p5), .val (.int p6), .val (.int (3 : Int32)), .val (.int c1), .val (.int c2), .val (.int c3), .val (.int c4), .val (.int c5), .val (.ref x48_), .val (.int r), .unset, .val (.int c3), .val (.int (1 : Int32))]) rfl k) ?_
            show own_FinH _ _ _ _ _ _ _ _ _ T56_ (mkF m 211 #[.val (.int p1), .val (.int p2), .val (.int p3), .val (.int p4), .val (.int p5), .val (.int p6), .val (.int (3 : Int32)), .val (.int c1), .val (.int c2), .val (.int c3), .val (.int c4), .val (.int c5), .val (.ref x48_), .val (.int r), .unset, .val (.int c3), .val (.int (1 : Int32))] [])
            exact s211 _ (Or.inl ⟨rfl, Or.inr (⟨ha, hbb⟩)⟩)
          · refine own_viaH (fun _ k => XS.icmpNo X56_.here hx rfl (hb hby at_161) rfl (feq hbb).1 k) ?_
            show own_FinH _ _ _ _ _ _ _ _ _ T56_ (mkF m 164 #[.val (.int p1), .val (.int p2), .val (.int p3), .val (.int p4), .val (.int p5), .val (.int p6), .val (.int (3 : Int32)), .val (.int c1), .val (.int c2), .val (.int c3), .val (.int c4), .val (.int c5), .val (.ref x48_), .val (.int r), .unset, .val (.int c3), .unset] [])
            exact sp1 (fun q => hbb q.2)
        · refine own_viaH (fun _ k => XS.icmpYes X56_.here hx rfl (pc0 := 154) (pc' := 164) rfl (hb hby at_154) rfl (feq ha).2 (by decide) (by decide) k) ?_
          show own_FinH _ _ _ _ _ _ _ _ _ T56_ (mkF m 164 #[.val (.int p1), .val (.int p2), .val (.int p3), .val (.int p4), .val (.int p5), .val (.int p6), .val (.int (3 : Int32)), .val (.int c1), .val (.int c2), .val (.int c3), .val (.int c4), .val (.int c5), .val (.ref x48_), .val (.int r), .unset, .val (.int c3), .unset] [])
          exact sp1 (fun q => ha q.1)
      refine own_viaH (fun _ k => XS.iload X56_.here hx rfl (hb hby at_130) rfl k) ?_
      show own_FinH _ _ _ _ _ _ _ _ _ T56_ (mkF m 132 #[.val (.int p1), .val (.int p2), .val (.int p3), .val (.int p4), .val (.int p5), .val (.int p6), .val (.int (3 : Int32)), .val (.int c1), .val (.int c2), .val (.int c3), .val (.int c4), .val (.int c5), .val (.ref x48_), .val (.int r), .unset, .val (.int c3), .unset] [(.int c1)])
      refine own_viaH (fun _ k => XS.bipush X56_.here hx rfl (hb hby at_132) k) ?_
      show own_FinH _ _ _ _ _ _ _ _ _ T56_ (mkF m 134 #[.val (.int p1), .val (.int p2), .val (.int p3), .val (.int p4), .val (.int p5), .val (.int p6), .val (.int (3 : Int32)), .val (.int c1), .val (.int c2), .val (.int c3), .val (.int c4), .val (.int c5), .val (.ref x48_), .val (.int r), .unset, .val (.int c3), .unset] [(.int (46 : Int32)), (.int c1)])
      rcases Classical.em (c1 = (46 : Int32)) with ha | ha
      · refine own_viaH (fun _ k => XS.icmpNo X56_.here hx rfl (hb hby at_134) rfl (teq ha).2 k) ?_
        show own_FinH _ _ _ _ _ _ _ _ _ T56_ (mkF m 137 #[.val (.int p1), .val (.int p2), .val (.int p3), .val (.int p4), .val (.int p5), .val (.int p6), .val (.int (3 : Int32)), .val (.int c1), .val (.int c2), .val (.int c3), .val (.int c4), .val (.int c5), .val (.ref x48_), .val (.int r), .unset, .val (.int c3), .unset] [])
        refine own_viaH (fun _ k => XS.iload X56_.here hx rfl (hb hby at_137) rfl k) ?_
        show own_FinH _ _ _ _ _ _ _ _ _ T56_ (mkF m 139 #[.val (.int p1), .val (.int p2), .val (.int p3), .val (.int p4), .val (.int p5), .val (.int p6), .val (.int (3 : Int32)), .val (.int c1), .val (.int c2), .val (.int c3), .val (.int c4), .val (.int c5), .val (.ref x48_), .val (.int r), .unset, .val (.int c3), .unset] [(.int c2)])
        refine own_viaH (fun _ k => XS.bipush X56_.here hx rfl (hb hby at_139) k) ?_
        show own_FinH _ _ _ _ _ _ _ _ _ T56_ (mkF m 141 #[.val (.int p1), .val (.int p2), .val (.int p3), .val (.int p4), .val (.int p5), .val (.int p6), .val (.int (3 : Int32)), .val (.int c1), .val (.int c2), .val (.int c3), .val (.int c4), .val (.int c5), .val (.ref x48_), .val (.int r), .unset, .val (.int c3), .unset] [(.int (46 : Int32)), (.int c2)])
        rcases Classical.em (c2 = (46 : Int32)) with hbb | hbb
        · refine own_viaH (fun _ k => XS.icmpYes X56_.here hx rfl (pc0 := 141) (pc' := 204) rfl (hb hby at_141) rfl (teq hbb).1 (by decide) (by decide) k) ?_
          show own_FinH _ _ _ _ _ _ _ _ _ T56_ (mkF m 204 #[.val (.int p1), .val (.int p2), .val (.int p3), .val (.int p4), .val (.int p5), .val (.int p6), .val (.int (3 : Int32)), .val (.int c1), .val (.int c2), .val (.int c3), .val (.int c4), .val (.int c5), .val (.ref x48_), .val (.int r), .unset, .val (.int c3), .unset] [])
          refine own_viaH (fun _ k => XS.iconst X56_.here hx rfl (hb hby at_204) k) ?_
          show own_FinH _ _ _ _ _ _ _ _ _ T56_ (mkF m 205 #[.val (.int p1), .val (.int p2), .val (.int p3), .val (.int p4), .val (.int p5), .val (.int p6), .val (.int (3 : Int32)), .val (.int c1), .val (.int c2), .val (.int c3), .val (.int c4), .val (.int c5), .val (.ref x48_), .val (.int r), .unset, .val (.int c3), .unset] [(.int (1 : Int32))])
          refine own_viaH (fun _ k => XS.goto X56_.here hx rfl (pc0 := 205) (pc' := 209) rfl (hb hby at_205) (by decide) (by decide) k) ?_
          show own_FinH _ _ _ _ _ _ _ _ _ T56_ (mkF m 209 #[.val (.int p1), .val (.int p2), .val (.int p3), .val (.int p4), .val (.int p5), .val (.int p6), .val (.int (3 : Int32)), .val (.int c1), .val (.int c2), .val (.int c3), .val (.int c4), .val (.int c5), .val (.ref x48_), .val (.int r), .unset, .val (.int c3), .unset] [(.int (1 : Int32))])
          refine own_viaH (fun _ k => XS.istore X56_.here hx rfl (hb hby at_209) rfl (l' := #[.val (.int p1), .val (.int p2), .val (.int p3), .val (.int p4), .val (.int p5), .val (.int p6), .val (.int (3 : Int32)), .val (.int c1), .val (.int c2), .val (.int c3), .val (.int c4), .val (.int c5), .val (.ref x48_), .val (.int r), .unset, .val (.int c3), .val (.int (1 : Int32))]) rfl k) ?_
          show own_FinH _ _ _ _ _ _ _ _ _ T56_ (mkF m 211 #[.val (.int p1), .val (.int p2), .val (.int p3), .val (.int p4), .val (.int p5), .val (.int p6), .val (.int (3 : Int32)), .val (.int c1), .val (.int c2), .val (.int c3), .val (.int c4), .val (.int c5), .val (.ref x48_), .val (.int r), .unset, .val (.int c3), .val (.int (1 : Int32))] [])
          exact s211 _ (Or.inl ⟨rfl, Or.inl (⟨ha, hbb⟩)⟩)
        · refine own_viaH (fun _ k => XS.icmpNo X56_.here hx rfl (hb hby at_141) rfl (feq hbb).1 k) ?_
          show own_FinH _ _ _ _ _ _ _ _ _ T56_ (mkF m 144 #[.val (.int p1), .val (.int p2), .val (.int p3), .val (.int p4), .val (.int p5), .val (.int p6), .val (.int (3 : Int32)), .val (.int c1), .val (.int c2), .val (.int c3), .val (.int c4), .val (.int c5), .val (.ref x48_), .val (.int r), .unset, .val (.int c3), .unset] [])
          exact sp0 (fun q => hbb q.2)
      · refine own_viaH (fun _ k => XS.icmpYes X56_.here hx rfl (pc0 := 134) (pc' := 144) rfl (hb hby at_134) rfl (feq ha).2 (by decide) (by decide) k) ?_
        show own_FinH _ _ _ _ _ _ _ _ _ T56_ (mkF m 144 #[.val (.int p1), .val (.int p2), .val (.int p3), .val (.int p4), .val (.int p5), .val (.int p6), .val (.int (3 : Int32)), .val (.int c1), .val (.int c2), .val (.int c3), .val (.int c4), .val (.int c5), .val (.ref x48_), .val (.int r), .unset, .val (.int c3), .unset] [])
        exact sp0 (fun q => ha q.1)
    · show own_FinH _ _ _ _ _ _ _ _ _ T5_ (mkF m 41 #[.val (.int p1), .val (.int p2), .val (.int p3), .val (.int p4), .val (.int p5), .val (.int p6), .val (.int (4 : Int32)), .val (.int c1), .val (.int c2), .val (.int c3), .val (.int c4), .val (.int c5), .unset, .unset, .unset, .unset, .unset] [])
      refine own_viaH (fun _ k => XS.iload X5_.here hx rfl (hb hby at_41) rfl k) ?_
      show own_FinH _ _ _ _ _ _ _ _ _ T5_ (mkF m 43 #[.val (.int p1), .val (.int p2), .val (.int p3), .val (.int p4), .val (.int p5), .val (.int p6), .val (.int (4 : Int32)), .val (.int c1), .val (.int c2), .val (.int c3), .val (.int c4), .val (.int c5), .unset, .unset, .unset, .unset, .unset] [(.int (4 : Int32))])
      refine own_viaH (fun _ k => XS.iload X5_.here hx rfl (hb hby at_43) rfl k) ?_
      show own_FinH _ _ _ _ _ _ _ _ _ T5_ (mkF m 45 #[.val (.int p1), .val (.int p2), .val (.int p3), .val (.int p4), .val (.int p5), .val (.int p6), .val (.int (4 : Int32)), .val (.int c1), .val (.int c2), .val (.int c3), .val (.int c4), .val (.int c5), .unset, .unset, .unset, .unset, .unset] [(.int c1), (.int (4 : Int32))])
      refine own_viaH (fun _ k => XS.iload X5_.here hx rfl (hb hby at_45) rfl k) ?_
      show own_FinH _ _ _ _ _ _ _ _ _ T5_ (mkF m 47 #[.val (.int p1), .val (.int p2), .val (.int p3), .val (.int p4), .val (.int p5), .val (.int p6), .val (.int (4 : Int32)), .val (.int c1), .val (.int c2), .val (.int c3), .val (.int c4), .val (.int c5), .unset, .unset, .unset, .unset, .unset] [(.int c2), (.int c1), (.int (4 : Int32))])
      refine own_viaH (fun _ k => XS.iload X5_.here hx rfl (hb hby at_47) rfl k) ?_
      show own_FinH _ _ _ _ _ _ _ _ _ T5_ (mkF m 49 #[.val (.int p1), .val (.int p2), .val (.int p3), .val (.int p4), .val (.int p5), .val (.int p6), .val (.int (4 : Int32)), .val (.int c1), .val (.int c2), .val (.int c3), .val (.int c4), .val (.int c5), .unset, .unset, .unset, .unset, .unset] [(.int c3), (.int c2), (.int c1), (.int (4 : Int32))])
      refine own_viaH (fun _ k => XS.iload X5_.here hx rfl (hb hby at_49) rfl k) ?_
      show own_FinH _ _ _ _ _ _ _ _ _ T5_ (mkF m 51 #[.val (.int p1), .val (.int p2), .val (.int p3), .val (.int p4), .val (.int p5), .val (.int p6), .val (.int (4 : Int32)), .val (.int c1), .val (.int c2), .val (.int c3), .val (.int c4), .val (.int c5), .unset, .unset, .unset, .unset, .unset] [(.int c4), (.int c3), (.int c2), (.int c1), (.int (4 : Int32))])
      refine own_viaH (fun _ k => XS.iload X5_.here hx rfl (hb hby at_51) rfl k) ?_
      show own_FinH _ _ _ _ _ _ _ _ _ T5_ (mkF m 53 #[.val (.int p1), .val (.int p2), .val (.int p3), .val (.int p4), .val (.int p5), .val (.int p6), .val (.int (4 : Int32)), .val (.int c1), .val (.int c2), .val (.int c3), .val (.int c4), .val (.int c5), .unset, .unset, .unset, .unset, .unset] [(.int c5), (.int c4), (.int c3), (.int c2), (.int c1), (.int (4 : Int32))])
      obtain ⟨_, _, ⟨T62_, L62_, k62_, n62_⟩, -, X62_, ⟨Lc62_, hQ62_, l62_, y62_, z62_⟩, st62_⟩ := Jvm.LawKit.callS X5_ hx (y := (⟨"com/example/dependency_container/dependencycontainer/BeanDefinitionIsPropertyPathPinLaw", "make", "(ICCCCC)Ljava/lang/String;"⟩ : MethodName)) hown (mvT hZ (hw _ (List.mem_of_getElem? (i := 4) rfl))) (mvT hZ (hw _ (List.mem_of_getElem? (i := 5) rfl))) (mvT hZ (hw _ (List.mem_of_getElem? (i := 2) rfl))) (mvT hZ (hw _ (List.mem_of_getElem? (i := 6) rfl))) (by decide) (backOf (W := 0) (own_rm_make4 l Z a0 hw [] c1 c2 c3 c4 c5 cz h0 n0 Z0 O0 S1 (by first | assumption | decide) (by first | assumption | decide) (by first | assumption | decide) (by first | assumption | decide) (by first | assumption | decide) (by first | assumption | decide)) hZ (hw _ (List.mem_of_getElem? (i := 6) rfl)) (hw _ (List.mem_of_getElem? (i := 2) rfl)) (by decide) (by decide)) (g := (mkF m 53 #[.val (.int p1), .val (.int p2), .val (.int p3), .val (.int p4), .val (.int p5), .val (.int p6), .val (.int (4 : Int32)), .val (.int c1), .val (.int c2), .val (.int c3), .val (.int c4), .val (.int c5), .unset, .unset, .unset, .unset, .unset] [(.int c5), (.int c4), (.int c3), (.int c2), (.int c1), (.int (4 : Int32))])) rfl (by rw [hml]; rfl) (argsL := [(.int (4 : Int32)), (.int c1), (.int c2), (.int c3), (.int c4), (.int c5)]) (rest := []) (lenOf own_pd18 rfl) rfl (by show 2 * 0 + _ ≤ _; exact Nat.le_of_eq rfl) (hb hby at_53) (fun _ _ => ⟨rfl, hh5_, (by decide : 0 + 0 + 0 + 0 + 0 + 0 + 3 ≤ _), (by decide : 0 + 0 + 0 + 0 + 0 + 0 + 12 ≤ _)⟩)
      dsimp only [Pt.U, Pt.locs, Pt.cells, Pt.slots] at X62_ l62_ y62_ z62_ st62_ hQ62_
      subst l62_ y62_ z62_
      obtain ⟨x63_, t64_, kt65_, rfl, Nq62_, K62_, r66_, r67_, r68_, r69_, r70_⟩ := hQ62_
      have N62_ := Fr.app N5_ Nq62_
      refine own_viaH (fun _ k => st62_ _ k) ?_
      show own_FinH _ _ _ _ _ _ _ _ _ T62_ (mkF m 56 #[.val (.int p1), .val (.int p2), .val (.int p3), .val (.int p4), .val (.int p5), .val (.int p6), .val (.int (4 : Int32)), .val (.int c1), .val (.int c2), .val (.int c3), .val (.int c4), .val (.int c5), .unset, .unset, .unset, .unset, .unset] [(.ref x63_)])
      refine own_viaH (fun _ k => XS.astore X62_.here hx rfl (hb hby at_56) rfl rfl (l' := #[.val (.int p1), .val (.int p2), .val (.int p3), .val (.int p4), .val (.int p5), .val (.int p6), .val (.int (4 : Int32)), .val (.int c1), .val (.int c2), .val (.int c3), .val (.int c4), .val (.int c5), .val (.ref x63_), .unset, .unset, .unset, .unset]) rfl k) ?_
      show own_FinH _ _ _ _ _ _ _ _ _ T62_ (mkF m 58 #[.val (.int p1), .val (.int p2), .val (.int p3), .val (.int p4), .val (.int p5), .val (.int p6), .val (.int (4 : Int32)), .val (.int c1), .val (.int c2), .val (.int c3), .val (.int c4), .val (.int c5), .val (.ref x63_), .unset, .unset, .unset, .unset] [])
      refine own_viaH (fun _ k => XS.aload X62_.here hx rfl (hb hby at_58) rfl rfl k) ?_
      show own_FinH _ _ _ _ _ _ _ _ _ T62_ (mkF m 60 #[.val (.int p1), .val (.int p2), .val (.int p3), .val (.int p4), .val (.int p5), .val (.int p6), .val (.int (4 : Int32)), .val (.int c1), .val (.int c2), .val (.int c3), .val (.int c4), .val (.int c5), .val (.ref x63_), .unset, .unset, .unset, .unset] [(.ref x63_)])
      have C72_ := C0.trans (CHr.keep K62_ sf0 H0)
      have H72_ := C72_.1
      obtain ⟨_, _, ⟨T71_, L71_, k71_, n71_⟩, -, Y71_, hSq71_, hgq71_, ⟨Lc71_, hQ71_, l71_, y71_, z71_, Cq71_⟩, st71_⟩ := callSS X62_ hx (y := (⟨"com/example/dependency_container/dependencycontainer/BeanDefinition", "isPropertyPath", "(Ljava/lang/String;)Z"⟩ : MethodName)) hown (mvT hZ (hw _ (List.mem_of_getElem? (i := 29) rfl))) (mvT hZ (hw _ (List.mem_of_getElem? (i := 30) rfl))) (mvT hZ (hw _ (List.mem_of_getElem? (i := 31) rfl))) (mvT hZ (hw _ (List.mem_of_getElem? (i := 32) rfl))) (by decide) (backOfSH (s := s) (vm0 := s.vm) (W := 0) (own_rm_ipp l Z a0 hw [] x63_ cz t64_ kt65_ (4 : Int32) ([c1.toInt8.toInt32, c2.toInt8.toInt32, c3.toInt8.toInt32, c4.toInt8.toInt32]) 4 fm T62_.heap n0 (Nat.le_trans Z0 K62_.1) (O0.keep K62_ all0) S1 (by first | assumption | decide) r67_ r68_ r69_ r70_ S2 r_fm rfl (by decide) (by decide) (own_bytes [c1, c2, c3, c4])) hZ (hw _ (List.mem_of_getElem? (i := 32) rfl)) (hw _ (List.mem_of_getElem? (i := 31) rfl)) (by decide) (by decide) (own_ew hw) H72_) (g := (mkF m 60 #[.val (.int p1), .val (.int p2), .val (.int p3), .val (.int p4), .val (.int p5), .val (.int p6), .val (.int (4 : Int32)), .val (.int c1), .val (.int c2), .val (.int c3), .val (.int c4), .val (.int c5), .val (.ref x63_), .unset, .unset, .unset, .unset] [(.ref x63_)])) rfl (by rw [hml]; rfl) (argsL := [(.ref x63_)]) (rest := []) (lenOf own_pd19 rfl) rfl (by show 2 * 0 + _ ≤ _; exact Nat.le_of_eq rfl) (hb hby at_60) (fun _ _ => ⟨rfl, rfl, (by decide : 0 + 0 + 0 + 0 + 0 + 0 + 3 + 2 ≤ _), (by decide : 0 + 0 + 0 + 0 + 0 + 0 + 12 + 12 ≤ _)⟩)
      dsimp only [Pt.U, Pt.locs, Pt.cells, Pt.slots] at Y71_ l71_ y71_ z71_ st71_ hQ71_ hSq71_ hgq71_ Cq71_
      subst l71_ y71_ z71_
      obtain ⟨X71_, hS71_, hZ71_, hown71_⟩ := rebS hS0 ((Nat.le_trans hk0 K62_.1)) Y71_ hSq71_ hgq71_ hZ hown
      obtain ⟨r, rfl, Nq71_, K71_, hr⟩ := hQ71_
      have N71_ := Fr.app N62_ Nq71_
      refine own_viaH (fun _ k => st71_.trans k) ?_
      show own_FinH _ _ _ _ _ _ _ _ _ T71_ (mkF m 63 #[.val (.int p1), .val (.int p2), .val (.int p3), .val (.int p4), .val (.int p5), .val (.int p6), .val (.int (4 : Int32)), .val (.int c1), .val (.int c2), .val (.int c3), .val (.int c4), .val (.int c5), .val (.ref x63_), .unset, .unset, .unset, .unset] [(.int r)])
      have G := own_good_4 hc1 hc2 hc3 hc4
      refine own_viaH (fun _ k => XS.istore X71_.here hx rfl (hb hby at_63) rfl (l' := #[.val (.int p1), .val (.int p2), .val (.int p3), .val (.int p4), .val (.int p5), .val (.int p6), .val (.int (4 : Int32)), .val (.int c1), .val (.int c2), .val (.int c3), .val (.int c4), .val (.int c5), .val (.ref x63_), .val (.int r), .unset, .unset, .unset]) rfl k) ?_
      show own_FinH _ _ _ _ _ _ _ _ _ T71_ (mkF m 65 #[.val (.int p1), .val (.int p2), .val (.int p3), .val (.int p4), .val (.int p5), .val (.int p6), .val (.int (4 : Int32)), .val (.int c1), .val (.int c2), .val (.int c3), .val (.int c4), .val (.int c5), .val (.ref x63_), .val (.int r), .unset, .unset, .unset] [])
      refine own_viaH (fun _ k => XS.iload X71_.here hx rfl (hb hby at_65) rfl k) ?_
      show own_FinH _ _ _ _ _ _ _ _ _ T71_ (mkF m 67 #[.val (.int p1), .val (.int p2), .val (.int p3), .val (.int p4), .val (.int p5), .val (.int p6), .val (.int (4 : Int32)), .val (.int c1), .val (.int c2), .val (.int c3), .val (.int c4), .val (.int c5), .val (.ref x63_), .val (.int r), .unset, .unset, .unset] [(.int (4 : Int32))])
      refine own_viaH (fun _ k => XS.ifYes X71_.here hx rfl (pc0 := 67) (pc' := 76) rfl (hb hby at_67) rfl ((if0 _ _).trans (feq (by decide)).2) (by decide) (by decide) k) ?_
      show own_FinH _ _ _ _ _ _ _ _ _ T71_ (mkF m 76 #[.val (.int p1), .val (.int p2), .val (.int p3), .val (.int p4), .val (.int p5), .val (.int p6), .val (.int (4 : Int32)), .val (.int c1), .val (.int c2), .val (.int c3), .val (.int c4), .val (.int c5), .val (.ref x63_), .val (.int r), .unset, .unset, .unset] [])
      refine own_viaH (fun _ k => XS.iload X71_.here hx rfl (hb hby at_76) rfl k) ?_
      show own_FinH _ _ _ _ _ _ _ _ _ T71_ (mkF m 78 #[.val (.int p1), .val (.int p2), .val (.int p3), .val (.int p4), .val (.int p5), .val (.int p6), .val (.int (4 : Int32)), .val (.int c1), .val (.int c2), .val (.int c3), .val (.int c4), .val (.int c5), .val (.ref x63_), .val (.int r), .unset, .unset, .unset] [(.int (4 : Int32))])
      refine own_viaH (fun _ k => XS.iconst X71_.here hx rfl (hb hby at_78) k) ?_
      show own_FinH _ _ _ _ _ _ _ _ _ T71_ (mkF m 79 #[.val (.int p1), .val (.int p2), .val (.int p3), .val (.int p4), .val (.int p5), .val (.int p6), .val (.int (4 : Int32)), .val (.int c1), .val (.int c2), .val (.int c3), .val (.int c4), .val (.int c5), .val (.ref x63_), .val (.int r), .unset, .unset, .unset] [(.int (1 : Int32)), (.int (4 : Int32))])
      refine own_viaH (fun _ k => XS.icmpYes X71_.here hx rfl (pc0 := 79) (pc' := 87) rfl (hb hby at_79) rfl (feq (by decide)).2 (by decide) (by decide) k) ?_
      show own_FinH _ _ _ _ _ _ _ _ _ T71_ (mkF m 87 #[.val (.int p1), .val (.int p2), .val (.int p3), .val (.int p4), .val (.int p5), .val (.int p6), .val (.int (4 : Int32)), .val (.int c1), .val (.int c2), .val (.int c3), .val (.int c4), .val (.int c5), .val (.ref x63_), .val (.int r), .unset, .unset, .unset] [])
      refine own_viaH (fun _ k => XS.iload X71_.here hx rfl (hb hby at_87) rfl k) ?_
      show own_FinH _ _ _ _ _ _ _ _ _ T71_ (mkF m 89 #[.val (.int p1), .val (.int p2), .val (.int p3), .val (.int p4), .val (.int p5), .val (.int p6), .val (.int (4 : Int32)), .val (.int c1), .val (.int c2), .val (.int c3), .val (.int c4), .val (.int c5), .val (.ref x63_), .val (.int r), .unset, .unset, .unset] [(.int (4 : Int32))])
      refine own_viaH (fun _ k => XS.iconst X71_.here hx rfl (hb hby at_89) k) ?_
      show own_FinH _ _ _ _ _ _ _ _ _ T71_ (mkF m 90 #[.val (.int p1), .val (.int p2), .val (.int p3), .val (.int p4), .val (.int p5), .val (.int p6), .val (.int (4 : Int32)), .val (.int c1), .val (.int c2), .val (.int c3), .val (.int c4), .val (.int c5), .val (.ref x63_), .val (.int r), .unset, .unset, .unset] [(.int (2 : Int32)), (.int (4 : Int32))])
      refine own_viaH (fun _ k => XS.icmpYes X71_.here hx rfl (pc0 := 90) (pc' := 98) rfl (hb hby at_90) rfl (feq (by decide)).2 (by decide) (by decide) k) ?_
      show own_FinH _ _ _ _ _ _ _ _ _ T71_ (mkF m 98 #[.val (.int p1), .val (.int p2), .val (.int p3), .val (.int p4), .val (.int p5), .val (.int p6), .val (.int (4 : Int32)), .val (.int c1), .val (.int c2), .val (.int c3), .val (.int c4), .val (.int c5), .val (.ref x63_), .val (.int r), .unset, .unset, .unset] [])
      refine own_viaH (fun _ k => XS.iload X71_.here hx rfl (hb hby at_98) rfl k) ?_
      show own_FinH _ _ _ _ _ _ _ _ _ T71_ (mkF m 100 #[.val (.int p1), .val (.int p2), .val (.int p3), .val (.int p4), .val (.int p5), .val (.int p6), .val (.int (4 : Int32)), .val (.int c1), .val (.int c2), .val (.int c3), .val (.int c4), .val (.int c5), .val (.ref x63_), .val (.int r), .unset, .unset, .unset] [(.int (4 : Int32))])
      refine own_viaH (fun _ k => XS.iconst X71_.here hx rfl (hb hby at_100) k) ?_
      show own_FinH _ _ _ _ _ _ _ _ _ T71_ (mkF m 101 #[.val (.int p1), .val (.int p2), .val (.int p3), .val (.int p4), .val (.int p5), .val (.int p6), .val (.int (4 : Int32)), .val (.int c1), .val (.int c2), .val (.int c3), .val (.int c4), .val (.int c5), .val (.ref x63_), .val (.int r), .unset, .unset, .unset] [(.int (3 : Int32)), (.int (4 : Int32))])
      refine own_viaH (fun _ k => XS.icmpYes X71_.here hx rfl (pc0 := 101) (pc' := 109) rfl (hb hby at_101) rfl (feq (by decide)).2 (by decide) (by decide) k) ?_
      show own_FinH _ _ _ _ _ _ _ _ _ T71_ (mkF m 109 #[.val (.int p1), .val (.int p2), .val (.int p3), .val (.int p4), .val (.int p5), .val (.int p6), .val (.int (4 : Int32)), .val (.int c1), .val (.int c2), .val (.int c3), .val (.int c4), .val (.int c5), .val (.ref x63_), .val (.int r), .unset, .unset, .unset] [])
      refine own_viaH (fun _ k => XS.iload X71_.here hx rfl (hb hby at_109) rfl k) ?_
      show own_FinH _ _ _ _ _ _ _ _ _ T71_ (mkF m 111 #[.val (.int p1), .val (.int p2), .val (.int p3), .val (.int p4), .val (.int p5), .val (.int p6), .val (.int (4 : Int32)), .val (.int c1), .val (.int c2), .val (.int c3), .val (.int c4), .val (.int c5), .val (.ref x63_), .val (.int r), .unset, .unset, .unset] [(.int (4 : Int32))])
      refine own_viaH (fun _ k => XS.iconst X71_.here hx rfl (hb hby at_111) k) ?_
      show own_FinH _ _ _ _ _ _ _ _ _ T71_ (mkF m 112 #[.val (.int p1), .val (.int p2), .val (.int p3), .val (.int p4), .val (.int p5), .val (.int p6), .val (.int (4 : Int32)), .val (.int c1), .val (.int c2), .val (.int c3), .val (.int c4), .val (.int c5), .val (.ref x63_), .val (.int r), .unset, .unset, .unset] [(.int (4 : Int32)), (.int (4 : Int32))])
      refine own_viaH (fun _ k => XS.icmpNo X71_.here hx rfl (hb hby at_112) rfl (teq rfl).2 k) ?_
      show own_FinH _ _ _ _ _ _ _ _ _ T71_ (mkF m 115 #[.val (.int p1), .val (.int p2), .val (.int p3), .val (.int p4), .val (.int p5), .val (.int p6), .val (.int (4 : Int32)), .val (.int c1), .val (.int c2), .val (.int c3), .val (.int c4), .val (.int c5), .val (.ref x63_), .val (.int r), .unset, .unset, .unset] [])
      refine own_viaH (fun _ k => XS.iload X71_.here hx rfl (hb hby at_115) rfl k) ?_
      show own_FinH _ _ _ _ _ _ _ _ _ T71_ (mkF m 117 #[.val (.int p1), .val (.int p2), .val (.int p3), .val (.int p4), .val (.int p5), .val (.int p6), .val (.int (4 : Int32)), .val (.int c1), .val (.int c2), .val (.int c3), .val (.int c4), .val (.int c5), .val (.ref x63_), .val (.int r), .unset, .unset, .unset] [(.int c4)])
      refine own_viaH (fun _ k => XS.goto X71_.here hx rfl (pc0 := 117) (pc' := 122) rfl (hb hby at_117) (by decide) (by decide) k) ?_
      show own_FinH _ _ _ _ _ _ _ _ _ T71_ (mkF m 122 #[.val (.int p1), .val (.int p2), .val (.int p3), .val (.int p4), .val (.int p5), .val (.int p6), .val (.int (4 : Int32)), .val (.int c1), .val (.int c2), .val (.int c3), .val (.int c4), .val (.int c5), .val (.ref x63_), .val (.int r), .unset, .unset, .unset] [(.int c4)])
      refine own_viaH (fun _ k => XS.istore X71_.here hx rfl (hb hby at_122) rfl (l' := #[.val (.int p1), .val (.int p2), .val (.int p3), .val (.int p4), .val (.int p5), .val (.int p6), .val (.int (4 : Int32)), .val (.int c1), .val (.int c2), .val (.int c3), .val (.int c4), .val (.int c5), .val (.ref x63_), .val (.int r), .unset, .val (.int c4), .unset]) rfl k) ?_
      show own_FinH _ _ _ _ _ _ _ _ _ T71_ (mkF m 124 #[.val (.int p1), .val (.int p2), .val (.int p3), .val (.int p4), .val (.int p5), .val (.int p6), .val (.int (4 : Int32)), .val (.int c1), .val (.int c2), .val (.int c3), .val (.int c4), .val (.int c5), .val (.ref x63_), .val (.int r), .unset, .val (.int c4), .unset] [])
      have s211 : ∀ (dd : Int32) (hdd : (dd = (1 : Int32) ∧ ((c1 = (46 : Int32) ∧ c2 = (46 : Int32)) ∨ (c2 = (46 : Int32) ∧ c3 = (46 : Int32)) ∨ (c3 = (46 : Int32) ∧ c4 = (46 : Int32)))) ∨ (dd = (0 : Int32) ∧ ¬ ((c1 = (46 : Int32) ∧ c2 = (46 : Int32)) ∨ (c2 = (46 : Int32) ∧ c3 = (46 : Int32)) ∨ (c3 = (46 : Int32) ∧ c4 = (46 : Int32))))), own_FinH p e s below Z own_EL (own_Q_law Z p1 p2 p3 p4 p5 p6 cz fm h0 n0) room_1.cells room_1.slots T71_ (mkF m 211 #[.val (.int p1), .val (.int p2), .val (.int p3), .val (.int p4), .val (.int p5), .val (.int p6), .val (.int (4 : Int32)), .val (.int c1), .val (.int c2), .val (.int c3), .val (.int c4), .val (.int c5), .val (.ref x63_), .val (.int r), .unset, .val (.int c4), .val (.int dd)] []) := by
        intro dd hdd
        refine own_viaH (fun _ k => XS.iload X71_.here hx rfl (hb hby at_211) rfl k) ?_
        show own_FinH _ _ _ _ _ _ _ _ _ T71_ (mkF m 213 #[.val (.int p1), .val (.int p2), .val (.int p3), .val (.int p4), .val (.int p5), .val (.int p6), .val (.int (4 : Int32)), .val (.int c1), .val (.int c2), .val (.int c3), .val (.int c4), .val (.int c5), .val (.ref x63_), .val (.int r), .unset, .val (.int c4), .val (.int dd)] [(.int c1)])
        refine own_viaH (fun _ k => XS.bipush X71_.here hx rfl (hb hby at_213) k) ?_
        show own_FinH _ _ _ _ _ _ _ _ _ T71_ (mkF m 215 #[.val (.int p1), .val (.int p2), .val (.int p3), .val (.int p4), .val (.int p5), .val (.int p6), .val (.int (4 : Int32)), .val (.int c1), .val (.int c2), .val (.int c3), .val (.int c4), .val (.int c5), .val (.ref x63_), .val (.int r), .unset, .val (.int c4), .val (.int dd)] [(.int (46 : Int32)), (.int c1)])
        rcases Classical.em (c1 = (46 : Int32)) with hA | hA
        · refine own_viaH (fun _ k => XS.icmpYes X71_.here hx rfl (pc0 := 215) (pc' := 234) rfl (hb hby at_215) rfl (teq hA).1 (by decide) (by decide) k) ?_
          show own_FinH _ _ _ _ _ _ _ _ _ T71_ (mkF m 234 #[.val (.int p1), .val (.int p2), .val (.int p3), .val (.int p4), .val (.int p5), .val (.int p6), .val (.int (4 : Int32)), .val (.int c1), .val (.int c2), .val (.int c3), .val (.int c4), .val (.int c5), .val (.ref x63_), .val (.int r), .unset, .val (.int c4), .val (.int dd)] [])
          refine own_viaH (fun _ k => XS.iconst X71_.here hx rfl (hb hby at_234) k) ?_
          show own_FinH _ _ _ _ _ _ _ _ _ T71_ (mkF m 235 #[.val (.int p1), .val (.int p2), .val (.int p3), .val (.int p4), .val (.int p5), .val (.int p6), .val (.int (4 : Int32)), .val (.int c1), .val (.int c2), .val (.int c3), .val (.int c4), .val (.int c5), .val (.ref x63_), .val (.int r), .unset, .val (.int c4), .val (.int dd)] [(.int (0 : Int32))])
          refine own_viaH (fun _ k => XS.istore X71_.here hx rfl (hb hby at_235) rfl (l' := #[.val (.int p1), .val (.int p2), .val (.int p3), .val (.int p4), .val (.int p5), .val (.int p6), .val (.int (4 : Int32)), .val (.int c1), .val (.int c2), .val (.int c3), .val (.int c4), .val (.int c5), .val (.ref x63_), .val (.int r), .val (.int (0 : Int32)), .val (.int c4), .val (.int dd)]) rfl k) ?_
          show own_FinH _ _ _ _ _ _ _ _ _ T71_ (mkF m 237 #[.val (.int p1), .val (.int p2), .val (.int p3), .val (.int p4), .val (.int p5), .val (.int p6), .val (.int (4 : Int32)), .val (.int c1), .val (.int c2), .val (.int c3), .val (.int c4), .val (.int c5), .val (.ref x63_), .val (.int r), .val (.int (0 : Int32)), .val (.int c4), .val (.int dd)] [])
          refine own_viaH (fun _ k => XS.iload X71_.here hx rfl (hb hby at_237) rfl k) ?_
          show own_FinH _ _ _ _ _ _ _ _ _ T71_ (mkF m 239 #[.val (.int p1), .val (.int p2), .val (.int p3), .val (.int p4), .val (.int p5), .val (.int p6), .val (.int (4 : Int32)), .val (.int c1), .val (.int c2), .val (.int c3), .val (.int c4), .val (.int c5), .val (.ref x63_), .val (.int r), .val (.int (0 : Int32)), .val (.int c4), .val (.int dd)] [(.int r)])
          refine own_viaH (fun _ k => XS.iload X71_.here hx rfl (hb hby at_239) rfl k) ?_
          show own_FinH _ _ _ _ _ _ _ _ _ T71_ (mkF m 241 #[.val (.int p1), .val (.int p2), .val (.int p3), .val (.int p4), .val (.int p5), .val (.int p6), .val (.int (4 : Int32)), .val (.int c1), .val (.int c2), .val (.int c3), .val (.int c4), .val (.int c5), .val (.ref x63_), .val (.int r), .val (.int (0 : Int32)), .val (.int c4), .val (.int dd)] [(.int (0 : Int32)), (.int r)])
          refine own_viaH (fun _ k => XS.icmpNo X71_.here hx rfl (hb hby at_241) rfl (teq (hr.elim (fun q => absurd hA (G.mp q.2).1) (fun q => q.1))).2 k) ?_
          show own_FinH _ _ _ _ _ _ _ _ _ T71_ (mkF m 244 #[.val (.int p1), .val (.int p2), .val (.int p3), .val (.int p4), .val (.int p5), .val (.int p6), .val (.int (4 : Int32)), .val (.int c1), .val (.int c2), .val (.int c3), .val (.int c4), .val (.int c5), .val (.ref x63_), .val (.int r), .val (.int (0 : Int32)), .val (.int c4), .val (.int dd)] [])
          refine own_viaH (fun _ k => XS.iconst X71_.here hx rfl (hb hby at_244) k) ?_
          show own_FinH _ _ _ _ _ _ _ _ _ T71_ (mkF m 245 #[.val (.int p1), .val (.int p2), .val (.int p3), .val (.int p4), .val (.int p5), .val (.int p6), .val (.int (4 : Int32)), .val (.int c1), .val (.int c2), .val (.int c3), .val (.int c4), .val (.int c5), .val (.ref x63_), .val (.int r), .val (.int (0 : Int32)), .val (.int c4), .val (.int dd)] [(.int (1 : Int32))])
          refine own_viaH (fun _ k => XS.goto X71_.here hx rfl (pc0 := 245) (pc' := 249) rfl (hb hby at_245) (by decide) (by decide) k) ?_
          show own_FinH _ _ _ _ _ _ _ _ _ T71_ (mkF m 249 #[.val (.int p1), .val (.int p2), .val (.int p3), .val (.int p4), .val (.int p5), .val (.int p6), .val (.int (4 : Int32)), .val (.int c1), .val (.int c2), .val (.int c3), .val (.int c4), .val (.int c5), .val (.ref x63_), .val (.int r), .val (.int (0 : Int32)), .val (.int c4), .val (.int dd)] [(.int (1 : Int32))])
          have C73_ := C72_.trans Cq71_
          have H73_ := C73_.1
          exact own_retNH X71_ hx (t := .boolean) Bd.returns Bd.notSynchronized (own_ew hw) hZ71_ hS71_ (Nat.le_refl _) hh C73_ (by simp) (hb hby at_249) rfl rfl ⟨rfl, N71_⟩ (by decide) (by decide)
        · refine own_viaH (fun _ k => XS.icmpNo X71_.here hx rfl (hb hby at_215) rfl (feq hA).1 k) ?_
          show own_FinH _ _ _ _ _ _ _ _ _ T71_ (mkF m 218 #[.val (.int p1), .val (.int p2), .val (.int p3), .val (.int p4), .val (.int p5), .val (.int p6), .val (.int (4 : Int32)), .val (.int c1), .val (.int c2), .val (.int c3), .val (.int c4), .val (.int c5), .val (.ref x63_), .val (.int r), .unset, .val (.int c4), .val (.int dd)] [])
          refine own_viaH (fun _ k => XS.iload X71_.here hx rfl (hb hby at_218) rfl k) ?_
          show own_FinH _ _ _ _ _ _ _ _ _ T71_ (mkF m 220 #[.val (.int p1), .val (.int p2), .val (.int p3), .val (.int p4), .val (.int p5), .val (.int p6), .val (.int (4 : Int32)), .val (.int c1), .val (.int c2), .val (.int c3), .val (.int c4), .val (.int c5), .val (.ref x63_), .val (.int r), .unset, .val (.int c4), .val (.int dd)] [(.int c4)])
          refine own_viaH (fun _ k => XS.bipush X71_.here hx rfl (hb hby at_220) k) ?_
          show own_FinH _ _ _ _ _ _ _ _ _ T71_ (mkF m 222 #[.val (.int p1), .val (.int p2), .val (.int p3), .val (.int p4), .val (.int p5), .val (.int p6), .val (.int (4 : Int32)), .val (.int c1), .val (.int c2), .val (.int c3), .val (.int c4), .val (.int c5), .val (.ref x63_), .val (.int r), .unset, .val (.int c4), .val (.int dd)] [(.int (46 : Int32)), (.int c4)])
          rcases Classical.em (c4 = (46 : Int32)) with hB | hB
          · refine own_viaH (fun _ k => XS.icmpYes X71_.here hx rfl (pc0 := 222) (pc' := 234) rfl (hb hby at_222) rfl (teq hB).1 (by decide) (by decide) k) ?_
            show own_FinH _ _ _ _ _ _ _ _ _ T71_ (mkF m 234 #[.val (.int p1), .val (.int p2), .val (.int p3), .val (.int p4), .val (.int p5), .val (.int p6), .val (.int (4 : Int32)), .val (.int c1), .val (.int c2), .val (.int c3), .val (.int c4), .val (.int c5), .val (.ref x63_), .val (.int r), .unset, .val (.int c4), .val (.int dd)] [])
            refine own_viaH (fun _ k => XS.iconst X71_.here hx rfl (hb hby at_234) k) ?_
            show own_FinH _ _ _ _ _ _ _ _ _ T71_ (mkF m 235 #[.val (.int p1), .val (.int p2), .val (.int p3), .val (.int p4), .val (.int p5), .val (.int p6), .val (.int (4 : Int32)), .val (.int c1), .val (.int c2), .val (.int c3), .val (.int c4), .val (.int c5), .val (.ref x63_), .val (.int r), .unset, .val (.int c4), .val (.int dd)] [(.int (0 : Int32))])
            refine own_viaH (fun _ k => XS.istore X71_.here hx rfl (hb hby at_235) rfl (l' := #[.val (.int p1), .val (.int p2), .val (.int p3), .val (.int p4), .val (.int p5), .val (.int p6), .val (.int (4 : Int32)), .val (.int c1), .val (.int c2), .val (.int c3), .val (.int c4), .val (.int c5), .val (.ref x63_), .val (.int r), .val (.int (0 : Int32)), .val (.int c4), .val (.int dd)]) rfl k) ?_
            show own_FinH _ _ _ _ _ _ _ _ _ T71_ (mkF m 237 #[.val (.int p1), .val (.int p2), .val (.int p3), .val (.int p4), .val (.int p5), .val (.int p6), .val (.int (4 : Int32)), .val (.int c1), .val (.int c2), .val (.int c3), .val (.int c4), .val (.int c5), .val (.ref x63_), .val (.int r), .val (.int (0 : Int32)), .val (.int c4), .val (.int dd)] [])
            refine own_viaH (fun _ k => XS.iload X71_.here hx rfl (hb hby at_237) rfl k) ?_
            show own_FinH _ _ _ _ _ _ _ _ _ T71_ (mkF m 239 #[.val (.int p1), .val (.int p2), .val (.int p3), .val (.int p4), .val (.int p5), .val (.int p6), .val (.int (4 : Int32)), .val (.int c1), .val (.int c2), .val (.int c3), .val (.int c4), .val (.int c5), .val (.ref x63_), .val (.int r), .val (.int (0 : Int32)), .val (.int c4), .val (.int dd)] [(.int r)])
            refine own_viaH (fun _ k => XS.iload X71_.here hx rfl (hb hby at_239) rfl k) ?_
            show own_FinH _ _ _ _ _ _ _ _ _ T71_ (mkF m 241 #[.val (.int p1), .val (.int p2), .val (.int p3), .val (.int p4), .val (.int p5), .val (.int p6), .val (.int (4 : Int32)), .val (.int c1), .val (.int c2), .val (.int c3), .val (.int c4), .val (.int c5), .val (.ref x63_), .val (.int r), .val (.int (0 : Int32)), .val (.int c4), .val (.int dd)] [(.int (0 : Int32)), (.int r)])
            refine own_viaH (fun _ k => XS.icmpNo X71_.here hx rfl (hb hby at_241) rfl (teq (hr.elim (fun q => absurd hB (G.mp q.2).2.1) (fun q => q.1))).2 k) ?_
            show own_FinH _ _ _ _ _ _ _ _ _ T71_ (mkF m 244 #[.val (.int p1), .val (.int p2), .val (.int p3), .val (.int p4), .val (.int p5), .val (.int p6), .val (.int (4 : Int32)), .val (.int c1), .val (.int c2), .val (.int c3), .val (.int c4), .val (.int c5), .val (.ref x63_), .val (.int r), .val (.int (0 : Int32)), .val (.int c4), .val (.int dd)] [])
            refine own_viaH (fun _ k => XS.iconst X71_.here hx rfl (hb hby at_244) k) ?_
            show own_FinH _ _ _ _ _ _ _ _ _ T71_ (mkF m 245 #[.val (.int p1), .val (.int p2), .val (.int p3), .val (.int p4), .val (.int p5), .val (.int p6), .val (.int (4 : Int32)), .val (.int c1), .val (.int c2), .val (.int c3), .val (.int c4), .val (.int c5), .val (.ref x63_), .val (.int r), .val (.int (0 : Int32)), .val (.int c4), .val (.int dd)] [(.int (1 : Int32))])
            refine own_viaH (fun _ k => XS.goto X71_.here hx rfl (pc0 := 245) (pc' := 249) rfl (hb hby at_245) (by decide) (by decide) k) ?_
            show own_FinH _ _ _ _ _ _ _ _ _ T71_ (mkF m 249 #[.val (.int p1), .val (.int p2), .val (.int p3), .val (.int p4), .val (.int p5), .val (.int p6), .val (.int (4 : Int32)), .val (.int c1), .val (.int c2), .val (.int c3), .val (.int c4), .val (.int c5), .val (.ref x63_), .val (.int r), .val (.int (0 : Int32)), .val (.int c4), .val (.int dd)] [(.int (1 : Int32))])
            have C74_ := C72_.trans Cq71_
            have H74_ := C74_.1
            exact own_retNH X71_ hx (t := .boolean) Bd.returns Bd.notSynchronized (own_ew hw) hZ71_ hS71_ (Nat.le_refl _) hh C74_ (by simp) (hb hby at_249) rfl rfl ⟨rfl, N71_⟩ (by decide) (by decide)
          · refine own_viaH (fun _ k => XS.icmpNo X71_.here hx rfl (hb hby at_222) rfl (feq hB).1 k) ?_
            show own_FinH _ _ _ _ _ _ _ _ _ T71_ (mkF m 225 #[.val (.int p1), .val (.int p2), .val (.int p3), .val (.int p4), .val (.int p5), .val (.int p6), .val (.int (4 : Int32)), .val (.int c1), .val (.int c2), .val (.int c3), .val (.int c4), .val (.int c5), .val (.ref x63_), .val (.int r), .unset, .val (.int c4), .val (.int dd)] [])
            refine own_viaH (fun _ k => XS.iload X71_.here hx rfl (hb hby at_225) rfl k) ?_
            show own_FinH _ _ _ _ _ _ _ _ _ T71_ (mkF m 227 #[.val (.int p1), .val (.int p2), .val (.int p3), .val (.int p4), .val (.int p5), .val (.int p6), .val (.int (4 : Int32)), .val (.int c1), .val (.int c2), .val (.int c3), .val (.int c4), .val (.int c5), .val (.ref x63_), .val (.int r), .unset, .val (.int c4), .val (.int dd)] [(.int dd)])
            rcases Classical.em (dd = (0 : Int32)) with hC | hC
            · refine own_viaH (fun _ k => XS.ifNo X71_.here hx rfl (hb hby at_227) rfl ((if0 _ _).trans (teq hC).2) k) ?_
              show own_FinH _ _ _ _ _ _ _ _ _ T71_ (mkF m 230 #[.val (.int p1), .val (.int p2), .val (.int p3), .val (.int p4), .val (.int p5), .val (.int p6), .val (.int (4 : Int32)), .val (.int c1), .val (.int c2), .val (.int c3), .val (.int c4), .val (.int c5), .val (.ref x63_), .val (.int r), .unset, .val (.int c4), .val (.int dd)] [])
              refine own_viaH (fun _ k => XS.iconst X71_.here hx rfl (hb hby at_230) k) ?_
              show own_FinH _ _ _ _ _ _ _ _ _ T71_ (mkF m 231 #[.val (.int p1), .val (.int p2), .val (.int p3), .val (.int p4), .val (.int p5), .val (.int p6), .val (.int (4 : Int32)), .val (.int c1), .val (.int c2), .val (.int c3), .val (.int c4), .val (.int c5), .val (.ref x63_), .val (.int r), .unset, .val (.int c4), .val (.int dd)] [(.int (1 : Int32))])
              refine own_viaH (fun _ k => XS.goto X71_.here hx rfl (pc0 := 231) (pc' := 235) rfl (hb hby at_231) (by decide) (by decide) k) ?_
              show own_FinH _ _ _ _ _ _ _ _ _ T71_ (mkF m 235 #[.val (.int p1), .val (.int p2), .val (.int p3), .val (.int p4), .val (.int p5), .val (.int p6), .val (.int (4 : Int32)), .val (.int c1), .val (.int c2), .val (.int c3), .val (.int c4), .val (.int c5), .val (.ref x63_), .val (.int r), .unset, .val (.int c4), .val (.int dd)] [(.int (1 : Int32))])
              refine own_viaH (fun _ k => XS.istore X71_.here hx rfl (hb hby at_235) rfl (l' := #[.val (.int p1), .val (.int p2), .val (.int p3), .val (.int p4), .val (.int p5), .val (.int p6), .val (.int (4 : Int32)), .val (.int c1), .val (.int c2), .val (.int c3), .val (.int c4), .val (.int c5), .val (.ref x63_), .val (.int r), .val (.int (1 : Int32)), .val (.int c4), .val (.int dd)]) rfl k) ?_
              show own_FinH _ _ _ _ _ _ _ _ _ T71_ (mkF m 237 #[.val (.int p1), .val (.int p2), .val (.int p3), .val (.int p4), .val (.int p5), .val (.int p6), .val (.int (4 : Int32)), .val (.int c1), .val (.int c2), .val (.int c3), .val (.int c4), .val (.int c5), .val (.ref x63_), .val (.int r), .val (.int (1 : Int32)), .val (.int c4), .val (.int dd)] [])
              refine own_viaH (fun _ k => XS.iload X71_.here hx rfl (hb hby at_237) rfl k) ?_
              show own_FinH _ _ _ _ _ _ _ _ _ T71_ (mkF m 239 #[.val (.int p1), .val (.int p2), .val (.int p3), .val (.int p4), .val (.int p5), .val (.int p6), .val (.int (4 : Int32)), .val (.int c1), .val (.int c2), .val (.int c3), .val (.int c4), .val (.int c5), .val (.ref x63_), .val (.int r), .val (.int (1 : Int32)), .val (.int c4), .val (.int dd)] [(.int r)])
              refine own_viaH (fun _ k => XS.iload X71_.here hx rfl (hb hby at_239) rfl k) ?_
              show own_FinH _ _ _ _ _ _ _ _ _ T71_ (mkF m 241 #[.val (.int p1), .val (.int p2), .val (.int p3), .val (.int p4), .val (.int p5), .val (.int p6), .val (.int (4 : Int32)), .val (.int c1), .val (.int c2), .val (.int c3), .val (.int c4), .val (.int c5), .val (.ref x63_), .val (.int r), .val (.int (1 : Int32)), .val (.int c4), .val (.int dd)] [(.int (1 : Int32)), (.int r)])
              refine own_viaH (fun _ k => XS.icmpNo X71_.here hx rfl (hb hby at_241) rfl (teq (hr.elim (fun q => q.1) (fun q => absurd (G.mpr ⟨hA, hB, (hdd.resolve_left fun z => absurd (z.1.symm.trans hC) (by decide)).2⟩) q.2))).2 k) ?_
              show own_FinH _ _ _ _ _ _ _ _ _ T71_ (mkF m 244 #[.val (.int p1), .val (.int p2), .val (.int p3), .val (.int p4), .val (.int p5), .val (.int p6), .val (.int (4 : Int32)), .val (.int c1), .val (.int c2), .val (.int c3), .val (.int c4), .val (.int c5), .val (.ref x63_), .val (.int r), .val (.int (1 : Int32)), .val (.int c4), .val (.int dd)] [])
              refine own_viaH (fun _ k => XS.iconst X71_.here hx rfl (hb hby at_244) k) ?_
              show own_FinH _ _ _ _ _ _ _ _ _ T71_ (mkF m 245 #[.val (.int p1), .val (.int p2), .val (.int p3), .val (.int p4), .val (.int p5), .val (.int p6), .val (.int (4 : Int32)), .val (.int c1), .val (.int c2), .val (.int c3), .val (.int c4), .val (.int c5), .val (.ref x63_), .val (.int r), .val (.int (1 : Int32)), .val (.int c4), .val (.int dd)] [(.int (1 : Int32))])
              refine own_viaH (fun _ k => XS.goto X71_.here hx rfl (pc0 := 245) (pc' := 249) rfl (hb hby at_245) (by decide) (by decide) k) ?_
              show own_FinH _ _ _ _ _ _ _ _ _ T71_ (mkF m 249 #[.val (.int p1), .val (.int p2), .val (.int p3), .val (.int p4), .val (.int p5), .val (.int p6), .val (.int (4 : Int32)), .val (.int c1), .val (.int c2), .val (.int c3), .val (.int c4), .val (.int c5), .val (.ref x63_), .val (.int r), .val (.int (1 : Int32)), .val (.int c4), .val (.int dd)] [(.int (1 : Int32))])
              have C76_ := C72_.trans Cq71_
              have H76_ := C76_.1
              exact own_retNH X71_ hx (t := .boolean) Bd.returns Bd.notSynchronized (own_ew hw) hZ71_ hS71_ (Nat.le_refl _) hh C76_ (by simp) (hb hby at_249) rfl rfl ⟨rfl, N71_⟩ (by decide) (by decide)
            · refine own_viaH (fun _ k => XS.ifYes X71_.here hx rfl (pc0 := 227) (pc' := 234) rfl (hb hby at_227) rfl ((if0 _ _).trans (feq hC).2) (by decide) (by decide) k) ?_
              show own_FinH _ _ _ _ _ _ _ _ _ T71_ (mkF m 234 #[.val (.int p1), .val (.int p2), .val (.int p3), .val (.int p4), .val (.int p5), .val (.int p6), .val (.int (4 : Int32)), .val (.int c1), .val (.int c2), .val (.int c3), .val (.int c4), .val (.int c5), .val (.ref x63_), .val (.int r), .unset, .val (.int c4), .val (.int dd)] [])
              refine own_viaH (fun _ k => XS.iconst X71_.here hx rfl (hb hby at_234) k) ?_
              show own_FinH _ _ _ _ _ _ _ _ _ T71_ (mkF m 235 #[.val (.int p1), .val (.int p2), .val (.int p3), .val (.int p4), .val (.int p5), .val (.int p6), .val (.int (4 : Int32)), .val (.int c1), .val (.int c2), .val (.int c3), .val (.int c4), .val (.int c5), .val (.ref x63_), .val (.int r), .unset, .val (.int c4), .val (.int dd)] [(.int (0 : Int32))])
              refine own_viaH (fun _ k => XS.istore X71_.here hx rfl (hb hby at_235) rfl (l' := #[.val (.int p1), .val (.int p2), .val (.int p3), .val (.int p4), .val (.int p5), .val (.int p6), .val (.int (4 : Int32)), .val (.int c1), .val (.int c2), .val (.int c3), .val (.int c4), .val (.int c5), .val (.ref x63_), .val (.int r), .val (.int (0 : Int32)), .val (.int c4), .val (.int dd)]) rfl k) ?_
              show own_FinH _ _ _ _ _ _ _ _ _ T71_ (mkF m 237 #[.val (.int p1), .val (.int p2), .val (.int p3), .val (.int p4), .val (.int p5), .val (.int p6), .val (.int (4 : Int32)), .val (.int c1), .val (.int c2), .val (.int c3), .val (.int c4), .val (.int c5), .val (.ref x63_), .val (.int r), .val (.int (0 : Int32)), .val (.int c4), .val (.int dd)] [])
              refine own_viaH (fun _ k => XS.iload X71_.here hx rfl (hb hby at_237) rfl k) ?_
              show own_FinH _ _ _ _ _ _ _ _ _ T71_ (mkF m 239 #[.val (.int p1), .val (.int p2), .val (.int p3), .val (.int p4), .val (.int p5), .val (.int p6), .val (.int (4 : Int32)), .val (.int c1), .val (.int c2), .val (.int c3), .val (.int c4), .val (.int c5), .val (.ref x63_), .val (.int r), .val (.int (0 : Int32)), .val (.int c4), .val (.int dd)] [(.int r)])
              refine own_viaH (fun _ k => XS.iload X71_.here hx rfl (hb hby at_239) rfl k) ?_
              show own_FinH _ _ _ _ _ _ _ _ _ T71_ (mkF m 241 #[.val (.int p1), .val (.int p2), .val (.int p3), .val (.int p4), .val (.int p5), .val (.int p6), .val (.int (4 : Int32)), .val (.int c1), .val (.int c2), .val (.int c3), .val (.int c4), .val (.int c5), .val (.ref x63_), .val (.int r), .val (.int (0 : Int32)), .val (.int c4), .val (.int dd)] [(.int (0 : Int32)), (.int r)])
              refine own_viaH (fun _ k => XS.icmpNo X71_.here hx rfl (hb hby at_241) rfl (teq (hr.elim (fun q => absurd (hdd.resolve_right fun z => hC z.1).2 (G.mp q.2).2.2) (fun q => q.1))).2 k) ?_
              show own_FinH _ _ _ _ _ _ _ _ _ T71_ (mkF m 244 #[.val (.int p1), .val (.int p2), .val (.int p3), .val (.int p4), .val (.int p5), .val (.int p6), .val (.int (4 : Int32)), .val (.int c1), .val (.int c2), .val (.int c3), .val (.int c4), .val (.int c5), .val (.ref x63_), .val (.int r), .val (.int (0 : Int32)), .val (.int c4), .val (.int dd)] [])
              refine own_viaH (fun _ k => XS.iconst X71_.here hx rfl (hb hby at_244) k) ?_
              show own_FinH _ _ _ _ _ _ _ _ _ T71_ (mkF m 245 #[.val (.int p1), .val (.int p2), .val (.int p3), .val (.int p4), .val (.int p5), .val (.int p6), .val (.int (4 : Int32)), .val (.int c1), .val (.int c2), .val (.int c3), .val (.int c4), .val (.int c5), .val (.ref x63_), .val (.int r), .val (.int (0 : Int32)), .val (.int c4), .val (.int dd)] [(.int (1 : Int32))])
              refine own_viaH (fun _ k => XS.goto X71_.here hx rfl (pc0 := 245) (pc' := 249) rfl (hb hby at_245) (by decide) (by decide) k) ?_
              show own_FinH _ _ _ _ _ _ _ _ _ T71_ (mkF m 249 #[.val (.int p1), .val (.int p2), .val (.int p3), .val (.int p4), .val (.int p5), .val (.int p6), .val (.int (4 : Int32)), .val (.int c1), .val (.int c2), .val (.int c3), .val (.int c4), .val (.int c5), .val (.ref x63_), .val (.int r), .val (.int (0 : Int32)), .val (.int c4), .val (.int dd)] [(.int (1 : Int32))])
              have C75_ := C72_.trans Cq71_
              have H75_ := C75_.1
              exact own_retNH X71_ hx (t := .boolean) Bd.returns Bd.notSynchronized (own_ew hw) hZ71_ hS71_ (Nat.le_refl _) hh C75_ (by simp) (hb hby at_249) rfl rfl ⟨rfl, N71_⟩ (by decide) (by decide)
      refine own_viaH (fun _ k => XS.iload X71_.here hx rfl (hb hby at_124) rfl k) ?_
      show own_FinH _ _ _ _ _ _ _ _ _ T71_ (mkF m 126 #[.val (.int p1), .val (.int p2), .val (.int p3), .val (.int p4), .val (.int p5), .val (.int p6), .val (.int (4 : Int32)), .val (.int c1), .val (.int c2), .val (.int c3), .val (.int c4), .val (.int c5), .val (.ref x63_), .val (.int r), .unset, .val (.int c4), .unset] [(.int (4 : Int32))])
      refine own_viaH (fun _ k => XS.iconst X71_.here hx rfl (hb hby at_126) k) ?_
      show own_FinH _ _ _ _ _ _ _ _ _ T71_ (mkF m 127 #[.val (.int p1), .val (.int p2), .val (.int p3), .val (.int p4), .val (.int p5), .val (.int p6), .val (.int (4 : Int32)), .val (.int c1), .val (.int c2), .val (.int c3), .val (.int c4), .val (.int c5), .val (.ref x63_), .val (.int r), .unset, .val (.int c4), .unset] [(.int (2 : Int32)), (.int (4 : Int32))])
      refine own_viaH (fun _ k => XS.icmpNo X71_.here hx rfl (hb hby at_127) rfl (flt (by decide)).1 k) ?_
      show own_FinH _ _ _ _ _ _ _ _ _ T71_ (mkF m 130 #[.val (.int p1), .val (.int p2), .val (.int p3), .val (.int p4), .val (.int p5), .val (.int p6), .val (.int (4 : Int32)), .val (.int c1), .val (.int c2), .val (.int c3), .val (.int c4), .val (.int c5), .val (.ref x63_), .val (.int r), .unset, .val (.int c4), .unset] [])
      have sp0 : ∀ (hp0 : ¬ (c1 = (46 : Int32) ∧ c2 = (46 : Int32))), own_FinH p e s below Z own_EL (own_Q_law Z p1 p2 p3 p4 p5 p6 cz fm h0 n0) room_1.cells room_1.slots T71_ (mkF m 144 #[.val (.int p1), .val (.int p2), .val (.int p3), .val (.int p4), .val (.int p5), .val (.int p6), .val (.int (4 : Int32)), .val (.int c1), .val (.int c2), .val (.int c3), .val (.int c4), .val (.int c5), .val (.ref x63_), .val (.int r), .unset, .val (.int c4), .unset] []) := by
        intro hp0
        refine own_viaH (fun _ k => XS.iload X71_.here hx rfl (hb hby at_144) rfl k) ?_
        show own_FinH _ _ _ _ _ _ _ _ _ T71_ (mkF m 146 #[.val (.int p1), .val (.int p2), .val (.int p3), .val (.int p4), .val (.int p5), .val (.int p6), .val (.int (4 : Int32)), .val (.int c1), .val (.int c2), .val (.int c3), .val (.int c4), .val (.int c5), .val (.ref x63_), .val (.int r), .unset, .val (.int c4), .unset] [(.int (4 : Int32))])
        refine own_viaH (fun _ k => XS.iconst X71_.here hx rfl (hb hby at_146) k) ?_
        show own_FinH _ _ _ _ _ _ _ _ _ T71_ (mkF m 147 #[.val (.int p1), .val (.int p2), .val (.int p3), .val (.int p4), .val (.int p5), .val (.int p6), .val (.int (4 : Int32)), .val (.int c1), .val (.int c2), .val (.int c3), .val (.int c4), .val (.int c5), .val (.ref x63_), .val (.int r), .unset, .val (.int c4), .unset] [(.int (3 : Int32)), (.int (4 : Int32))])
        refine own_viaH (fun _ k => XS.icmpNo X71_.here hx rfl (hb hby at_147) rfl (flt (by decide)).1 k) ?_
        show own_FinH _ _ _ _ _ _ _ _ _ T71_ (mkF m 150 #[.val (.int p1), .val (.int p2), .val (.int p3), .val (.int p4), .val (.int p5), .val (.int p6), .val (.int (4 : Int32)), .val (.int c1), .val (.int c2), .val (.int c3), .val (.int c4), .val (.int c5), .val (.ref x63_), .val (.int r), .unset, .val (.int c4), .unset] [])
        have sp1 : ∀ (hp1 : ¬ (c2 = (46 : Int32) ∧ c3 = (46 : Int32))), own_FinH p e s below Z own_EL (own_Q_law Z p1 p2 p3 p4 p5 p6 cz fm h0 n0) room_1.cells room_1.slots T71_ (mkF m 164 #[.val (.int p1), .val (.int p2), .val (.int p3), .val (.int p4), .val (.int p5), .val (.int p6), .val (.int (4 : Int32)), .val (.int c1), .val (.int c2), .val (.int c3), .val (.int c4), .val (.int c5), .val (.ref x63_), .val (.int r), .unset, .val (.int c4), .unset] []) := by
          intro hp1
          refine own_viaH (fun _ k => XS.iload X71_.here hx rfl (hb hby at_164) rfl k) ?_
          show own_FinH _ _ _ _ _ _ _ _ _ T71_ (mkF m 166 #[.val (.int p1), .val (.int p2), .val (.int p3), .val (.int p4), .val (.int p5), .val (.int p6), .val (.int (4 : Int32)), .val (.int c1), .val (.int c2), .val (.int c3), .val (.int c4), .val (.int c5), .val (.ref x63_), .val (.int r), .unset, .val (.int c4), .unset] [(.int (4 : Int32))])
          refine own_viaH (fun _ k => XS.iconst X71_.here hx rfl (hb hby at_166) k) ?_
          show own_FinH _ _ _ _ _ _ _ _ _ T71_ (mkF m 167 #[.val (.int p1), .val (.int p2), .val (.int p3), .val (.int p4), .val (.int p5), .val (.int p6), .val (.int (4 : Int32)), .val (.int c1), .val (.int c2), .val (.int c3), .val (.int c4), .val (.int c5), .val (.ref x63_), .val (.int r), .unset, .val (.int c4), .unset] [(.int (4 : Int32)), (.int (4 : Int32))])
          refine own_viaH (fun _ k => XS.icmpNo X71_.here hx rfl (hb hby at_167) rfl (flt (by decide)).1 k) ?_
          show own_FinH _ _ _ _ _ _ _ _ _ T71_ (mkF m 170 #[.val (.int p1), .val (.int p2), .val (.int p3), .val (.int p4), .val (.int p5), .val (.int p6), .val (.int (4 : Int32)), .val (.int c1), .val (.int c2), .val (.int c3), .val (.int c4), .val (.int c5), .val (.ref x63_), .val (.int r), .unset, .val (.int c4), .unset] [])
          have sp2 : ∀ (hp2 : ¬ (c3 = (46 : Int32) ∧ c4 = (46 : Int32))), own_FinH p e s below Z own_EL (own_Q_law Z p1 p2 p3 p4 p5 p6 cz fm h0 n0) room_1.cells room_1.slots T71_ (mkF m 184 #[.val (.int p1), .val (.int p2), .val (.int p3), .val (.int p4), .val (.int p5), .val (.int p6), .val (.int (4 : Int32)), .val (.int c1), .val (.int c2), .val (.int c3), .val (.int c4), .val (.int c5), .val (.ref x63_), .val (.int r), .unset, .val (.int c4), .unset] []) := by
            intro hp2
            refine own_viaH (fun _ k => XS.iload X71_.here hx rfl (hb hby at_184) rfl k) ?_
            show own_FinH _ _ _ _ _ _ _ _ _ T71_ (mkF m 186 #[.val (.int p1), .val (.int p2), .val (.int p3), .val (.int p4), .val (.int p5), .val (.int p6), .val (.int (4 : Int32)), .val (.int c1), .val (.int c2), .val (.int c3), .val (.int c4), .val (.int c5), .val (.ref x63_), .val (.int r), .unset, .val (.int c4), .unset] [(.int (4 : Int32))])
            refine own_viaH (fun _ k => XS.iconst X71_.here hx rfl (hb hby at_186) k) ?_
            show own_FinH _ _ _ _ _ _ _ _ _ T71_ (mkF m 187 #[.val (.int p1), .val (.int p2), .val (.int p3), .val (.int p4), .val (.int p5), .val (.int p6), .val (.int (4 : Int32)), .val (.int c1), .val (.int c2), .val (.int c3), .val (.int c4), .val (.int c5), .val (.ref x63_), .val (.int r), .unset, .val (.int c4), .unset] [(.int (5 : Int32)), (.int (4 : Int32))])
            refine own_viaH (fun _ k => XS.icmpYes X71_.here hx rfl (pc0 := 187) (pc' := 208) rfl (hb hby at_187) rfl (tlt (by decide)).1 (by decide) (by decide) k) ?_
            show own_FinH _ _ _ _ _ _ _ _ _ T71_ (mkF m 208 #[.val (.int p1), .val (.int p2), .val (.int p3), .val (.int p4), .val (.int p5), .val (.int p6), .val (.int (4 : Int32)), .val (.int c1), .val (.int c2), .val (.int c3), .val (.int c4), .val (.int c5), .val (.ref x63_), .val (.int r), .unset, .val (.int c4), .unset] [])
            refine own_viaH (fun _ k => XS.iconst X71_.here hx rfl (hb hby at_208) k) ?_
            show own_FinH _ _ _ _ _ _ _ _ _ T71_ (mkF m 209 #[.val (.int p1), .val (.int p2), .val (.int p3), .val (.int p4), .val (.int p5), .val (.int p6), .val (.int (4 : Int32)), .val (.int c1), .val (.int c2), .val (.int c3), .val (.int c4), .val (.int c5), .val (.ref x63_), .val (.int r), .unset, .val (.int c4), .unset] [(.int (0 : Int32))])
            refine own_viaH (fun _ k => XS.istore X71_.here hx rfl (hb hby at_209) rfl (l' := #[.val (.int p1), .val (.int p2), .val (.int p3), .val (.int p4), .val (.int p5), .val (.int p6), .val (.int (4 : Int32)), .val (.int c1), .val (.int c2), .val (.int c3), .val (.int c4), .val (.int c5), .val (.ref x63_), .val (.int r), .unset, .val (.int c4), .val (.int (0 : Int32))]) rfl k) ?_
            show own_FinH _ _ _ _ _ _ _ _ _ T71_ (mkF m 211 #[.val (.int p1), .val (.int p2), .val (.int p3), .val (.int p4), .val (.int p5), .val (.int p6), .val (.int (4 : Int32)), .val (.int c1), .val (.int c2), .val (.int c3), .val (.int c4), .val (.int c5), .val (.ref x63_), .val (.int r), .unset, .val (.int c4), .val (.int (0 : Int32))] [])
            exact s211 _ (Or.inr ⟨rfl, (not_or.mpr ⟨hp0, (not_or.mpr ⟨hp1, hp2⟩)⟩)⟩)
          refine own_viaH (fun _ k => XS.iload X71_.here hx rfl (hb hby at_170) rfl k) ?_
          show own_FinH _ _ _ _ _ _ _ _ _ T71_ (mkF m 172 #[.val (.int p1), .val (.int p2), .val (.int p3), .val (.int p4), .val (.int p5), .val (.int p6), .val (.int (4 : Int32)), .val (.int c1), .val (.int c2), .val (.int c3), .val (.int c4), .val (.int c5), .val (.ref x63_), .val (.int r), .unset, .val (.int c4), .unset] [(.int c3)])
          refine own_viaH (fun _ k => XS.bipush X71_.here hx rfl (hb hby at_172) k) ?_
          show own_FinH _ _ _ _ _ _ _ _ _ T71_ (mkF m 174 #[.val (.int p1), .val (.int p2), .val (.int p3), .val (.int p4), .val (.int p5), .val (.int p6), .val (.int (4 : Int32)), .val (.int c1), .val (.int c2), .val (.int c3), .val (.int c4), .val (.int c5), .val (.ref x63_), .val (.int r), .unset, .val (.int c4), .unset] [(.int (46 : Int32)), (.int c3)])
          rcases Classical.em (c3 = (46 : Int32)) with ha | ha
          · refine own_viaH (fun _ k => XS.icmpNo X71_.here hx rfl (hb hby at_174) rfl (teq ha).2 k) ?_
            show own_FinH _ _ _ _ _ _ _ _ _ T71_ (mkF m 177 #[.val (.int p1), .val (.int p2), .val (.int p3), .val (.int p4), .val (.int p5), .val (.int p6), .val (.int (4 : Int32)), .val (.int c1), .val (.int c2), .val (.int c3), .val (.int c4), .val (.int c5), .val (.ref x63_), .val (.int r), .unset, .val (.int c4), .unset] [])
            refine own_viaH (fun _ k => XS.iload X71_.here hx rfl (hb hby at_177) rfl k) ?_
            show own_FinH _ _ _ _ _ _ _ _ _ T71_ (mkF m 179 #[.val (.int p1), .val (.int p2), .val (.int p3), .val (.int p4), .val (.int p5), .val (.int p6), .val (.int (4 : Int32)), .val (.int c1), .val (.int c2), .val (.int c3), .val (.int c4), .val (.int c5), .val (.ref x63_), .val (.int r), .unset, .val (.int c4), .unset] [(.int c4)])
            refine own_viaH (fun _ k => XS.bipush X71_.here hx rfl (hb hby at_179) k) ?_
            show own_FinH _ _ _ _ _ _ _ _ _ T71_ (mkF m 181 #[.val (.int p1), .val (.int p2), .val (.int p3), .val (.int p4), .val (.int p5), .val (.int p6), .val (.int (4 : Int32)), .val (.int c1), .val (.int c2), .val (.int c3), .val (.int c4), .val (.int c5), .val (.ref x63_), .val (.int r), .unset, .val (.int c4), .unset] [(.int (46 : Int32)), (.int c4)])
            rcases Classical.em (c4 = (46 : Int32)) with hbb | hbb
            · refine own_viaH (fun _ k => XS.icmpYes X71_.here hx rfl (pc0 := 181) (pc' := 204) rfl (hb hby at_181) rfl (teq hbb).1 (by decide) (by decide) k) ?_
              show own_FinH _ _ _ _ _ _ _ _ _ T71_ (mkF m 204 #[.val (.int p1), .val (.int p2), .val (.int p3), .val (.int p4), .val (.int p5), .val (.int p6), .val (.int (4 : Int32)), .val (.int c1), .val (.int c2), .val (.int c3), .val (.int c4), .val (.int c5), .val (.ref x63_), .val (.int r), .unset, .val (.int c4), .unset] [])
              refine own_viaH (fun _ k => XS.iconst X71_.here hx rfl (hb hby at_204) k) ?_
              show own_FinH _ _ _ _ _ _ _ _ _ T71_ (mkF m 205 #[.val (.int p1), .val (.int p2), .val (.int p3), .val (.int p4), .val (.int p5), .val (.int p6), .val (.int (4 : Int32)), .val (.int c1), .val (.int c2), .val (.int c3), .val (.int c4), .val (.int c5), .val (.ref x63_), .val (.int r), .unset, .val (.int c4), .unset] [(.int (1 : Int32))])
              refine own_viaH (fun _ k => XS.goto X71_.here hx rfl (pc0 := 205) (pc' := 209) rfl (hb hby at_205) (by decide) (by decide) k) ?_
              show own_FinH _ _ _ _ _ _ _ _ _ T71_ (mkF m 209 #[.val (.int p1), .val (.int p2), .val (.int p3), .val (.int p4), .val (.int p5), .val (.int p6), .val (.int (4 : Int32)), .val (.int c1), .val (.int c2), .val (.int c3), .val (.int c4), .val (.int c5), .val (.ref x63_), .val (.int r), .unset, .val (.int c4), .unset] [(.int (1 : Int32))])
              refine own_viaH (fun _ k => XS.istore X71_.here hx rfl (hb hby at_209) rfl (l' := #[.val (.int p1), .val (.int p2), .val (.int p3), .val (.int p4), .val (.int p5), .val (.int p6), .val (.int (4 : Int32)), .val (.int c1), .val (.int c2), .val (.int c3), .val (.int c4), .val (.int c5), .val (.ref x63_), .val (.int r), .unset, .val (.int c4), .val (.int (1 : Int32))]) rfl k) ?_
              show own_FinH _ _ _ _ _ _ _ _ _ T71_ (mkF m 211 #[.val (.int p1), .val (.int p2), .val (.int p3), .val (.int p4), .val (.int p5), .val (.int p6), .val (.int (4 : Int32)), .val (.int c1), .val (.int c2), .val (.int c3), .val (.int c4), .val (.int c5), .val (.ref x63_), .val (.int r), .unset, .val (.int c4), .val (.int (1 : Int32))] [])
              exact s211 _ (Or.inl ⟨rfl, Or.inr (Or.inr (⟨ha, hbb⟩))⟩)
            · refine own_viaH (fun _ k => XS.icmpNo X71_.here hx rfl (hb hby at_181) rfl (feq hbb).1 k) ?_
              show own_FinH _ _ _ _ _ _ _ _ _ T71_ (mkF m 184 #[.val (.int p1), .val (.int p2), .val (.int p3), .val (.int p4), .val (.int p5), .val (.int p6), .val (.int (4 : Int32)), .val (.int c1), .val (.int c2), .val (.int c3), .val (.int c4), .val (.int c5), .val (.ref x63_), .val (.int r), .unset, .val (.int c4), .unset] [])
              exact sp2 (fun q => hbb q.2)
          · refine own_viaH (fun _ k => XS.icmpYes X71_.here hx rfl (pc0 := 174) (pc' := 184) rfl (hb hby at_174) rfl (feq ha).2 (by decide) (by decide) k) ?_
            show own_FinH _ _ _ _ _ _ _ _ _ T71_ (mkF m 184 #[.val (.int p1), .val (.int p2), .val (.int p3), .val (.int p4), .val (.int p5), .val (.int p6), .val (.int (4 : Int32)), .val (.int c1), .val (.int c2), .val (.int c3), .val (.int c4), .val (.int c5), .val (.ref x63_), .val (.int r), .unset, .val (.int c4), .unset] [])
            exact sp2 (fun q => ha q.1)
        refine own_viaH (fun _ k => XS.iload X71_.here hx rfl (hb hby at_150) rfl k) ?_
        show own_FinH _ _ _ _ _ _ _ _ _ T71_ (mkF m 152 #[.val (.int p1), .val (.int p2), .val (.int p3), .val (.int p4), .val (.int p5), .val (.int p6), .val (.int (4 : Int32)), .val (.int c1), .val (.int c2), .val (.int c3), .val (.int c4), .val (.int c5), .val (.ref x63_), .val (.int r), .unset, .val (.int c4), .unset] [(.int c2)])
        refine own_viaH (fun _ k => XS.bipush X71_.here hx rfl (hb hby at_152) k) ?_
        show own_FinH _ _ _ _ _ _ _ _ _ T71_ (mkF m 154 #[.val (.int p1), .val (.int p2), .val (.int p3), .val (.int p4), .val (.int p5), .val (.int p6), .val (.int (4 : Int32)), .val (.int c1), .val (.int c2), .val (.int c3), .val (.int c4), .val (.int c5), .val (.ref x63_), .val (.int r), .unset, .val (.int c4), .unset] [(.int (46 : Int32)), (.int c2)])
        rcases Classical.em (c2 = (46 : Int32)) with ha | ha
        · refine own_viaH (fun _ k => XS.icmpNo X71_.here hx rfl (hb hby at_154) rfl (teq ha).2 k) ?_
          show own_FinH _ _ _ _ _ _ _ _ _ T71_ (mkF m 157 #[.val (.int p1), .val (.int p2), .val (.int p3), .val (.int p4), .val (.int p5), .val (.int p6), .val (.int (4 : Int32)), .val (.int c1), .val (.int c2), .val (.int c3), .val (.int c4), .val (.int c5), .val (.ref x63_), .val (.int r), .unset, .val (.int c4), .unset] [])
          refine own_viaH (fun _ k => XS.iload X71_.here hx rfl (hb hby at_157) rfl k) ?_
          show own_FinH _ _ _ _ _ _ _ _ _ T71_ (mkF m 159 #[.val (.int p1), .val (.int p2), .val (.int p3), .val (.int p4), .val (.int p5), .val (.int p6), .val (.int (4 : Int32)), .val (.int c1), .val (.int c2), .val (.int c3), .val (.int c4), .val (.int c5), .val (.ref x63_), .val (.int r), .unset, .val (.int c4), .unset] [(.int c3)])
          refine own_viaH (fun _ k => XS.bipush X71_.here hx rfl (hb hby at_159) k) ?_
          show own_FinH _ _ _ _ _ _ _ _ _ T71_ (mkF m 161 #[.val (.int p1), .val (.int p2), .val (.int p3), .val (.int p4), .val (.int p5), .val (.int p6), .val (.int (4 : Int32)), .val (.int c1), .val (.int c2), .val (.int c3), .val (.int c4), .val (.int c5), .val (.ref x63_), .val (.int r), .unset, .val (.int c4), .unset] [(.int (46 : Int32)), (.int c3)])
          rcases Classical.em (c3 = (46 : Int32)) with hbb | hbb
          · refine own_viaH (fun _ k => XS.icmpYes X71_.here hx rfl (pc0 := 161) (pc' := 204) rfl (hb hby at_161) rfl (teq hbb).1 (by decide) (by decide) k) ?_
            show own_FinH _ _ _ _ _ _ _ _ _ T71_ (mkF m 204 #[.val (.int p1), .val (.int p2), .val (.int p3), .val (.int p4), .val (.int p5), .val (.int p6), .val (.int (4 : Int32)), .val (.int c1), .val (.int c2), .val (.int c3), .val (.int c4), .val (.int c5), .val (.ref x63_), .val (.int r), .unset, .val (.int c4), .unset] [])
            refine own_viaH (fun _ k => XS.iconst X71_.here hx rfl (hb hby at_204) k) ?_
            show own_FinH _ _ _ _ _ _ _ _ _ T71_ (mkF m 205 #[.val (.int p1), .val (.int p2), .val (.int p3), .val (.int p4), .val (.int p5), .val (.int p6), .val (.int (4 : Int32)), .val (.int c1), .val (.int c2), .val (.int c3), .val (.int c4), .val (.int c5), .val (.ref x63_), .val (.int r), .unset, .val (.int c4), .unset] [(.int (1 : Int32))])
            refine own_viaH (fun _ k => XS.goto X71_.here hx rfl (pc0 := 205) (pc' := 209) rfl (hb hby at_205) (by decide) (by decide) k) ?_
            show own_FinH _ _ _ _ _ _ _ _ _ T71_ (mkF m 209 #[.val (.int p1), .val (.int p2), .val (.int p3), .val (.int p4), .val (.int p5), .val (.int p6), .val (.int (4 : Int32)), .val (.int c1), .val (.int c2), .val (.int c3), .val (.int c4), .val (.int c5), .val (.ref x63_), .val (.int r), .unset, .val (.int c4), .unset] [(.int (1 : Int32))])
            refine own_viaH (fun _ k => XS.istore X71_.here hx rfl (hb hby at_209) rfl (l' := #[.val (.int p1), .val (.int p2), .val (.int p3), .val (.int p4), .val (.int p5), .val (.int p6), .val (.int (4 : Int32)), .val (.int c1), .val (.int c2), .val (.int c3), .val (.int c4), .val (.int c5), .val (.ref x63_), .val (.int r), .unset, .val (.int c4), .val (.int (1 : Int32))]) rfl k) ?_
            show own_FinH _ _ _ _ _ _ _ _ _ T71_ (mkF m 211 #[.val (.int p1), .val (.int p2), .val (.int p3), .val (.int p4), .val (.int p5), .val (.int p6), .val (.int (4 : Int32)), .val (.int c1), .val (.int c2), .val (.int c3), .val (.int c4), .val (.int c5), .val (.ref x63_), .val (.int r), .unset, .val (.int c4), .val (.int (1 : Int32))] [])
            exact s211 _ (Or.inl ⟨rfl, Or.inr (Or.inl (⟨ha, hbb⟩))⟩)
          · refine own_viaH (fun _ k => XS.icmpNo X71_.here hx rfl (hb hby at_161) rfl (feq hbb).1 k) ?_
            show own_FinH _ _ _ _ _ _ _ _ _ T71_ (mkF m 164 #[.val (.int p1), .val (.int p2), .val (.int p3), .val (.int p4), .val (.int p5), .val (.int p6), .val (.int (4 : Int32)), .val (.int c1), .val (.int c2), .val (.int c3), .val (.int c4), .val (.int c5), .val (.ref x63_), .val (.int r), .unset, .val (.int c4), .unset] [])
            exact sp1 (fun q => hbb q.2)
        · refine own_viaH (fun _ k => XS.icmpYes X71_.here hx rfl (pc0 := 154) (pc' := 164) rfl (hb hby at_154) rfl (feq ha).2 (by decide) (by decide) k) ?_
          show own_FinH _ _ _ _ _ _ _ _ _ T71_ (mkF m 164 #[.val (.int p1), .val (.int p2), .val (.int p3), .val (.int p4), .val (.int p5), .val (.int p6), .val (.int (4 : Int32)), .val (.int c1), .val (.int c2), .val (.int c3), .val (.int c4), .val (.int c5), .val (.ref x63_), .val (.int r), .unset, .val (.int c4), .unset] [])
          exact sp1 (fun q => ha q.1)
      refine own_viaH (fun _ k => XS.iload X71_.here hx rfl (hb hby at_130) rfl k) ?_
      show own_FinH _ _ _ _ _ _ _ _ _ T71_ (mkF m 132 #[.val (.int p1), .val (.int p2), .val (.int p3), .val (.int p4), .val (.int p5), .val (.int p6), .val (.int (4 : Int32)), .val (.int c1), .val (.int c2), .val (.int c3), .val (.int c4), .val (.int c5), .val (.ref x63_), .val (.int r), .unset, .val (.int c4), .unset] [(.int c1)])
      refine own_viaH (fun _ k => XS.bipush X71_.here hx rfl (hb hby at_132) k) ?_
      show own_FinH _ _ _ _ _ _ _ _ _ T71_ (mkF m 134 #[.val (.int p1), .val (.int p2), .val (.int p3), .val (.int p4), .val (.int p5), .val (.int p6), .val (.int (4 : Int32)), .val (.int c1), .val (.int c2), .val (.int c3), .val (.int c4), .val (.int c5), .val (.ref x63_), .val (.int r), .unset, .val (.int c4), .unset] [(.int (46 : Int32)), (.int c1)])
      rcases Classical.em (c1 = (46 : Int32)) with ha | ha
      · refine own_viaH (fun _ k => XS.icmpNo X71_.here hx rfl (hb hby at_134) rfl (teq ha).2 k) ?_
        show own_FinH _ _ _ _ _ _ _ _ _ T71_ (mkF m 137 #[.val (.int p1), .val (.int p2), .val (.int p3), .val (.int p4), .val (.int p5), .val (.int p6), .val (.int (4 : Int32)), .val (.int c1), .val (.int c2), .val (.int c3), .val (.int c4), .val (.int c5), .val (.ref x63_), .val (.int r), .unset, .val (.int c4), .unset] [])
        refine own_viaH (fun _ k => XS.iload X71_.here hx rfl (hb hby at_137) rfl k) ?_
        show own_FinH _ _ _ _ _ _ _ _ _ T71_ (mkF m 139 #[.val (.int p1), .val (.int p2), .val (.int p3), .val (.int p4), .val (.int p5), .val (.int p6), .val (.int (4 : Int32)), .val (.int c1), .val (.int c2), .val (.int c3), .val (.int c4), .val (.int c5), .val (.ref x63_), .val (.int r), .unset, .val (.int c4), .unset] [(.int c2)])
        refine own_viaH (fun _ k => XS.bipush X71_.here hx rfl (hb hby at_139) k) ?_
        show own_FinH _ _ _ _ _ _ _ _ _ T71_ (mkF m 141 #[.val (.int p1), .val (.int p2), .val (.int p3), .val (.int p4), .val (.int p5), .val (.int p6), .val (.int (4 : Int32)), .val (.int c1), .val (.int c2), .val (.int c3), .val (.int c4), .val (.int c5), .val (.ref x63_), .val (.int r), .unset, .val (.int c4), .unset] [(.int (46 : Int32)), (.int c2)])
        rcases Classical.em (c2 = (46 : Int32)) with hbb | hbb
        · refine own_viaH (fun _ k => XS.icmpYes X71_.here hx rfl (pc0 := 141) (pc' := 204) rfl (hb hby at_141) rfl (teq hbb).1 (by decide) (by decide) k) ?_
          show own_FinH _ _ _ _ _ _ _ _ _ T71_ (mkF m 204 #[.val (.int p1), .val (.int p2), .val (.int p3), .val (.int p4), .val (.int p5), .val (.int p6), .val (.int (4 : Int32)), .val (.int c1), .val (.int c2), .val (.int c3), .val (.int c4), .val (.int c5), .val (.ref x63_), .val (.int r), .unset, .val (.int c4), .unset] [])
          refine own_viaH (fun _ k => XS.iconst X71_.here hx rfl (hb hby at_204) k) ?_
          show own_FinH _ _ _ _ _ _ _ _ _ T71_ (mkF m 205 #[.val (.int p1), .val (.int p2), .val (.int p3), .val (.int p4), .val (.int p5), .val (.int p6), .val (.int (4 : Int32)), .val (.int c1), .val (.int c2), .val (.int c3), .val (.int c4), .val (.int c5), .val (.ref x63_), .val (.int r), .unset, .val (.int c4), .unset] [(.int (1 : Int32))])
          refine own_viaH (fun _ k => XS.goto X71_.here hx rfl (pc0 := 205) (pc' := 209) rfl (hb hby at_205) (by decide) (by decide) k) ?_
          show own_FinH _ _ _ _ _ _ _ _ _ T71_ (mkF m 209 #[.val (.int p1), .val (.int p2), .val (.int p3), .val (.int p4), .val (.int p5), .val (.int p6), .val (.int (4 : Int32)), .val (.int c1), .val (.int c2), .val (.int c3), .val (.int c4), .val (.int c5), .val (.ref x63_), .val (.int r), .unset, .val (.int c4), .unset] [(.int (1 : Int32))])
          refine own_viaH (fun _ k => XS.istore X71_.here hx rfl (hb hby at_209) rfl (l' := #[.val (.int p1), .val (.int p2), .val (.int p3), .val (.int p4), .val (.int p5), .val (.int p6), .val (.int (4 : Int32)), .val (.int c1), .val (.int c2), .val (.int c3), .val (.int c4), .val (.int c5), .val (.ref x63_), .val (.int r), .unset, .val (.int c4), .val (.int (1 : Int32))]) rfl k) ?_
          show own_FinH _ _ _ _ _ _ _ _ _ T71_ (mkF m 211 #[.val (.int p1), .val (.int p2), .val (.int p3), .val (.int p4), .val (.int p5), .val (.int p6), .val (.int (4 : Int32)), .val (.int c1), .val (.int c2), .val (.int c3), .val (.int c4), .val (.int c5), .val (.ref x63_), .val (.int r), .unset, .val (.int c4), .val (.int (1 : Int32))] [])
          exact s211 _ (Or.inl ⟨rfl, Or.inl (⟨ha, hbb⟩)⟩)
        · refine own_viaH (fun _ k => XS.icmpNo X71_.here hx rfl (hb hby at_141) rfl (feq hbb).1 k) ?_
          show own_FinH _ _ _ _ _ _ _ _ _ T71_ (mkF m 144 #[.val (.int p1), .val (.int p2), .val (.int p3), .val (.int p4), .val (.int p5), .val (.int p6), .val (.int (4 : Int32)), .val (.int c1), .val (.int c2), .val (.int c3), .val (.int c4), .val (.int c5), .val (.ref x63_), .val (.int r), .unset, .val (.int c4), .unset] [])
          exact sp0 (fun q => hbb q.2)
      · refine own_viaH (fun _ k => XS.icmpYes X71_.here hx rfl (pc0 := 134) (pc' := 144) rfl (hb hby at_134) rfl (feq ha).2 (by decide) (by decide) k) ?_
        show own_FinH _ _ _ _ _ _ _ _ _ T71_ (mkF m 144 #[.val (.int p1), .val (.int p2), .val (.int p3), .val (.int p4), .val (.int p5), .val (.int p6), .val (.int (4 : Int32)), .val (.int c1), .val (.int c2), .val (.int c3), .val (.int c4), .val (.int c5), .val (.ref x63_), .val (.int r), .unset, .val (.int c4), .unset] [])
        exact sp0 (fun q => ha q.1)
    · show own_FinH _ _ _ _ _ _ _ _ _ T5_ (mkF m 41 #[.val (.int p1), .val (.int p2), .val (.int p3), .val (.int p4), .val (.int p5), .val (.int p6), .val (.int (5 : Int32)), .val (.int c1), .val (.int c2), .val (.int c3), .val (.int c4), .val (.int c5), .unset, .unset, .unset, .unset, .unset] [])
      refine own_viaH (fun _ k => XS.iload X5_.here hx rfl (hb hby at_41) rfl k) ?_
      show own_FinH _ _ _ _ _ _ _ _ _ T5_ (mkF m 43 #[.val (.int p1), .val (.int p2), .val (.int p3), .val (.int p4), .val (.int p5), .val (.int p6), .val (.int (5 : Int32)), .val (.int c1), .val (.int c2), .val (.int c3), .val (.int c4), .val (.int c5), .unset, .unset, .unset, .unset, .unset] [(.int (5 : Int32))])
      refine own_viaH (fun _ k => XS.iload X5_.here hx rfl (hb hby at_43) rfl k) ?_
      show own_FinH _ _ _ _ _ _ _ _ _ T5_ (mkF m 45 #[.val (.int p1), .val (.int p2), .val (.int p3), .val (.int p4), .val (.int p5), .val (.int p6), .val (.int (5 : Int32)), .val (.int c1), .val (.int c2), .val (.int c3), .val (.int c4), .val (.int c5), .unset, .unset, .unset, .unset, .unset] [(.int c1), (.int (5 : Int32))])
      refine own_viaH (fun _ k => XS.iload X5_.here hx rfl (hb hby at_45) rfl k) ?_
      show own_FinH _ _ _ _ _ _ _ _ _ T5_ (mkF m 47 #[.val (.int p1), .val (.int p2), .val (.int p3), .val (.int p4), .val (.int p5), .val (.int p6), .val (.int (5 : Int32)), .val (.int c1), .val (.int c2), .val (.int c3), .val (.int c4), .val (.int c5), .unset, .unset, .unset, .unset, .unset] [(.int c2), (.int c1), (.int (5 : Int32))])
      refine own_viaH (fun _ k => XS.iload X5_.here hx rfl (hb hby at_47) rfl k) ?_
      show own_FinH _ _ _ _ _ _ _ _ _ T5_ (mkF m 49 #[.val (.int p1), .val (.int p2), .val (.int p3), .val (.int p4), .val (.int p5), .val (.int p6), .val (.int (5 : Int32)), .val (.int c1), .val (.int c2), .val (.int c3), .val (.int c4), .val (.int c5), .unset, .unset, .unset, .unset, .unset] [(.int c3), (.int c2), (.int c1), (.int (5 : Int32))])
      refine own_viaH (fun _ k => XS.iload X5_.here hx rfl (hb hby at_49) rfl k) ?_
      show own_FinH _ _ _ _ _ _ _ _ _ T5_ (mkF m 51 #[.val (.int p1), .val (.int p2), .val (.int p3), .val (.int p4), .val (.int p5), .val (.int p6), .val (.int (5 : Int32)), .val (.int c1), .val (.int c2), .val (.int c3), .val (.int c4), .val (.int c5), .unset, .unset, .unset, .unset, .unset] [(.int c4), (.int c3), (.int c2), (.int c1), (.int (5 : Int32))])
      refine own_viaH (fun _ k => XS.iload X5_.here hx rfl (hb hby at_51) rfl k) ?_
      show own_FinH _ _ _ _ _ _ _ _ _ T5_ (mkF m 53 #[.val (.int p1), .val (.int p2), .val (.int p3), .val (.int p4), .val (.int p5), .val (.int p6), .val (.int (5 : Int32)), .val (.int c1), .val (.int c2), .val (.int c3), .val (.int c4), .val (.int c5), .unset, .unset, .unset, .unset, .unset] [(.int c5), (.int c4), (.int c3), (.int c2), (.int c1), (.int (5 : Int32))])
      obtain ⟨_, _, ⟨T77_, L77_, k77_, n77_⟩, -, X77_, ⟨Lc77_, hQ77_, l77_, y77_, z77_⟩, st77_⟩ := Jvm.LawKit.callS X5_ hx (y := (⟨"com/example/dependency_container/dependencycontainer/BeanDefinitionIsPropertyPathPinLaw", "make", "(ICCCCC)Ljava/lang/String;"⟩ : MethodName)) hown (mvT hZ (hw _ (List.mem_of_getElem? (i := 4) rfl))) (mvT hZ (hw _ (List.mem_of_getElem? (i := 5) rfl))) (mvT hZ (hw _ (List.mem_of_getElem? (i := 2) rfl))) (mvT hZ (hw _ (List.mem_of_getElem? (i := 6) rfl))) (by decide) (backOf (W := 0) (own_rm_make5 l Z a0 hw [] c1 c2 c3 c4 c5 cz h0 n0 Z0 O0 S1 (by first | assumption | decide) (by first | assumption | decide) (by first | assumption | decide) (by first | assumption | decide) (by first | assumption | decide) (by first | assumption | decide)) hZ (hw _ (List.mem_of_getElem? (i := 6) rfl)) (hw _ (List.mem_of_getElem? (i := 2) rfl)) (by decide) (by decide)) (g := (mkF m 53 #[.val (.int p1), .val (.int p2), .val (.int p3), .val (.int p4), .val (.int p5), .val (.int p6), .val (.int (5 : Int32)), .val (.int c1), .val (.int c2), .val (.int c3), .val (.int c4), .val (.int c5), .unset, .unset, .unset, .unset, .unset] [(.int c5), (.int c4), (.int c3), (.int c2), (.int c1), (.int (5 : Int32))])) rfl (by rw [hml]; rfl) (argsL := [(.int (5 : Int32)), (.int c1), (.int c2), (.int c3), (.int c4), (.int c5)]) (rest := []) (lenOf own_pd18 rfl) rfl (by show 2 * 0 + _ ≤ _; exact Nat.le_of_eq rfl) (hb hby at_53) (fun _ _ => ⟨rfl, hh5_, (by decide : 0 + 0 + 0 + 0 + 0 + 0 + 3 ≤ _), (by decide : 0 + 0 + 0 + 0 + 0 + 0 + 14 ≤ _)⟩)
      dsimp only [Pt.U, Pt.locs, Pt.cells, Pt.slots] at X77_ l77_ y77_ z77_ st77_ hQ77_
      subst l77_ y77_ z77_
      obtain ⟨x78_, t79_, kt80_, rfl, Nq77_, K77_, r81_, r82_, r83_, r84_, r85_⟩ := hQ77_
      have N77_ := Fr.app N5_ Nq77_
      refine own_viaH (fun _ k => st77_ _ k) ?_
      show own_FinH _ _ _ _ _ _ _ _ _ T77_ (mkF m 56 #[.val (.int p1), .val (.int p2), .val (.int p3), .val (.int p4), .val (.int p5), .val (.int p6), .val (.int (5 : Int32)), .val (.int c1), .val (.int c2), .val (.int c3), .val (.int c4), .val (.int c5), .unset, .unset, .unset, .unset, .unset] [(.ref x78_)])
      refine own_viaH (fun _ k => XS.astore X77_.here hx rfl (hb hby at_56) rfl rfl (l' := #[.val (.int p1), .val (.int p2), .val (.int p3), .val (.int p4), .val (.int p5), .val (.int p6), .val (.int (5 : Int32)), .val (.int c1), .val (.int c2), .val (.int c3), .val (.int c4), .val (.int c5), .val (.ref x78_), .unset, .unset, .unset, .unset]) rfl k) ?_
      show own_FinH _ _ _ _ _ _ _ _ _ T77_ (mkF m 58 #[.val (.int p1), .val (.int p2), .val (.int p3), .val (.int p4), .val (.int p5), .val (.int p6), .val (.int (5 : Int32)), .val (.int c1), .val (.int c2), .val (.int c3), .val (.int c4), .val (.int c5), .val (.ref x78_), .unset, .unset, .unset, .unset] [])
      refine own_viaH (fun _ k => XS.aload X77_.here hx rfl (hb hby at_58) rfl rfl k) ?_
      show own_FinH _ _ _ _ _ _ _ _ _ T77_ (mkF m 60 #[.val (.int p1), .val (.int p2), .val (.int p3), .val (.int p4), .val (.int p5), .val (.int p6), .val (.int (5 : Int32)), .val (.int c1), .val (.int c2), .val (.int c3), .val (.int c4), .val (.int c5), .val (.ref x78_), .unset, .unset, .unset, .unset] [(.ref x78_)])
      have C87_ := C0.trans (CHr.keep K77_ sf0 H0)
      have H87_ := C87_.1
      obtain ⟨_, _, ⟨T86_, L86_, k86_, n86_⟩, -, Y86_, hSq86_, hgq86_, ⟨Lc86_, hQ86_, l86_, y86_, z86_, Cq86_⟩, st86_⟩ := callSS X77_ hx (y := (⟨"com/example/dependency_container/dependencycontainer/BeanDefinition", "isPropertyPath", "(Ljava/lang/String;)Z"⟩ : MethodName)) hown (mvT hZ (hw _ (List.mem_of_getElem? (i := 29) rfl))) (mvT hZ (hw _ (List.mem_of_getElem? (i := 30) rfl))) (mvT hZ (hw _ (List.mem_of_getElem? (i := 31) rfl))) (mvT hZ (hw _ (List.mem_of_getElem? (i := 32) rfl))) (by decide) (backOfSH (s := s) (vm0 := s.vm) (W := 0) (own_rm_ipp l Z a0 hw [] x78_ cz t79_ kt80_ (5 : Int32) ([c1.toInt8.toInt32, c2.toInt8.toInt32, c3.toInt8.toInt32, c4.toInt8.toInt32, c5.toInt8.toInt32]) 5 fm T77_.heap n0 (Nat.le_trans Z0 K77_.1) (O0.keep K77_ all0) S1 (by first | assumption | decide) r82_ r83_ r84_ r85_ S2 r_fm rfl (by decide) (by decide) (own_bytes [c1, c2, c3, c4, c5])) hZ (hw _ (List.mem_of_getElem? (i := 32) rfl)) (hw _ (List.mem_of_getElem? (i := 31) rfl)) (by decide) (by decide) (own_ew hw) H87_) (g := (mkF m 60 #[.val (.int p1), .val (.int p2), .val (.int p3), .val (.int p4), .val (.int p5), .val (.int p6), .val (.int (5 : Int32)), .val (.int c1), .val (.int c2), .val (.int c3), .val (.int c4), .val (.int c5), .val (.ref x78_), .unset, .unset, .unset, .unset] [(.ref x78_)])) rfl (by rw [hml]; rfl) (argsL := [(.ref x78_)]) (rest := []) (lenOf own_pd19 rfl) rfl (by show 2 * 0 + _ ≤ _; exact Nat.le_of_eq rfl) (hb hby at_60) (fun _ _ => ⟨rfl, rfl, (by decide : 0 + 0 + 0 + 0 + 0 + 0 + 3 + 2 ≤ _), (by decide : 0 + 0 + 0 + 0 + 0 + 0 + 14 + 12 ≤ _)⟩)
      dsimp only [Pt.U, Pt.locs, Pt.cells, Pt.slots] at Y86_ l86_ y86_ z86_ st86_ hQ86_ hSq86_ hgq86_ Cq86_
      subst l86_ y86_ z86_
      obtain ⟨X86_, hS86_, hZ86_, hown86_⟩ := rebS hS0 ((Nat.le_trans hk0 K77_.1)) Y86_ hSq86_ hgq86_ hZ hown
      obtain ⟨r, rfl, Nq86_, K86_, hr⟩ := hQ86_
      have N86_ := Fr.app N77_ Nq86_
      refine own_viaH (fun _ k => st86_.trans k) ?_
      show own_FinH _ _ _ _ _ _ _ _ _ T86_ (mkF m 63 #[.val (.int p1), .val (.int p2), .val (.int p3), .val (.int p4), .val (.int p5), .val (.int p6), .val (.int (5 : Int32)), .val (.int c1), .val (.int c2), .val (.int c3), .val (.int c4), .val (.int c5), .val (.ref x78_), .unset, .unset, .unset, .unset] [(.int r)])
      have G := own_good_5 hc1 hc2 hc3 hc4 hc5
      refine own_viaH (fun _ k => XS.istore X86_.here hx rfl (hb hby at_63) rfl (l' := #[.val (.int p1), .val (.int p2), .val (.int p3), .val (.int p4), .val (.int p5), .val (.int p6), .val (.int (5 : Int32)), .val (.int c1), .val (.int c2), .val (.int c3), .val (.int c4), .val (.int c5), .val (.ref x78_), .val (.int r), .unset, .unset, .unset]) rfl k) ?_
      show own_FinH _ _ _ _ _ _ _ _ _ T86_ (mkF m 65 #[.val (.int p1), .val (.int p2), .val (.int p3), .val (.int p4), .val (.int p5), .val (.int p6), .val (.int (5 : Int32)), .val (.int c1), .val (.int c2), .val (.int c3), .val (.int c4), .val (.int c5), .val (.ref x78_), .val (.int r), .unset, .unset, .unset] [])
      refine own_viaH (fun _ k => XS.iload X86_.here hx rfl (hb hby at_65) rfl k) ?_
      show own_FinH _ _ _ _ _ _ _ _ _ T86_ (mkF m 67 #[.val (.int p1), .val (.int p2), .val (.int p3), .val (.int p4), .val (.int p5), .val (.int p6), .val (.int (5 : Int32)), .val (.int c1), .val (.int c2), .val (.int c3), .val (.int c4), .val (.int c5), .val (.ref x78_), .val (.int r), .unset, .unset, .unset] [(.int (5 : Int32))])
      refine own_viaH (fun _ k => XS.ifYes X86_.here hx rfl (pc0 := 67) (pc' := 76) rfl (hb hby at_67) rfl ((if0 _ _).trans (feq (by decide)).2) (by decide) (by decide) k) ?_
      show own_FinH _ _ _ _ _ _ _ _ _ T86_ (mkF m 76 #[.val (.int p1), .val (.int p2), .val (.int p3), .val (.int p4), .val (.int p5), .val (.int p6), .val (.int (5 : Int32)), .val (.int c1), .val (.int c2), .val (.int c3), .val (.int c4), .val (.int c5), .val (.ref x78_), .val (.int r), .unset, .unset, .unset] [])
      refine own_viaH (fun _ k => XS.iload X86_.here hx rfl (hb hby at_76) rfl k) ?_
      show own_FinH _ _ _ _ _ _ _ _ _ T86_ (mkF m 78 #[.val (.int p1), .val (.int p2), .val (.int p3), .val (.int p4), .val (.int p5), .val (.int p6), .val (.int (5 : Int32)), .val (.int c1), .val (.int c2), .val (.int c3), .val (.int c4), .val (.int c5), .val (.ref x78_), .val (.int r), .unset, .unset, .unset] [(.int (5 : Int32))])
      refine own_viaH (fun _ k => XS.iconst X86_.here hx rfl (hb hby at_78) k) ?_
      show own_FinH _ _ _ _ _ _ _ _ _ T86_ (mkF m 79 #[.val (.int p1), .val (.int p2), .val (.int p3), .val (.int p4), .val (.int p5), .val (.int p6), .val (.int (5 : Int32)), .val (.int c1), .val (.int c2), .val (.int c3), .val (.int c4), .val (.int c5), .val (.ref x78_), .val (.int r), .unset, .unset, .unset] [(.int (1 : Int32)), (.int (5 : Int32))])
      refine own_viaH (fun _ k => XS.icmpYes X86_.here hx rfl (pc0 := 79) (pc' := 87) rfl (hb hby at_79) rfl (feq (by decide)).2 (by decide) (by decide) k) ?_
      show own_FinH _ _ _ _ _ _ _ _ _ T86_ (mkF m 87 #[.val (.int p1), .val (.int p2), .val (.int p3), .val (.int p4), .val (.int p5), .val (.int p6), .val (.int (5 : Int32)), .val (.int c1), .val (.int c2), .val (.int c3), .val (.int c4), .val (.int c5), .val (.ref x78_), .val (.int r), .unset, .unset, .unset] [])
      refine own_viaH (fun _ k => XS.iload X86_.here hx rfl (hb hby at_87) rfl k) ?_
      show own_FinH _ _ _ _ _ _ _ _ _ T86_ (mkF m 89 #[.val (.int p1), .val (.int p2), .val (.int p3), .val (.int p4), .val (.int p5), .val (.int p6), .val (.int (5 : Int32)), .val (.int c1), .val (.int c2), .val (.int c3), .val (.int c4), .val (.int c5), .val (.ref x78_), .val (.int r), .unset, .unset, .unset] [(.int (5 : Int32))])
      refine own_viaH (fun _ k => XS.iconst X86_.here hx rfl (hb hby at_89) k) ?_
      show own_FinH _ _ _ _ _ _ _ _ _ T86_ (mkF m 90 #[.val (.int p1), .val (.int p2), .val (.int p3), .val (.int p4), .val (.int p5), .val (.int p6), .val (.int (5 : Int32)), .val (.int c1), .val (.int c2), .val (.int c3), .val (.int c4), .val (.int c5), .val (.ref x78_), .val (.int r), .unset, .unset, .unset] [(.int (2 : Int32)), (.int (5 : Int32))])
      refine own_viaH (fun _ k => XS.icmpYes X86_.here hx rfl (pc0 := 90) (pc' := 98) rfl (hb hby at_90) rfl (feq (by decide)).2 (by decide) (by decide) k) ?_
      show own_FinH _ _ _ _ _ _ _ _ _ T86_ (mkF m 98 #[.val (.int p1), .val (.int p2), .val (.int p3), .val (.int p4), .val (.int p5), .val (.int p6), .val (.int (5 : Int32)), .val (.int c1), .val (.int c2), .val (.int c3), .val (.int c4), .val (.int c5), .val (.ref x78_), .val (.int r), .unset, .unset, .unset] [])
      refine own_viaH (fun _ k => XS.iload X86_.here hx rfl (hb hby at_98) rfl k) ?_
      show own_FinH _ _ _ _ _ _ _ _ _ T86_ (mkF m 100 #[.val (.int p1), .val (.int p2), .val (.int p3), .val (.int p4), .val (.int p5), .val (.int p6), .val (.int (5 : Int32)), .val (.int c1), .val (.int c2), .val (.int c3), .val (.int c4), .val (.int c5), .val (.ref x78_), .val (.int r), .unset, .unset, .unset] [(.int (5 : Int32))])
      refine own_viaH (fun _ k => XS.iconst X86_.here hx rfl (hb hby at_100) k) ?_
      show own_FinH _ _ _ _ _ _ _ _ _ T86_ (mkF m 101 #[.val (.int p1), .val (.int p2), .val (.int p3), .val (.int p4), .val (.int p5), .val (.int p6), .val (.int (5 : Int32)), .val (.int c1), .val (.int c2), .val (.int c3), .val (.int c4), .val (.int c5), .val (.ref x78_), .val (.int r), .unset, .unset, .unset] [(.int (3 : Int32)), (.int (5 : Int32))])
      refine own_viaH (fun _ k => XS.icmpYes X86_.here hx rfl (pc0 := 101) (pc' := 109) rfl (hb hby at_101) rfl (feq (by decide)).2 (by decide) (by decide) k) ?_
      show own_FinH _ _ _ _ _ _ _ _ _ T86_ (mkF m 109 #[.val (.int p1), .val (.int p2), .val (.int p3), .val (.int p4), .val (.int p5), .val (.int p6), .val (.int (5 : Int32)), .val (.int c1), .val (.int c2), .val (.int c3), .val (.int c4), .val (.int c5), .val (.ref x78_), .val (.int r), .unset, .unset, .unset] [])
      refine own_viaH (fun _ k => XS.iload X86_.here hx rfl (hb hby at_109) rfl k) ?_
      show own_FinH _ _ _ _ _ _ _ _ _ T86_ (mkF m 111 #[.val (.int p1), .val (.int p2), .val (.int p3), .val (.int p4), .val (.int p5), .val (.int p6), .val (.int (5 : Int32)), .val (.int c1), .val (.int c2), .val (.int c3), .val (.int c4), .val (.int c5), .val (.ref x78_), .val (.int r), .unset, .unset, .unset] [(.int (5 : Int32))])
      refine own_viaH (fun _ k => XS.iconst X86_.here hx rfl (hb hby at_111) k) ?_
      show own_FinH _ _ _ _ _ _ _ _ _ T86_ (mkF m 112 #[.val (.int p1), .val (.int p2), .val (.int p3), .val (.int p4), .val (.int p5), .val (.int p6), .val (.int (5 : Int32)), .val (.int c1), .val (.int c2), .val (.int c3), .val (.int c4), .val (.int c5), .val (.ref x78_), .val (.int r), .unset, .unset, .unset] [(.int (4 : Int32)), (.int (5 : Int32))])
      refine own_viaH (fun _ k => XS.icmpYes X86_.here hx rfl (pc0 := 112) (pc' := 120) rfl (hb hby at_112) rfl (feq (by decide)).2 (by decide) (by decide) k) ?_
      show own_FinH _ _ _ _ _ _ _ _ _ T86_ (mkF m 120 #[.val (.int p1), .val (.int p2), .val (.int p3), .val (.int p4), .val (.int p5), .val (.int p6), .val (.int (5 : Int32)), .val (.int c1), .val (.int c2), .val (.int c3), .val (.int c4), .val (.int c5), .val (.ref x78_), .val (.int r), .unset, .unset, .unset] [])
      refine own_viaH (fun _ k => XS.iload X86_.here hx rfl (hb hby at_120) rfl k) ?_
      show own_FinH _ _ _ _ _ _ _ _ _ T86_ (mkF m 122 #[.val (.int p1), .val (.int p2), .val (.int p3), .val (.int p4), .val (.int p5), .val (.int p6), .val (.int (5 : Int32)), .val (.int c1), .val (.int c2), .val (.int c3), .val (.int c4), .val (.int c5), .val (.ref x78_), .val (.int r), .unset, .unset, .unset] [(.int c5)])
      refine own_viaH (fun _ k => XS.istore X86_.here hx rfl (hb hby at_122) rfl (l' := #[.val (.int p1), .val (.int p2), .val (.int p3), .val (.int p4), .val (.int p5), .val (.int p6), .val (.int (5 : Int32)), .val (.int c1), .val (.int c2), .val (.int c3), .val (.int c4), .val (.int c5), .val (.ref x78_), .val (.int r), .unset, .val (.int c5), .unset]) rfl k) ?_
      show own_FinH _ _ _ _ _ _ _ _ _ T86_ (mkF m 124 #[.val (.int p1), .val (.int p2), .val (.int p3), .val (.int p4), .val (.int p5), .val (.int p6), .val (.int (5 : Int32)), .val (.int c1), .val (.int c2), .val (.int c3), .val (.int c4), .val (.int c5), .val (.ref x78_), .val (.int r), .unset, .val (.int c5), .unset] [])
      refine own_viaH (fun _ k => XS.iload X86_.here hx rfl (hb hby at_124) rfl k) ?_
      show own_FinH _ _ _ _ _ _ _ _ _ T86_ (mkF m 126 #[.val (.int p1), .val (.int p2), .val (.int p3), .val (.int p4), .val (.int p5), .val (.int p6), .val (.int (5 : Int32)), .val (.int c1), .val (.int c2), .val (.int c3), .val (.int c4), .val (.int c5), .val (.ref x78_), .val (.int r), .unset, .val (.int c5), .unset] [(.int (5 : Int32))])
      refine own_viaH (fun _ k => XS.iconst X86_.here hx rfl (hb hby at_126) k) ?_
      show own_FinH _ _ _ _ _ _ _ _ _ T86_ (mkF m 127 #[.val (.int p1), .val (.int p2), .val (.int p3), .val (.int p4), .val (.int p5), .val (.int p6), .val (.int (5 : Int32)), .val (.int c1), .val (.int c2), .val (.int c3), .val (.int c4), .val (.int c5), .val (.ref x78_), .val (.int r), .unset, .val (.int c5), .unset] [(.int (2 : Int32)), (.int (5 : Int32))])
      have s211 : ∀ (dd : Int32) (hdd : (dd = (1 : Int32) ∧ ((c1 = (46 : Int32) ∧ c2 = (46 : Int32)) ∨ (c2 = (46 : Int32) ∧ c3 = (46 : Int32)) ∨ (c3 = (46 : Int32) ∧ c4 = (46 : Int32)) ∨ (c4 = (46 : Int32) ∧ c5 = (46 : Int32)))) ∨ (dd = (0 : Int32) ∧ ¬ ((c1 = (46 : Int32) ∧ c2 = (46 : Int32)) ∨ (c2 = (46 : Int32) ∧ c3 = (46 : Int32)) ∨ (c3 = (46 : Int32) ∧ c4 = (46 : Int32)) ∨ (c4 = (46 : Int32) ∧ c5 = (46 : Int32))))), own_FinH p e s below Z own_EL (own_Q_law Z p1 p2 p3 p4 p5 p6 cz fm h0 n0) room_1.cells room_1.slots T86_ (mkF m 211 #[.val (.int p1), .val (.int p2), .val (.int p3), .val (.int p4), .val (.int p5), .val (.int p6), .val (.int (5 : Int32)), .val (.int c1), .val (.int c2), .val (.int c3), .val (.int c4), .val (.int c5), .val (.ref x78_), .val (.int r), .unset, .val (.int c5), .val (.int dd)] []) := by
        intro dd hdd
        refine own_viaH (fun _ k => XS.iload X86_.here hx rfl (hb hby at_211) rfl k) ?_
        show own_FinH _ _ _ _ _ _ _ _ _ T86_ (mkF m 213 #[.val (.int p1), .val (.int p2), .val (.int p3), .val (.int p4), .val (.int p5), .val (.int p6), .val (.int (5 : Int32)), .val (.int c1), .val (.int c2), .val (.int c3), .val (.int c4), .val (.int c5), .val (.ref x78_), .val (.int r), .unset, .val (.int c5), .val (.int dd)] [(.int c1)])
        refine own_viaH (fun _ k => XS.bipush X86_.here hx rfl (hb hby at_213) k) ?_
        show own_FinH _ _ _ _ _ _ _ _ _ T86_ (mkF m 215 #[.val (.int p1), .val (.int p2), .val (.int p3), .val (.int p4), .val (.int p5), .val (.int p6), .val (.int (5 : Int32)), .val (.int c1), .val (.int c2), .val (.int c3), .val (.int c4), .val (.int c5), .val (.ref x78_), .val (.int r), .unset, .val (.int c5), .val (.int dd)] [(.int (46 : Int32)), (.int c1)])
        rcases Classical.em (c1 = (46 : Int32)) with hA | hA
        · refine own_viaH (fun _ k => XS.icmpYes X86_.here hx rfl (pc0 := 215) (pc' := 234) rfl (hb hby at_215) rfl (teq hA).1 (by decide) (by decide) k) ?_
          show own_FinH _ _ _ _ _ _ _ _ _ T86_ (mkF m 234 #[.val (.int p1), .val (.int p2), .val (.int p3), .val (.int p4), .val (.int p5), .val (.int p6), .val (.int (5 : Int32)), .val (.int c1), .val (.int c2), .val (.int c3), .val (.int c4), .val (.int c5), .val (.ref x78_), .val (.int r), .unset, .val (.int c5), .val (.int dd)] [])
          refine own_viaH (fun _ k => XS.iconst X86_.here hx rfl (hb hby at_234) k) ?_
          show own_FinH _ _ _ _ _ _ _ _ _ T86_ (mkF m 235 #[.val (.int p1), .val (.int p2), .val (.int p3), .val (.int p4), .val (.int p5), .val (.int p6), .val (.int (5 : Int32)), .val (.int c1), .val (.int c2), .val (.int c3), .val (.int c4), .val (.int c5), .val (.ref x78_), .val (.int r), .unset, .val (.int c5), .val (.int dd)] [(.int (0 : Int32))])
          refine own_viaH (fun _ k => XS.istore X86_.here hx rfl (hb hby at_235) rfl (l' := #[.val (.int p1), .val (.int p2), .val (.int p3), .val (.int p4), .val (.int p5), .val (.int p6), .val (.int (5 : Int32)), .val (.int c1), .val (.int c2), .val (.int c3), .val (.int c4), .val (.int c5), .val (.ref x78_), .val (.int r), .val (.int (0 : Int32)), .val (.int c5), .val (.int dd)]) rfl k) ?_
          show own_FinH _ _ _ _ _ _ _ _ _ T86_ (mkF m 237 #[.val (.int p1), .val (.int p2), .val (.int p3), .val (.int p4), .val (.int p5), .val (.int p6), .val (.int (5 : Int32)), .val (.int c1), .val (.int c2), .val (.int c3), .val (.int c4), .val (.int c5), .val (.ref x78_), .val (.int r), .val (.int (0 : Int32)), .val (.int c5), .val (.int dd)] [])
          refine own_viaH (fun _ k => XS.iload X86_.here hx rfl (hb hby at_237) rfl k) ?_
          show own_FinH _ _ _ _ _ _ _ _ _ T86_ (mkF m 239 #[.val (.int p1), .val (.int p2), .val (.int p3), .val (.int p4), .val (.int p5), .val (.int p6), .val (.int (5 : Int32)), .val (.int c1), .val (.int c2), .val (.int c3), .val (.int c4), .val (.int c5), .val (.ref x78_), .val (.int r), .val (.int (0 : Int32)), .val (.int c5), .val (.int dd)] [(.int r)])
          refine own_viaH (fun _ k => XS.iload X86_.here hx rfl (hb hby at_239) rfl k) ?_
          show own_FinH _ _ _ _ _ _ _ _ _ T86_ (mkF m 241 #[.val (.int p1), .val (.int p2), .val (.int p3), .val (.int p4), .val (.int p5), .val (.int p6), .val (.int (5 : Int32)), .val (.int c1), .val (.int c2), .val (.int c3), .val (.int c4), .val (.int c5), .val (.ref x78_), .val (.int r), .val (.int (0 : Int32)), .val (.int c5), .val (.int dd)] [(.int (0 : Int32)), (.int r)])
          refine own_viaH (fun _ k => XS.icmpNo X86_.here hx rfl (hb hby at_241) rfl (teq (hr.elim (fun q => absurd hA (G.mp q.2).1) (fun q => q.1))).2 k) ?_
          show own_FinH _ _ _ _ _ _ _ _ _ T86_ (mkF m 244 #[.val (.int p1), .val (.int p2), .val (.int p3), .val (.int p4), .val (.int p5), .val (.int p6), .val (.int (5 : Int32)), .val (.int c1), .val (.int c2), .val (.int c3), .val (.int c4), .val (.int c5), .val (.ref x78_), .val (.int r), .val (.int (0 : Int32)), .val (.int c5), .val (.int dd)] [])
          refine own_viaH (fun _ k => XS.iconst X86_.here hx rfl (hb hby at_244) k) ?_
          show own_FinH _ _ _ _ _ _ _ _ _ T86_ (mkF m 245 #[.val (.int p1), .val (.int p2), .val (.int p3), .val (.int p4), .val (.int p5), .val (.int p6), .val (.int (5 : Int32)), .val (.int c1), .val (.int c2), .val (.int c3), .val (.int c4), .val (.int c5), .val (.ref x78_), .val (.int r), .val (.int (0 : Int32)), .val (.int c5), .val (.int dd)] [(.int (1 : Int32))])
          refine own_viaH (fun _ k => XS.goto X86_.here hx rfl (pc0 := 245) (pc' := 249) rfl (hb hby at_245) (by decide) (by decide) k) ?_
          show own_FinH _ _ _ _ _ _ _ _ _ T86_ (mkF m 249 #[.val (.int p1), .val (.int p2), .val (.int p3), .val (.int p4), .val (.int p5), .val (.int p6), .val (.int (5 : Int32)), .val (.int c1), .val (.int c2), .val (.int c3), .val (.int c4), .val (.int c5), .val (.ref x78_), .val (.int r), .val (.int (0 : Int32)), .val (.int c5), .val (.int dd)] [(.int (1 : Int32))])
          have C88_ := C87_.trans Cq86_
          have H88_ := C88_.1
          exact own_retNH X86_ hx (t := .boolean) Bd.returns Bd.notSynchronized (own_ew hw) hZ86_ hS86_ (Nat.le_refl _) hh C88_ (by simp) (hb hby at_249) rfl rfl ⟨rfl, N86_⟩ (by decide) (by decide)
        · refine own_viaH (fun _ k => XS.icmpNo X86_.here hx rfl (hb hby at_215) rfl (feq hA).1 k) ?_
          show own_FinH _ _ _ _ _ _ _ _ _ T86_ (mkF m 218 #[.val (.int p1), .val (.int p2), .val (.int p3), .val (.int p4), .val (.int p5), .val (.int p6), .val (.int (5 : Int32)), .val (.int c1), .val (.int c2), .val (.int c3), .val (.int c4), .val (.int c5), .val (.ref x78_), .val (.int r), .unset, .val (.int c5), .val (.int dd)] [])
          refine own_viaH (fun _ k => XS.iload X86_.here hx rfl (hb hby at_218) rfl k) ?_
          show own_FinH _ _ _ _ _ _ _ _ _ T86_ (mkF m 220 #[.val (.int p1), .val (.int p2), .val (.int p3), .val (.int p4), .val (.int p5), .val (.int p6), .val (.int (5 : Int32)), .val (.int c1), .val (.int c2), .val (.int c3), .val (.int c4), .val (.int c5), .val (.ref x78_), .val (.int r), .unset, .val (.int c5), .val (.int dd)] [(.int c5)])
          refine own_viaH (fun _ k => XS.bipush X86_.here hx rfl (hb hby at_220) k) ?_
          show own_FinH _ _ _ _ _ _ _ _ _ T86_ (mkF m 222 #[.val (.int p1), .val (.int p2), .val (.int p3), .val (.int p4), .val (.int p5), .val (.int p6), .val (.int (5 : Int32)), .val (.int c1), .val (.int c2), .val (.int c3), .val (.int c4), .val (.int c5), .val (.ref x78_), .val (.int r), .unset, .val (.int c5), .val (.int dd)] [(.int (46 : Int32)), (.int c5)])
          rcases Classical.em (c5 = (46 : Int32)) with hB | hB
          · refine own_viaH (fun _ k => XS.icmpYes X86_.here hx rfl (pc0 := 222) (pc' := 234) rfl (hb hby at_222) rfl (teq hB).1 (by decide) (by decide) k) ?_
            show own_FinH _ _ _ _ _ _ _ _ _ T86_ (mkF m 234 #[.val (.int p1), .val (.int p2), .val (.int p3), .val (.int p4), .val (.int p5), .val (.int p6), .val (.int (5 : Int32)), .val (.int c1), .val (.int c2), .val (.int c3), .val (.int c4), .val (.int c5), .val (.ref x78_), .val (.int r), .unset, .val (.int c5), .val (.int dd)] [])
            refine own_viaH (fun _ k => XS.iconst X86_.here hx rfl (hb hby at_234) k) ?_
            show own_FinH _ _ _ _ _ _ _ _ _ T86_ (mkF m 235 #[.val (.int p1), .val (.int p2), .val (.int p3), .val (.int p4), .val (.int p5), .val (.int p6), .val (.int (5 : Int32)), .val (.int c1), .val (.int c2), .val (.int c3), .val (.int c4), .val (.int c5), .val (.ref x78_), .val (.int r), .unset, .val (.int c5), .val (.int dd)] [(.int (0 : Int32))])
            refine own_viaH (fun _ k => XS.istore X86_.here hx rfl (hb hby at_235) rfl (l' := #[.val (.int p1), .val (.int p2), .val (.int p3), .val (.int p4), .val (.int p5), .val (.int p6), .val (.int (5 : Int32)), .val (.int c1), .val (.int c2), .val (.int c3), .val (.int c4), .val (.int c5), .val (.ref x78_), .val (.int r), .val (.int (0 : Int32)), .val (.int c5), .val (.int dd)]) rfl k) ?_
            show own_FinH _ _ _ _ _ _ _ _ _ T86_ (mkF m 237 #[.val (.int p1), .val (.int p2), .val (.int p3), .val (.int p4), .val (.int p5), .val (.int p6), .val (.int (5 : Int32)), .val (.int c1), .val (.int c2), .val (.int c3), .val (.int c4), .val (.int c5), .val (.ref x78_), .val (.int r), .val (.int (0 : Int32)), .val (.int c5), .val (.int dd)] [])
            refine own_viaH (fun _ k => XS.iload X86_.here hx rfl (hb hby at_237) rfl k) ?_
            show own_FinH _ _ _ _ _ _ _ _ _ T86_ (mkF m 239 #[.val (.int p1), .val (.int p2), .val (.int p3), .val (.int p4), .val (.int p5), .val (.int p6), .val (.int (5 : Int32)), .val (.int c1), .val (.int c2), .val (.int c3), .val (.int c4), .val (.int c5), .val (.ref x78_), .val (.int r), .val (.int (0 : Int32)), .val (.int c5), .val (.int dd)] [(.int r)])
            refine own_viaH (fun _ k => XS.iload X86_.here hx rfl (hb hby at_239) rfl k) ?_
            show own_FinH _ _ _ _ _ _ _ _ _ T86_ (mkF m 241 #[.val (.int p1), .val (.int p2), .val (.int p3), .val (.int p4), .val (.int p5), .val (.int p6), .val (.int (5 : Int32)), .val (.int c1), .val (.int c2), .val (.int c3), .val (.int c4), .val (.int c5), .val (.ref x78_), .val (.int r), .val (.int (0 : Int32)), .val (.int c5), .val (.int dd)] [(.int (0 : Int32)), (.int r)])
            refine own_viaH (fun _ k => XS.icmpNo X86_.here hx rfl (hb hby at_241) rfl (teq (hr.elim (fun q => absurd hB (G.mp q.2).2.1) (fun q => q.1))).2 k) ?_
            show own_FinH _ _ _ _ _ _ _ _ _ T86_ (mkF m 244 #[.val (.int p1), .val (.int p2), .val (.int p3), .val (.int p4), .val (.int p5), .val (.int p6), .val (.int (5 : Int32)), .val (.int c1), .val (.int c2), .val (.int c3), .val (.int c4), .val (.int c5), .val (.ref x78_), .val (.int r), .val (.int (0 : Int32)), .val (.int c5), .val (.int dd)] [])
            refine own_viaH (fun _ k => XS.iconst X86_.here hx rfl (hb hby at_244) k) ?_
            show own_FinH _ _ _ _ _ _ _ _ _ T86_ (mkF m 245 #[.val (.int p1), .val (.int p2), .val (.int p3), .val (.int p4), .val (.int p5), .val (.int p6), .val (.int (5 : Int32)), .val (.int c1), .val (.int c2), .val (.int c3), .val (.int c4), .val (.int c5), .val (.ref x78_), .val (.int r), .val (.int (0 : Int32)), .val (.int c5), .val (.int dd)] [(.int (1 : Int32))])
            refine own_viaH (fun _ k => XS.goto X86_.here hx rfl (pc0 := 245) (pc' := 249) rfl (hb hby at_245) (by decide) (by decide) k) ?_
            show own_FinH _ _ _ _ _ _ _ _ _ T86_ (mkF m 249 #[.val (.int p1), .val (.int p2), .val (.int p3), .val (.int p4), .val (.int p5), .val (.int p6), .val (.int (5 : Int32)), .val (.int c1), .val (.int c2), .val (.int c3), .val (.int c4), .val (.int c5), .val (.ref x78_), .val (.int r), .val (.int (0 : Int32)), .val (.int c5), .val (.int dd)] [(.int (1 : Int32))])
            have C89_ := C87_.trans Cq86_
            have H89_ := C89_.1
            exact own_retNH X86_ hx (t := .boolean) Bd.returns Bd.notSynchronized (own_ew hw) hZ86_ hS86_ (Nat.le_refl _) hh C89_ (by simp) (hb hby at_249) rfl rfl ⟨rfl, N86_⟩ (by decide) (by decide)
          · refine own_viaH (fun _ k => XS.icmpNo X86_.here hx rfl (hb hby at_222) rfl (feq hB).1 k) ?_
            show own_FinH _ _ _ _ _ _ _ _ _ T86_ (mkF m 225 #[.val (.int p1), .val (.int p2), .val (.int p3), .val (.int p4), .val (.int p5), .val (.int p6), .val (.int (5 : Int32)), .val (.int c1), .val (.int c2), .val (.int c3), .val (.int c4), .val (.int c5), .val (.ref x78_), .val (.int r), .unset, .val (.int c5), .val (.int dd)] [])
            refine own_viaH (fun _ k => XS.iload X86_.here hx rfl (hb hby at_225) rfl k) ?_
            show own_FinH _ _ _ _ _ _ _ _ _ T86_ (mkF m 227 #[.val (.int p1), .val (.int p2), .val (.int p3), .val (.int p4), .val (.int p5), .val (.int p6), .val (.int (5 : Int32)), .val (.int c1), .val (.int c2), .val (.int c3), .val (.int c4), .val (.int c5), .val (.ref x78_), .val (.int r), .unset, .val (.int c5), .val (.int dd)] [(.int dd)])
            rcases Classical.em (dd = (0 : Int32)) with hC | hC
            · refine own_viaH (fun _ k => XS.ifNo X86_.here hx rfl (hb hby at_227) rfl ((if0 _ _).trans (teq hC).2) k) ?_
              show own_FinH _ _ _ _ _ _ _ _ _ T86_ (mkF m 230 #[.val (.int p1), .val (.int p2), .val (.int p3), .val (.int p4), .val (.int p5), .val (.int p6), .val (.int (5 : Int32)), .val (.int c1), .val (.int c2), .val (.int c3), .val (.int c4), .val (.int c5), .val (.ref x78_), .val (.int r), .unset, .val (.int c5), .val (.int dd)] [])
              refine own_viaH (fun _ k => XS.iconst X86_.here hx rfl (hb hby at_230) k) ?_
              show own_FinH _ _ _ _ _ _ _ _ _ T86_ (mkF m 231 #[.val (.int p1), .val (.int p2), .val (.int p3), .val (.int p4), .val (.int p5), .val (.int p6), .val (.int (5 : Int32)), .val (.int c1), .val (.int c2), .val (.int c3), .val (.int c4), .val (.int c5), .val (.ref x78_), .val (.int r), .unset, .val (.int c5), .val (.int dd)] [(.int (1 : Int32))])
              refine own_viaH (fun _ k => XS.goto X86_.here hx rfl (pc0 := 231) (pc' := 235) rfl (hb hby at_231) (by decide) (by decide) k) ?_
              show own_FinH _ _ _ _ _ _ _ _ _ T86_ (mkF m 235 #[.val (.int p1), .val (.int p2), .val (.int p3), .val (.int p4), .val (.int p5), .val (.int p6), .val (.int (5 : Int32)), .val (.int c1), .val (.int c2), .val (.int c3), .val (.int c4), .val (.int c5), .val (.ref x78_), .val (.int r), .unset, .val (.int c5), .val (.int dd)] [(.int (1 : Int32))])
              refine own_viaH (fun _ k => XS.istore X86_.here hx rfl (hb hby at_235) rfl (l' := #[.val (.int p1), .val (.int p2), .val (.int p3), .val (.int p4), .val (.int p5), .val (.int p6), .val (.int (5 : Int32)), .val (.int c1), .val (.int c2), .val (.int c3), .val (.int c4), .val (.int c5), .val (.ref x78_), .val (.int r), .val (.int (1 : Int32)), .val (.int c5), .val (.int dd)]) rfl k) ?_
              show own_FinH _ _ _ _ _ _ _ _ _ T86_ (mkF m 237 #[.val (.int p1), .val (.int p2), .val (.int p3), .val (.int p4), .val (.int p5), .val (.int p6), .val (.int (5 : Int32)), .val (.int c1), .val (.int c2), .val (.int c3), .val (.int c4), .val (.int c5), .val (.ref x78_), .val (.int r), .val (.int (1 : Int32)), .val (.int c5), .val (.int dd)] [])
              refine own_viaH (fun _ k => XS.iload X86_.here hx rfl (hb hby at_237) rfl k) ?_
              show own_FinH _ _ _ _ _ _ _ _ _ T86_ (mkF m 239 #[.val (.int p1), .val (.int p2), .val (.int p3), .val (.int p4), .val (.int p5), .val (.int p6), .val (.int (5 : Int32)), .val (.int c1), .val (.int c2), .val (.int c3), .val (.int c4), .val (.int c5), .val (.ref x78_), .val (.int r), .val (.int (1 : Int32)), .val (.int c5), .val (.int dd)] [(.int r)])
              refine own_viaH (fun _ k => XS.iload X86_.here hx rfl (hb hby at_239) rfl k) ?_
              show own_FinH _ _ _ _ _ _ _ _ _ T86_ (mkF m 241 #[.val (.int p1), .val (.int p2), .val (.int p3), .val (.int p4), .val (.int p5), .val (.int p6), .val (.int (5 : Int32)), .val (.int c1), .val (.int c2), .val (.int c3), .val (.int c4), .val (.int c5), .val (.ref x78_), .val (.int r), .val (.int (1 : Int32)), .val (.int c5), .val (.int dd)] [(.int (1 : Int32)), (.int r)])
              refine own_viaH (fun _ k => XS.icmpNo X86_.here hx rfl (hb hby at_241) rfl (teq (hr.elim (fun q => q.1) (fun q => absurd (G.mpr ⟨hA, hB, (hdd.resolve_left fun z => absurd (z.1.symm.trans hC) (by decide)).2⟩) q.2))).2 k) ?_
              show own_FinH _ _ _ _ _ _ _ _ _ T86_ (mkF m 244 #[.val (.int p1), .val (.int p2), .val (.int p3), .val (.int p4), .val (.int p5), .val (.int p6), .val (.int (5 : Int32)), .val (.int c1), .val (.int c2), .val (.int c3), .val (.int c4), .val (.int c5), .val (.ref x78_), .val (.int r), .val (.int (1 : Int32)), .val (.int c5), .val (.int dd)] [])
              refine own_viaH (fun _ k => XS.iconst X86_.here hx rfl (hb hby at_244) k) ?_
              show own_FinH _ _ _ _ _ _ _ _ _ T86_ (mkF m 245 #[.val (.int p1), .val (.int p2), .val (.int p3), .val (.int p4), .val (.int p5), .val (.int p6), .val (.int (5 : Int32)), .val (.int c1), .val (.int c2), .val (.int c3), .val (.int c4), .val (.int c5), .val (.ref x78_), .val (.int r), .val (.int (1 : Int32)), .val (.int c5), .val (.int dd)] [(.int (1 : Int32))])
              refine own_viaH (fun _ k => XS.goto X86_.here hx rfl (pc0 := 245) (pc' := 249) rfl (hb hby at_245) (by decide) (by decide) k) ?_
              show own_FinH _ _ _ _ _ _ _ _ _ T86_ (mkF m 249 #[.val (.int p1), .val (.int p2), .val (.int p3), .val (.int p4), .val (.int p5), .val (.int p6), .val (.int (5 : Int32)), .val (.int c1), .val (.int c2), .val (.int c3), .val (.int c4), .val (.int c5), .val (.ref x78_), .val (.int r), .val (.int (1 : Int32)), .val (.int c5), .val (.int dd)] [(.int (1 : Int32))])
              have C91_ := C87_.trans Cq86_
              have H91_ := C91_.1
              exact own_retNH X86_ hx (t := .boolean) Bd.returns Bd.notSynchronized (own_ew hw) hZ86_ hS86_ (Nat.le_refl _) hh C91_ (by simp) (hb hby at_249) rfl rfl ⟨rfl, N86_⟩ (by decide) (by decide)
            · refine own_viaH (fun _ k => XS.ifYes X86_.here hx rfl (pc0 := 227) (pc' := 234) rfl (hb hby at_227) rfl ((if0 _ _).trans (feq hC).2) (by decide) (by decide) k) ?_
              show own_FinH _ _ _ _ _ _ _ _ _ T86_ (mkF m 234 #[.val (.int p1), .val (.int p2), .val (.int p3), .val (.int p4), .val (.int p5), .val (.int p6), .val (.int (5 : Int32)), .val (.int c1), .val (.int c2), .val (.int c3), .val (.int c4), .val (.int c5), .val (.ref x78_), .val (.int r), .unset, .val (.int c5), .val (.int dd)] [])
              refine own_viaH (fun _ k => XS.iconst X86_.here hx rfl (hb hby at_234) k) ?_
              show own_FinH _ _ _ _ _ _ _ _ _ T86_ (mkF m 235 #[.val (.int p1), .val (.int p2), .val (.int p3), .val (.int p4), .val (.int p5), .val (.int p6), .val (.int (5 : Int32)), .val (.int c1), .val (.int c2), .val (.int c3), .val (.int c4), .val (.int c5), .val (.ref x78_), .val (.int r), .unset, .val (.int c5), .val (.int dd)] [(.int (0 : Int32))])
              refine own_viaH (fun _ k => XS.istore X86_.here hx rfl (hb hby at_235) rfl (l' := #[.val (.int p1), .val (.int p2), .val (.int p3), .val (.int p4), .val (.int p5), .val (.int p6), .val (.int (5 : Int32)), .val (.int c1), .val (.int c2), .val (.int c3), .val (.int c4), .val (.int c5), .val (.ref x78_), .val (.int r), .val (.int (0 : Int32)), .val (.int c5), .val (.int dd)]) rfl k) ?_
              show own_FinH _ _ _ _ _ _ _ _ _ T86_ (mkF m 237 #[.val (.int p1), .val (.int p2), .val (.int p3), .val (.int p4), .val (.int p5), .val (.int p6), .val (.int (5 : Int32)), .val (.int c1), .val (.int c2), .val (.int c3), .val (.int c4), .val (.int c5), .val (.ref x78_), .val (.int r), .val (.int (0 : Int32)), .val (.int c5), .val (.int dd)] [])
              refine own_viaH (fun _ k => XS.iload X86_.here hx rfl (hb hby at_237) rfl k) ?_
              show own_FinH _ _ _ _ _ _ _ _ _ T86_ (mkF m 239 #[.val (.int p1), .val (.int p2), .val (.int p3), .val (.int p4), .val (.int p5), .val (.int p6), .val (.int (5 : Int32)), .val (.int c1), .val (.int c2), .val (.int c3), .val (.int c4), .val (.int c5), .val (.ref x78_), .val (.int r), .val (.int (0 : Int32)), .val (.int c5), .val (.int dd)] [(.int r)])
              refine own_viaH (fun _ k => XS.iload X86_.here hx rfl (hb hby at_239) rfl k) ?_
              show own_FinH _ _ _ _ _ _ _ _ _ T86_ (mkF m 241 #[.val (.int p1), .val (.int p2), .val (.int p3), .val (.int p4), .val (.int p5), .val (.int p6), .val (.int (5 : Int32)), .val (.int c1), .val (.int c2), .val (.int c3), .val (.int c4), .val (.int c5), .val (.ref x78_), .val (.int r), .val (.int (0 : Int32)), .val (.int c5), .val (.int dd)] [(.int (0 : Int32)), (.int r)])
              refine own_viaH (fun _ k => XS.icmpNo X86_.here hx rfl (hb hby at_241) rfl (teq (hr.elim (fun q => absurd (hdd.resolve_right fun z => hC z.1).2 (G.mp q.2).2.2) (fun q => q.1))).2 k) ?_
              show own_FinH _ _ _ _ _ _ _ _ _ T86_ (mkF m 244 #[.val (.int p1), .val (.int p2), .val (.int p3), .val (.int p4), .val (.int p5), .val (.int p6), .val (.int (5 : Int32)), .val (.int c1), .val (.int c2), .val (.int c3), .val (.int c4), .val (.int c5), .val (.ref x78_), .val (.int r), .val (.int (0 : Int32)), .val (.int c5), .val (.int dd)] [])
              refine own_viaH (fun _ k => XS.iconst X86_.here hx rfl (hb hby at_244) k) ?_
              show own_FinH _ _ _ _ _ _ _ _ _ T86_ (mkF m 245 #[.val (.int p1), .val (.int p2), .val (.int p3), .val (.int p4), .val (.int p5), .val (.int p6), .val (.int (5 : Int32)), .val (.int c1), .val (.int c2), .val (.int c3), .val (.int c4), .val (.int c5), .val (.ref x78_), .val (.int r), .val (.int (0 : Int32)), .val (.int c5), .val (.int dd)] [(.int (1 : Int32))])
              refine own_viaH (fun _ k => XS.goto X86_.here hx rfl (pc0 := 245) (pc' := 249) rfl (hb hby at_245) (by decide) (by decide) k) ?_
              show own_FinH _ _ _ _ _ _ _ _ _ T86_ (mkF m 249 #[.val (.int p1), .val (.int p2), .val (.int p3), .val (.int p4), .val (.int p5), .val (.int p6), .val (.int (5 : Int32)), .val (.int c1), .val (.int c2), .val (.int c3), .val (.int c4), .val (.int c5), .val (.ref x78_), .val (.int r), .val (.int (0 : Int32)), .val (.int c5), .val (.int dd)] [(.int (1 : Int32))])
              have C90_ := C87_.trans Cq86_
              have H90_ := C90_.1
              exact own_retNH X86_ hx (t := .boolean) Bd.returns Bd.notSynchronized (own_ew hw) hZ86_ hS86_ (Nat.le_refl _) hh C90_ (by simp) (hb hby at_249) rfl rfl ⟨rfl, N86_⟩ (by decide) (by decide)
      refine own_viaH (fun _ k => XS.icmpNo X86_.here hx rfl (hb hby at_127) rfl (flt (by decide)).1 k) ?_
      show own_FinH _ _ _ _ _ _ _ _ _ T86_ (mkF m 130 #[.val (.int p1), .val (.int p2), .val (.int p3), .val (.int p4), .val (.int p5), .val (.int p6), .val (.int (5 : Int32)), .val (.int c1), .val (.int c2), .val (.int c3), .val (.int c4), .val (.int c5), .val (.ref x78_), .val (.int r), .unset, .val (.int c5), .unset] [])
      have sp0 : ∀ (hp0 : ¬ (c1 = (46 : Int32) ∧ c2 = (46 : Int32))), own_FinH p e s below Z own_EL (own_Q_law Z p1 p2 p3 p4 p5 p6 cz fm h0 n0) room_1.cells room_1.slots T86_ (mkF m 144 #[.val (.int p1), .val (.int p2), .val (.int p3), .val (.int p4), .val (.int p5), .val (.int p6), .val (.int (5 : Int32)), .val (.int c1), .val (.int c2), .val (.int c3), .val (.int c4), .val (.int c5), .val (.ref x78_), .val (.int r), .unset, .val (.int c5), .unset] []) := by
        intro hp0
        refine own_viaH (fun _ k => XS.iload X86_.here hx rfl (hb hby at_144) rfl k) ?_
        show own_FinH _ _ _ _ _ _ _ _ _ T86_ (mkF m 146 #[.val (.int p1), .val (.int p2), .val (.int p3), .val (.int p4), .val (.int p5), .val (.int p6), .val (.int (5 : Int32)), .val (.int c1), .val (.int c2), .val (.int c3), .val (.int c4), .val (.int c5), .val (.ref x78_), .val (.int r), .unset, .val (.int c5), .unset] [(.int (5 : Int32))])
        refine own_viaH (fun _ k => XS.iconst X86_.here hx rfl (hb hby at_146) k) ?_
        show own_FinH _ _ _ _ _ _ _ _ _ T86_ (mkF m 147 #[.val (.int p1), .val (.int p2), .val (.int p3), .val (.int p4), .val (.int p5), .val (.int p6), .val (.int (5 : Int32)), .val (.int c1), .val (.int c2), .val (.int c3), .val (.int c4), .val (.int c5), .val (.ref x78_), .val (.int r), .unset, .val (.int c5), .unset] [(.int (3 : Int32)), (.int (5 : Int32))])
        refine own_viaH (fun _ k => XS.icmpNo X86_.here hx rfl (hb hby at_147) rfl (flt (by decide)).1 k) ?_
        show own_FinH _ _ _ _ _ _ _ _ _ T86_ (mkF m 150 #[.val (.int p1), .val (.int p2), .val (.int p3), .val (.int p4), .val (.int p5), .val (.int p6), .val (.int (5 : Int32)), .val (.int c1), .val (.int c2), .val (.int c3), .val (.int c4), .val (.int c5), .val (.ref x78_), .val (.int r), .unset, .val (.int c5), .unset] [])
        have sp1 : ∀ (hp1 : ¬ (c2 = (46 : Int32) ∧ c3 = (46 : Int32))), own_FinH p e s below Z own_EL (own_Q_law Z p1 p2 p3 p4 p5 p6 cz fm h0 n0) room_1.cells room_1.slots T86_ (mkF m 164 #[.val (.int p1), .val (.int p2), .val (.int p3), .val (.int p4), .val (.int p5), .val (.int p6), .val (.int (5 : Int32)), .val (.int c1), .val (.int c2), .val (.int c3), .val (.int c4), .val (.int c5), .val (.ref x78_), .val (.int r), .unset, .val (.int c5), .unset] []) := by
          intro hp1
          refine own_viaH (fun _ k => XS.iload X86_.here hx rfl (hb hby at_164) rfl k) ?_
          show own_FinH _ _ _ _ _ _ _ _ _ T86_ (mkF m 166 #[.val (.int p1), .val (.int p2), .val (.int p3), .val (.int p4), .val (.int p5), .val (.int p6), .val (.int (5 : Int32)), .val (.int c1), .val (.int c2), .val (.int c3), .val (.int c4), .val (.int c5), .val (.ref x78_), .val (.int r), .unset, .val (.int c5), .unset] [(.int (5 : Int32))])
          refine own_viaH (fun _ k => XS.iconst X86_.here hx rfl (hb hby at_166) k) ?_
          show own_FinH _ _ _ _ _ _ _ _ _ T86_ (mkF m 167 #[.val (.int p1), .val (.int p2), .val (.int p3), .val (.int p4), .val (.int p5), .val (.int p6), .val (.int (5 : Int32)), .val (.int c1), .val (.int c2), .val (.int c3), .val (.int c4), .val (.int c5), .val (.ref x78_), .val (.int r), .unset, .val (.int c5), .unset] [(.int (4 : Int32)), (.int (5 : Int32))])
          refine own_viaH (fun _ k => XS.icmpNo X86_.here hx rfl (hb hby at_167) rfl (flt (by decide)).1 k) ?_
          show own_FinH _ _ _ _ _ _ _ _ _ T86_ (mkF m 170 #[.val (.int p1), .val (.int p2), .val (.int p3), .val (.int p4), .val (.int p5), .val (.int p6), .val (.int (5 : Int32)), .val (.int c1), .val (.int c2), .val (.int c3), .val (.int c4), .val (.int c5), .val (.ref x78_), .val (.int r), .unset, .val (.int c5), .unset] [])
          have sp2 : ∀ (hp2 : ¬ (c3 = (46 : Int32) ∧ c4 = (46 : Int32))), own_FinH p e s below Z own_EL (own_Q_law Z p1 p2 p3 p4 p5 p6 cz fm h0 n0) room_1.cells room_1.slots T86_ (mkF m 184 #[.val (.int p1), .val (.int p2), .val (.int p3), .val (.int p4), .val (.int p5), .val (.int p6), .val (.int (5 : Int32)), .val (.int c1), .val (.int c2), .val (.int c3), .val (.int c4), .val (.int c5), .val (.ref x78_), .val (.int r), .unset, .val (.int c5), .unset] []) := by
            intro hp2
            refine own_viaH (fun _ k => XS.iload X86_.here hx rfl (hb hby at_184) rfl k) ?_
            show own_FinH _ _ _ _ _ _ _ _ _ T86_ (mkF m 186 #[.val (.int p1), .val (.int p2), .val (.int p3), .val (.int p4), .val (.int p5), .val (.int p6), .val (.int (5 : Int32)), .val (.int c1), .val (.int c2), .val (.int c3), .val (.int c4), .val (.int c5), .val (.ref x78_), .val (.int r), .unset, .val (.int c5), .unset] [(.int (5 : Int32))])
            refine own_viaH (fun _ k => XS.iconst X86_.here hx rfl (hb hby at_186) k) ?_
            show own_FinH _ _ _ _ _ _ _ _ _ T86_ (mkF m 187 #[.val (.int p1), .val (.int p2), .val (.int p3), .val (.int p4), .val (.int p5), .val (.int p6), .val (.int (5 : Int32)), .val (.int c1), .val (.int c2), .val (.int c3), .val (.int c4), .val (.int c5), .val (.ref x78_), .val (.int r), .unset, .val (.int c5), .unset] [(.int (5 : Int32)), (.int (5 : Int32))])
            refine own_viaH (fun _ k => XS.icmpNo X86_.here hx rfl (hb hby at_187) rfl (flt (by decide)).1 k) ?_
            show own_FinH _ _ _ _ _ _ _ _ _ T86_ (mkF m 190 #[.val (.int p1), .val (.int p2), .val (.int p3), .val (.int p4), .val (.int p5), .val (.int p6), .val (.int (5 : Int32)), .val (.int c1), .val (.int c2), .val (.int c3), .val (.int c4), .val (.int c5), .val (.ref x78_), .val (.int r), .unset, .val (.int c5), .unset] [])
            have sp3 : ∀ (hp3 : ¬ (c4 = (46 : Int32) ∧ c5 = (46 : Int32))), own_FinH p e s below Z own_EL (own_Q_law Z p1 p2 p3 p4 p5 p6 cz fm h0 n0) room_1.cells room_1.slots T86_ (mkF m 208 #[.val (.int p1), .val (.int p2), .val (.int p3), .val (.int p4), .val (.int p5), .val (.int p6), .val (.int (5 : Int32)), .val (.int c1), .val (.int c2), .val (.int c3), .val (.int c4), .val (.int c5), .val (.ref x78_), .val (.int r), .unset, .val (.int c5), .unset] []) := by
              intro hp3
              refine own_viaH (fun _ k => XS.iconst X86_.here hx rfl (hb hby at_208) k) ?_
              show own_FinH _ _ _ _ _ _ _ _ _ T86_ (mkF m 209 #[.val (.int p1), .val (.int p2), .val (.int p3), .val (.int p4), .val (.int p5), .val (.int p6), .val (.int (5 : Int32)), .val (.int c1), .val (.int c2), .val (.int c3), .val (.int c4), .val (.int c5), .val (.ref x78_), .val (.int r), .unset, .val (.int c5), .unset] [(.int (0 : Int32))])
              refine own_viaH (fun _ k => XS.istore X86_.here hx rfl (hb hby at_209) rfl (l' := #[.val (.int p1), .val (.int p2), .val (.int p3), .val (.int p4), .val (.int p5), .val (.int p6), .val (.int (5 : Int32)), .val (.int c1), .val (.int c2), .val (.int c3), .val (.int c4), .val (.int c5), .val (.ref x78_), .val (.int r), .unset, .val (.int c5), .val (.int (0 : Int32))]) rfl k) ?_
              show own_FinH _ _ _ _ _ _ _ _ _ T86_ (mkF m 211 #[.val (.int p1), .val (.int p2), .val (.int p3), .val (.int p4), .val (.int p5), .val (.int p6), .val (.int (5 : Int32)), .val (.int c1), .val (.int c2), .val (.int c3), .val (.int c4), .val (.int c5), .val (.ref x78_), .val (.int r), .unset, .val (.int c5), .val (.int (0 : Int32))] [])
              exact s211 _ (Or.inr ⟨rfl, (not_or.mpr ⟨hp0, (not_or.mpr ⟨hp1, (not_or.mpr ⟨hp2, hp3⟩)⟩)⟩)⟩)
            refine own_viaH (fun _ k => XS.iload X86_.here hx rfl (hb hby at_190) rfl k) ?_
            show own_FinH _ _ _ _ _ _ _ _ _ T86_ (mkF m 192 #[.val (.int p1), .val (.int p2), .val (.int p3), .val (.int p4), .val (.int p5), .val (.int p6), .val (.int (5 : Int32)), .val (.int c1), .val (.int c2), .val (.int c3), .val (.int c4), .val (.int c5), .val (.ref x78_), .val (.int r), .unset, .val (.int c5), .unset] [(.int c4)])
            refine own_viaH (fun _ k => XS.bipush X86_.here hx rfl (hb hby at_192) k) ?_
            show own_FinH _ _ _ _ _ _ _ _ _ T86_ (mkF m 194 #[.val (.int p1), .val (.int p2), .val (.int p3), .val (.int p4), .val (.int p5), .val (.int p6), .val (.int (5 : Int32)), .val (.int c1), .val (.int c2), .val (.int c3), .val (.int c4), .val (.int c5), .val (.ref x78_), .val (.int r), .unset, .val (.int c5), .unset] [(.int (46 : Int32)), (.int c4)])
            rcases Classical.em (c4 = (46 : Int32)) with ha | ha
            · refine own_viaH (fun _ k => XS.icmpNo X86_.here hx rfl (hb hby at_194) rfl (teq ha).2 k) ?_
              show own_FinH _ _ _ _ _ _ _ _ _ T86_ (mkF m 197 #[.val (.int p1), .val (.int p2), .val (.int p3), .val (.int p4), .val (.int p5), .val (.int p6), .val (.int (5 : Int32)), .val (.int c1), .val (.int c2), .val (.int c3), .val (.int c4), .val (.int c5), .val (.ref x78_), .val (.int r), .unset, .val (.int c5), .unset] [])
              refine own_viaH (fun _ k => XS.iload X86_.here hx rfl (hb hby at_197) rfl k) ?_
              show own_FinH _ _ _ _ _ _ _ _ _ T86_ (mkF m 199 #[.val (.int p1), .val (.int p2), .val (.int p3), .val (.int p4), .val (.int p5), .val (.int p6), .val (.int (5 : Int32)), .val (.int c1), .val (.int c2), .val (.int c3), .val (.int c4), .val (.int c5), .val (.ref x78_), .val (.int r), .unset, .val (.int c5), .unset] [(.int c5)])
              refine own_viaH (fun _ k => XS.bipush X86_.here hx rfl (hb hby at_199) k) ?_
              show own_FinH _ _ _ _ _ _ _ _ _ T86_ (mkF m 201 #[.val (.int p1), .val (.int p2), .val (.int p3), .val (.int p4), .val (.int p5), .val (.int p6), .val (.int (5 : Int32)), .val (.int c1), .val (.int c2), .val (.int c3), .val (.int c4), .val (.int c5), .val (.ref x78_), .val (.int r), .unset, .val (.int c5), .unset] [(.int (46 : Int32)), (.int c5)])
              rcases Classical.em (c5 = (46 : Int32)) with hbb | hbb
              · refine own_viaH (fun _ k => XS.icmpNo X86_.here hx rfl (hb hby at_201) rfl (teq hbb).2 k) ?_
                show own_FinH _ _ _ _ _ _ _ _ _ T86_ (mkF m 204 #[.val (.int p1), .val (.int p2), .val (.int p3), .val (.int p4), .val (.int p5), .val (.int p6), .val (.int (5 : Int32)), .val (.int c1), .val (.int c2), .val (.int c3), .val (.int c4), .val (.int c5), .val (.ref x78_), .val (.int r), .unset, .val (.int c5), .unset] [])
                refine own_viaH (fun _ k => XS.iconst X86_.here hx rfl (hb hby at_204) k) ?_
                show own_FinH _ _ _ _ _ _ _ _ _ T86_ (mkF m 205 #[.val (.int p1), .val (.int p2), .val (.int p3), .val (.int p4), .val (.int p5), .val (.int p6), .val (.int (5 : Int32)), .val (.int c1), .val (.int c2), .val (.int c3), .val (.int c4), .val (.int c5), .val (.ref x78_), .val (.int r), .unset, .val (.int c5), .unset] [(.int (1 : Int32))])
                refine own_viaH (fun _ k => XS.goto X86_.here hx rfl (pc0 := 205) (pc' := 209) rfl (hb hby at_205) (by decide) (by decide) k) ?_
                show own_FinH _ _ _ _ _ _ _ _ _ T86_ (mkF m 209 #[.val (.int p1), .val (.int p2), .val (.int p3), .val (.int p4), .val (.int p5), .val (.int p6), .val (.int (5 : Int32)), .val (.int c1), .val (.int c2), .val (.int c3), .val (.int c4), .val (.int c5), .val (.ref x78_), .val (.int r), .unset, .val (.int c5), .unset] [(.int (1 : Int32))])
                refine own_viaH (fun _ k => XS.istore X86_.here hx rfl (hb hby at_209) rfl (l' := #[.val (.int p1), .val (.int p2), .val (.int p3), .val (.int p4), .val (.int p5), .val (.int p6), .val (.int (5 : Int32)), .val (.int c1), .val (.int c2), .val (.int c3), .val (.int c4), .val (.int c5), .val (.ref x78_), .val (.int r), .unset, .val (.int c5), .val (.int (1 : Int32))]) rfl k) ?_
                show own_FinH _ _ _ _ _ _ _ _ _ T86_ (mkF m 211 #[.val (.int p1), .val (.int p2), .val (.int p3), .val (.int p4), .val (.int p5), .val (.int p6), .val (.int (5 : Int32)), .val (.int c1), .val (.int c2), .val (.int c3), .val (.int c4), .val (.int c5), .val (.ref x78_), .val (.int r), .unset, .val (.int c5), .val (.int (1 : Int32))] [])
                exact s211 _ (Or.inl ⟨rfl, Or.inr (Or.inr (Or.inr (⟨ha, hbb⟩)))⟩)
              · refine own_viaH (fun _ k => XS.icmpYes X86_.here hx rfl (pc0 := 201) (pc' := 208) rfl (hb hby at_201) rfl (feq hbb).2 (by decide) (by decide) k) ?_
                show own_FinH _ _ _ _ _ _ _ _ _ T86_ (mkF m 208 #[.val (.int p1), .val (.int p2), .val (.int p3), .val (.int p4), .val (.int p5), .val (.int p6), .val (.int (5 : Int32)), .val (.int c1), .val (.int c2), .val (.int c3), .val (.int c4), .val (.int c5), .val (.ref x78_), .val (.int r), .unset, .val (.int c5), .unset] [])
                exact sp3 (fun q => hbb q.2)
            · refine own_viaH (fun _ k => XS.icmpYes X86_.here hx rfl (pc0 := 194) (pc' := 208) rfl (hb hby at_194) rfl (feq ha).2 (by decide) (by decide) k) ?_
              show own_FinH _ _ _ _ _ _ _ _ _ T86_ (mkF m 208 #[.val (.int p1), .val (.int p2), .val (.int p3), .val (.int p4), .val (.int p5), .val (.int p6), .val (.int (5 : Int32)), .val (.int c1), .val (.int c2), .val (.int c3), .val (.int c4), .val (.int c5), .val (.ref x78_), .val (.int r), .unset, .val (.int c5), .unset] [])
              exact sp3 (fun q => ha q.1)
          refine own_viaH (fun _ k => XS.iload X86_.here hx rfl (hb hby at_170) rfl k) ?_
          show own_FinH _ _ _ _ _ _ _ _ _ T86_ (mkF m 172 #[.val (.int p1), .val (.int p2), .val (.int p3), .val (.int p4), .val (.int p5), .val (.int p6), .val (.int (5 : Int32)), .val (.int c1), .val (.int c2), .val (.int c3), .val (.int c4), .val (.int c5), .val (.ref x78_), .val (.int r), .unset, .val (.int c5), .unset] [(.int c3)])
          refine own_viaH (fun _ k => XS.bipush X86_.here hx rfl (hb hby at_172) k) ?_
          show own_FinH _ _ _ _ _ _ _ _ _ T86_ (mkF m 174 #[.val (.int p1), .val (.int p2), .val (.int p3), .val (.int p4), .val (.int p5), .val (.int p6), .val (.int (5 : Int32)), .val (.int c1), .val (.int c2), .val (.int c3), .val (.int c4), .val (.int c5), .val (.ref x78_), .val (.int r), .unset, .val (.int c5), .unset] [(.int (46 : Int32)), (.int c3)])
          rcases Classical.em (c3 = (46 : Int32)) with ha | ha
          · refine own_viaH (fun _ k => XS.icmpNo X86_.here hx rfl (hb hby at_174) rfl (teq ha).2 k) ?_
            show own_FinH _ _ _ _ _ _ _ _ _ T86_ (mkF m 177 #[.val (.int p1), .val (.int p2), .val (.int p3), .val (.int p4), .val (.int p5), .val (.int p6), .val (.int (5 : Int32)), .val (.int c1), .val (.int c2), .val (.int c3), .val (.int c4), .val (.int c5), .val (.ref x78_), .val (.int r), .unset, .val (.int c5), .unset] [])
            refine own_viaH (fun _ k => XS.iload X86_.here hx rfl (hb hby at_177) rfl k) ?_
            show own_FinH _ _ _ _ _ _ _ _ _ T86_ (mkF m 179 #[.val (.int p1), .val (.int p2), .val (.int p3), .val (.int p4), .val (.int p5), .val (.int p6), .val (.int (5 : Int32)), .val (.int c1), .val (.int c2), .val (.int c3), .val (.int c4), .val (.int c5), .val (.ref x78_), .val (.int r), .unset, .val (.int c5), .unset] [(.int c4)])
            refine own_viaH (fun _ k => XS.bipush X86_.here hx rfl (hb hby at_179) k) ?_
            show own_FinH _ _ _ _ _ _ _ _ _ T86_ (mkF m 181 #[.val (.int p1), .val (.int p2), .val (.int p3), .val (.int p4), .val (.int p5), .val (.int p6), .val (.int (5 : Int32)), .val (.int c1), .val (.int c2), .val (.int c3), .val (.int c4), .val (.int c5), .val (.ref x78_), .val (.int r), .unset, .val (.int c5), .unset] [(.int (46 : Int32)), (.int c4)])
            rcases Classical.em (c4 = (46 : Int32)) with hbb | hbb
            · refine own_viaH (fun _ k => XS.icmpYes X86_.here hx rfl (pc0 := 181) (pc' := 204) rfl (hb hby at_181) rfl (teq hbb).1 (by decide) (by decide) k) ?_
              show own_FinH _ _ _ _ _ _ _ _ _ T86_ (mkF m 204 #[.val (.int p1), .val (.int p2), .val (.int p3), .val (.int p4), .val (.int p5), .val (.int p6), .val (.int (5 : Int32)), .val (.int c1), .val (.int c2), .val (.int c3), .val (.int c4), .val (.int c5), .val (.ref x78_), .val (.int r), .unset, .val (.int c5), .unset] [])
              refine own_viaH (fun _ k => XS.iconst X86_.here hx rfl (hb hby at_204) k) ?_
              show own_FinH _ _ _ _ _ _ _ _ _ T86_ (mkF m 205 #[.val (.int p1), .val (.int p2), .val (.int p3), .val (.int p4), .val (.int p5), .val (.int p6), .val (.int (5 : Int32)), .val (.int c1), .val (.int c2), .val (.int c3), .val (.int c4), .val (.int c5), .val (.ref x78_), .val (.int r), .unset, .val (.int c5), .unset] [(.int (1 : Int32))])
              refine own_viaH (fun _ k => XS.goto X86_.here hx rfl (pc0 := 205) (pc' := 209) rfl (hb hby at_205) (by decide) (by decide) k) ?_
              show own_FinH _ _ _ _ _ _ _ _ _ T86_ (mkF m 209 #[.val (.int p1), .val (.int p2), .val (.int p3), .val (.int p4), .val (.int p5), .val (.int p6), .val (.int (5 : Int32)), .val (.int c1), .val (.int c2), .val (.int c3), .val (.int c4), .val (.int c5), .val (.ref x78_), .val (.int r), .unset, .val (.int c5), .unset] [(.int (1 : Int32))])
              refine own_viaH (fun _ k => XS.istore X86_.here hx rfl (hb hby at_209) rfl (l' := #[.val (.int p1), .val (.int p2), .val (.int p3), .val (.int p4), .val (.int p5), .val (.int p6), .val (.int (5 : Int32)), .val (.int c1), .val (.int c2), .val (.int c3), .val (.int c4), .val (.int c5), .val (.ref x78_), .val (.int r), .unset, .val (.int c5), .val (.int (1 : Int32))]) rfl k) ?_
              show own_FinH _ _ _ _ _ _ _ _ _ T86_ (mkF m 211 #[.val (.int p1), .val (.int p2), .val (.int p3), .val (.int p4), .val (.int p5), .val (.int p6), .val (.int (5 : Int32)), .val (.int c1), .val (.int c2), .val (.int c3), .val (.int c4), .val (.int c5), .val (.ref x78_), .val (.int r), .unset, .val (.int c5), .val (.int (1 : Int32))] [])
              exact s211 _ (Or.inl ⟨rfl, Or.inr (Or.inr (Or.inl (⟨ha, hbb⟩)))⟩)
            · refine own_viaH (fun _ k => XS.icmpNo X86_.here hx rfl (hb hby at_181) rfl (feq hbb).1 k) ?_
              show own_FinH _ _ _ _ _ _ _ _ _ T86_ (mkF m 184 #[.val (.int p1), .val (.int p2), .val (.int p3), .val (.int p4), .val (.int p5), .val (.int p6), .val (.int (5 : Int32)), .val (.int c1), .val (.int c2), .val (.int c3), .val (.int c4), .val (.int c5), .val (.ref x78_), .val (.int r), .unset, .val (.int c5), .unset] [])
              exact sp2 (fun q => hbb q.2)
          · refine own_viaH (fun _ k => XS.icmpYes X86_.here hx rfl (pc0 := 174) (pc' := 184) rfl (hb hby at_174) rfl (feq ha).2 (by decide) (by decide) k) ?_
            show own_FinH _ _ _ _ _ _ _ _ _ T86_ (mkF m 184 #[.val (.int p1), .val (.int p2), .val (.int p3), .val (.int p4), .val (.int p5), .val (.int p6), .val (.int (5 : Int32)), .val (.int c1), .val (.int c2), .val (.int c3), .val (.int c4), .val (.int c5), .val (.ref x78_), .val (.int r), .unset, .val (.int c5), .unset] [])
            exact sp2 (fun q => ha q.1)
        refine own_viaH (fun _ k => XS.iload X86_.here hx rfl (hb hby at_150) rfl k) ?_
        show own_FinH _ _ _ _ _ _ _ _ _ T86_ (mkF m 152 #[.val (.int p1), .val (.int p2), .val (.int p3), .val (.int p4), .val (.int p5), .val (.int p6), .val (.int (5 : Int32)), .val (.int c1), .val (.int c2), .val (.int c3), .val (.int c4), .val (.int c5), .val (.ref x78_), .val (.int r), .unset, .val (.int c5), .unset] [(.int c2)])
        refine own_viaH (fun _ k => XS.bipush X86_.here hx rfl (hb hby at_152) k) ?_
        show own_FinH _ _ _ _ _ _ _ _ _ T86_ (mkF m 154 #[.val (.int p1), .val (.int p2), .val (.int p3), .val (.int p4), .val (.int p5), .val (.int p6), .val (.int (5 : Int32)), .val (.int c1), .val (.int c2), .val (.int c3), .val (.int c4), .val (.int c5), .val (.ref x78_), .val (.int r), .unset, .val (.int c5), .unset] [(.int (46 : Int32)), (.int c2)])
        rcases Classical.em (c2 = (46 : Int32)) with ha | ha
        · refine own_viaH (fun _ k => XS.icmpNo X86_.here hx rfl (hb hby at_154) rfl (teq ha).2 k) ?_
          show own_FinH _ _ _ _ _ _ _ _ _ T86_ (mkF m 157 #[.val (.int p1), .val (.int p2), .val (.int p3), .val (.int p4), .val (.int p5), .val (.int p6), .val (.int (5 : Int32)), .val (.int c1), .val (.int c2), .val (.int c3), .val (.int c4), .val (.int c5), .val (.ref x78_), .val (.int r), .unset, .val (.int c5), .unset] [])
          refine own_viaH (fun _ k => XS.iload X86_.here hx rfl (hb hby at_157) rfl k) ?_
          show own_FinH _ _ _ _ _ _ _ _ _ T86_ (mkF m 159 #[.val (.int p1), .val (.int p2), .val (.int p3), .val (.int p4), .val (.int p5), .val (.int p6), .val (.int (5 : Int32)), .val (.int c1), .val (.int c2), .val (.int c3), .val (.int c4), .val (.int c5), .val (.ref x78_), .val (.int r), .unset, .val (.int c5), .unset] [(.int c3)])
          refine own_viaH (fun _ k => XS.bipush X86_.here hx rfl (hb hby at_159) k) ?_
          show own_FinH _ _ _ _ _ _ _ _ _ T86_ (mkF m 161 #[.val (.int p1), .val (.int p2), .val (.int p3), .val (.int p4), .val (.int p5), .val (.int p6), .val (.int (5 : Int32)), .val (.int c1), .val (.int c2), .val (.int c3), .val (.int c4), .val (.int c5), .val (.ref x78_), .val (.int r), .unset, .val (.int c5), .unset] [(.int (46 : Int32)), (.int c3)])
          rcases Classical.em (c3 = (46 : Int32)) with hbb | hbb
          · refine own_viaH (fun _ k => XS.icmpYes X86_.here hx rfl (pc0 := 161) (pc' := 204) rfl (hb hby at_161) rfl (teq hbb).1 (by decide) (by decide) k) ?_
            show own_FinH _ _ _ _ _ _ _ _ _ T86_ (mkF m 204 #[.val (.int p1), .val (.int p2), .val (.int p3), .val (.int p4), .val (.int p5), .val (.int p6), .val (.int (5 : Int32)), .val (.int c1), .val (.int c2), .val (.int c3), .val (.int c4), .val (.int c5), .val (.ref x78_), .val (.int r), .unset, .val (.int c5), .unset] [])
            refine own_viaH (fun _ k => XS.iconst X86_.here hx rfl (hb hby at_204) k) ?_
            show own_FinH _ _ _ _ _ _ _ _ _ T86_ (mkF m 205 #[.val (.int p1), .val (.int p2), .val (.int p3), .val (.int p4), .val (.int p5), .val (.int p6), .val (.int (5 : Int32)), .val (.int c1), .val (.int c2), .val (.int c3), .val (.int c4), .val (.int c5), .val (.ref x78_), .val (.int r), .unset, .val (.int c5), .unset] [(.int (1 : Int32))])
            refine own_viaH (fun _ k => XS.goto X86_.here hx rfl (pc0 := 205) (pc' := 209) rfl (hb hby at_205) (by decide) (by decide) k) ?_
            show own_FinH _ _ _ _ _ _ _ _ _ T86_ (mkF m 209 #[.val (.int p1), .val (.int p2), .val (.int p3), .val (.int p4), .val (.int p5), .val (.int p6), .val (.int (5 : Int32)), .val (.int c1), .val (.int c2), .val (.int c3), .val (.int c4), .val (.int c5), .val (.ref x78_), .val (.int r), .unset, .val (.int c5), .unset] [(.int (1 : Int32))])
            refine own_viaH (fun _ k => XS.istore X86_.here hx rfl (hb hby at_209) rfl (l' := #[.val (.int p1), .val (.int p2), .val (.int p3), .val (.int p4), .val (.int p5), .val (.int p6), .val (.int (5 : Int32)), .val (.int c1), .val (.int c2), .val (.int c3), .val (.int c4), .val (.int c5), .val (.ref x78_), .val (.int r), .unset, .val (.int c5), .val (.int (1 : Int32))]) rfl k) ?_
            show own_FinH _ _ _ _ _ _ _ _ _ T86_ (mkF m 211 #[.val (.int p1), .val (.int p2), .val (.int p3), .val (.int p4), .val (.int p5), .val (.int p6), .val (.int (5 : Int32)), .val (.int c1), .val (.int c2), .val (.int c3), .val (.int c4), .val (.int c5), .val (.ref x78_), .val (.int r), .unset, .val (.int c5), .val (.int (1 : Int32))] [])
            exact s211 _ (Or.inl ⟨rfl, Or.inr (Or.inl (⟨ha, hbb⟩))⟩)
          · refine own_viaH (fun _ k => XS.icmpNo X86_.here hx rfl (hb hby at_161) rfl (feq hbb).1 k) ?_
            show own_FinH _ _ _ _ _ _ _ _ _ T86_ (mkF m 164 #[.val (.int p1), .val (.int p2), .val (.int p3), .val (.int p4), .val (.int p5), .val (.int p6), .val (.int (5 : Int32)), .val (.int c1), .val (.int c2), .val (.int c3), .val (.int c4), .val (.int c5), .val (.ref x78_), .val (.int r), .unset, .val (.int c5), .unset] [])
            exact sp1 (fun q => hbb q.2)
        · refine own_viaH (fun _ k => XS.icmpYes X86_.here hx rfl (pc0 := 154) (pc' := 164) rfl (hb hby at_154) rfl (feq ha).2 (by decide) (by decide) k) ?_
          show own_FinH _ _ _ _ _ _ _ _ _ T86_ (mkF m 164 #[.val (.int p1), .val (.int p2), .val (.int p3), .val (.int p4), .val (.int p5), .val (.int p6), .val (.int (5 : Int32)), .val (.int c1), .val (.int c2), .val (.int c3), .val (.int c4), .val (.int c5), .val (.ref x78_), .val (.int r), .unset, .val (.int c5), .unset] [])
          exact sp1 (fun q => ha q.1)
      refine own_viaH (fun _ k => XS.iload X86_.here hx rfl (hb hby at_130) rfl k) ?_
      show own_FinH _ _ _ _ _ _ _ _ _ T86_ (mkF m 132 #[.val (.int p1), .val (.int p2), .val (.int p3), .val (.int p4), .val (.int p5), .val (.int p6), .val (.int (5 : Int32)), .val (.int c1), .val (.int c2), .val (.int c3), .val (.int c4), .val (.int c5), .val (.ref x78_), .val (.int r), .unset, .val (.int c5), .unset] [(.int c1)])
      refine own_viaH (fun _ k => XS.bipush X86_.here hx rfl (hb hby at_132) k) ?_
      show own_FinH _ _ _ _ _ _ _ _ _ T86_ (mkF m 134 #[.val (.int p1), .val (.int p2), .val (.int p3), .val (.int p4), .val (.int p5), .val (.int p6), .val (.int (5 : Int32)), .val (.int c1), .val (.int c2), .val (.int c3), .val (.int c4), .val (.int c5), .val (.ref x78_), .val (.int r), .unset, .val (.int c5), .unset] [(.int (46 : Int32)), (.int c1)])
      rcases Classical.em (c1 = (46 : Int32)) with ha | ha
      · refine own_viaH (fun _ k => XS.icmpNo X86_.here hx rfl (hb hby at_134) rfl (teq ha).2 k) ?_
        show own_FinH _ _ _ _ _ _ _ _ _ T86_ (mkF m 137 #[.val (.int p1), .val (.int p2), .val (.int p3), .val (.int p4), .val (.int p5), .val (.int p6), .val (.int (5 : Int32)), .val (.int c1), .val (.int c2), .val (.int c3), .val (.int c4), .val (.int c5), .val (.ref x78_), .val (.int r), .unset, .val (.int c5), .unset] [])
        refine own_viaH (fun _ k => XS.iload X86_.here hx rfl (hb hby at_137) rfl k) ?_
        show own_FinH _ _ _ _ _ _ _ _ _ T86_ (mkF m 139 #[.val (.int p1), .val (.int p2), .val (.int p3), .val (.int p4), .val (.int p5), .val (.int p6), .val (.int (5 : Int32)), .val (.int c1), .val (.int c2), .val (.int c3), .val (.int c4), .val (.int c5), .val (.ref x78_), .val (.int r), .unset, .val (.int c5), .unset] [(.int c2)])
        refine own_viaH (fun _ k => XS.bipush X86_.here hx rfl (hb hby at_139) k) ?_
        show own_FinH _ _ _ _ _ _ _ _ _ T86_ (mkF m 141 #[.val (.int p1), .val (.int p2), .val (.int p3), .val (.int p4), .val (.int p5), .val (.int p6), .val (.int (5 : Int32)), .val (.int c1), .val (.int c2), .val (.int c3), .val (.int c4), .val (.int c5), .val (.ref x78_), .val (.int r), .unset, .val (.int c5), .unset] [(.int (46 : Int32)), (.int c2)])
        rcases Classical.em (c2 = (46 : Int32)) with hbb | hbb
        · refine own_viaH (fun _ k => XS.icmpYes X86_.here hx rfl (pc0 := 141) (pc' := 204) rfl (hb hby at_141) rfl (teq hbb).1 (by decide) (by decide) k) ?_
          show own_FinH _ _ _ _ _ _ _ _ _ T86_ (mkF m 204 #[.val (.int p1), .val (.int p2), .val (.int p3), .val (.int p4), .val (.int p5), .val (.int p6), .val (.int (5 : Int32)), .val (.int c1), .val (.int c2), .val (.int c3), .val (.int c4), .val (.int c5), .val (.ref x78_), .val (.int r), .unset, .val (.int c5), .unset] [])
          refine own_viaH (fun _ k => XS.iconst X86_.here hx rfl (hb hby at_204) k) ?_
          show own_FinH _ _ _ _ _ _ _ _ _ T86_ (mkF m 205 #[.val (.int p1), .val (.int p2), .val (.int p3), .val (.int p4), .val (.int p5), .val (.int p6), .val (.int (5 : Int32)), .val (.int c1), .val (.int c2), .val (.int c3), .val (.int c4), .val (.int c5), .val (.ref x78_), .val (.int r), .unset, .val (.int c5), .unset] [(.int (1 : Int32))])
          refine own_viaH (fun _ k => XS.goto X86_.here hx rfl (pc0 := 205) (pc' := 209) rfl (hb hby at_205) (by decide) (by decide) k) ?_
          show own_FinH _ _ _ _ _ _ _ _ _ T86_ (mkF m 209 #[.val (.int p1), .val (.int p2), .val (.int p3), .val (.int p4), .val (.int p5), .val (.int p6), .val (.int (5 : Int32)), .val (.int c1), .val (.int c2), .val (.int c3), .val (.int c4), .val (.int c5), .val (.ref x78_), .val (.int r), .unset, .val (.int c5), .unset] [(.int (1 : Int32))])
          refine own_viaH (fun _ k => XS.istore X86_.here hx rfl (hb hby at_209) rfl (l' := #[.val (.int p1), .val (.int p2), .val (.int p3), .val (.int p4), .val (.int p5), .val (.int p6), .val (.int (5 : Int32)), .val (.int c1), .val (.int c2), .val (.int c3), .val (.int c4), .val (.int c5), .val (.ref x78_), .val (.int r), .unset, .val (.int c5), .val (.int (1 : Int32))]) rfl k) ?_
          show own_FinH _ _ _ _ _ _ _ _ _ T86_ (mkF m 211 #[.val (.int p1), .val (.int p2), .val (.int p3), .val (.int p4), .val (.int p5), .val (.int p6), .val (.int (5 : Int32)), .val (.int c1), .val (.int c2), .val (.int c3), .val (.int c4), .val (.int c5), .val (.ref x78_), .val (.int r), .unset, .val (.int c5), .val (.int (1 : Int32))] [])
          exact s211 _ (Or.inl ⟨rfl, Or.inl (⟨ha, hbb⟩)⟩)
        · refine own_viaH (fun _ k => XS.icmpNo X86_.here hx rfl (hb hby at_141) rfl (feq hbb).1 k) ?_
          show own_FinH _ _ _ _ _ _ _ _ _ T86_ (mkF m 144 #[.val (.int p1), .val (.int p2), .val (.int p3), .val (.int p4), .val (.int p5), .val (.int p6), .val (.int (5 : Int32)), .val (.int c1), .val (.int c2), .val (.int c3), .val (.int c4), .val (.int c5), .val (.ref x78_), .val (.int r), .unset, .val (.int c5), .unset] [])
          exact sp0 (fun q => hbb q.2)
      · refine own_viaH (fun _ k => XS.icmpYes X86_.here hx rfl (pc0 := 134) (pc' := 144) rfl (hb hby at_134) rfl (feq ha).2 (by decide) (by decide) k) ?_
        show own_FinH _ _ _ _ _ _ _ _ _ T86_ (mkF m 144 #[.val (.int p1), .val (.int p2), .val (.int p3), .val (.int p4), .val (.int p5), .val (.int p6), .val (.int (5 : Int32)), .val (.int c1), .val (.int c2), .val (.int c3), .val (.int c4), .val (.int c5), .val (.ref x78_), .val (.int r), .unset, .val (.int c5), .unset] [])
        exact sp0 (fun q => ha q.1)
  exact s41 _ (own_n06 p1)
set_option maxRecDepth 65536 in
set_option maxHeartbeats 40000000 in
theorem comes_1 {Post : Tables → Env → Array Value → State → Outcome → State → Prop} (hpost : ∀ tb e args s v u, (limb_1_1.after args s (.returned v) u = true ∧ limb_1_2.after args s (.returned v) u = true ∧ True) → ReturnedEndW s (.returned v) u (Jvm.fieldLocs frame_1_writes args s ++ Jvm.arrayLocs frame_1_arrays args s ++ Jvm.staticLocs frame_1_statics s) 24 2176 → Post tb e args s (.returned v) u) :
    ArmFor flags0 classFile x code maxLocals ret World_1 tables_1 room_1 Calls_1 rest_1 Pre_1 Post := by
  intro l hfl _ _ p e ha hc hk s m args below hf hA hF happ hP
  obtain ⟨hcalls, hrest, hpre⟩ := hP
  obtain ⟨-, -, -, hnamed, -, -, -, hat⟩ := (Spec.applies_iff hf).mp happ
  obtain ⟨hg, hn⟩ := and_e (Cond.before_iff.mp (show (Jvm.Cond.and given_1 narrow_1).before args s = true from hpre))
  obtain ⟨g0, k0⟩ := and_e hg
  obtain ⟨g1, k1⟩ := and_e k0
  obtain ⟨g2, k2⟩ := and_e k1
  obtain ⟨g3, k3⟩ := and_e k2
  obtain ⟨g4, k4⟩ := and_e k3
  obtain ⟨g5, k5⟩ := and_e k4
  have g6 := k5
  obtain ⟨w0, w1, w2, w3, w4, w5, rfl⟩ : ∃ w0 w1 w2 w3 w4 w5 : Value, args = #[w0, w1, w2, w3, w4, w5] := by
    have hs : args.size = 6 := by simpa [Cond.value, given_1] using g0
    obtain ⟨L⟩ := args
    match L, hs with
    | [w0, w1, w2, w3, w4, w5], _ => exact ⟨w0, w1, w2, w3, w4, w5, rfl⟩
  have hw := fun d (hd : d ∈ tables_1) => atoms_spec (ws := Jvm.Cond.code x code maxLocals ret :: tables_1) hat d (List.mem_cons_of_mem _ hd)
  have hfit : Fit s := fun {y c} hc i hi => by
    obtain ⟨ha, rfl⟩ := Array.getElem?_eq_some_iff.mp hc
    have q := List.all_eq_true.mp ((Array.all_eq_true_iff_forall_mem.mp hF) _ (Array.getElem_mem ha)) i (List.mem_range.mpr hi)
    simpa [Array.getElem?_eq_getElem hi] using q
  obtain ⟨hsets, hown0⟩ := atoms_of _ (rest_1_c_eq ▸ (show rest_1_c.before _ s = true from hrest))
  have hr0 := Cond.before_iff.mp hown0
  obtain ⟨i0, ei0⟩ := is_v g1
  obtain rfl : w0 = (.int i0) := Option.some.inj ei0
  obtain ⟨i1, ei1⟩ := is_v g2
  obtain rfl : w1 = (.int i1) := Option.some.inj ei1
  obtain ⟨i2, ei2⟩ := is_v g3
  obtain rfl : w2 = (.int i2) := Option.some.inj ei2
  obtain ⟨i3, ei3⟩ := is_v g4
  obtain rfl : w3 = (.int i3) := Option.some.inj ei3
  obtain ⟨i4, ei4⟩ := is_v g5
  obtain rfl : w4 = (.int i4) := Option.some.inj ei4
  obtain ⟨i5, ei5⟩ := is_v g6
  obtain rfl : w5 = (.int i5) := Option.some.inj ei5
  have n3 := not_v (Cond.before_iff.mp (hsets _ (List.mem_of_getElem? (i := 2) rfl)))
  obtain ⟨cz, ecz⟩ := is_v (Cond.before_iff.mp (hsets _ (List.mem_of_getElem? (i := 1) rfl)))
  have S8 : Sta s s.heap "java/lang/String" "COMPACT_STRINGS" "Z" (.int cz) := Sta.start ecz (Or.inl (hsets _ (List.mem_of_getElem? (i := 0) rfl)))
  have c13 : ¬ (cz = (0 : Int32)) := gotF (Cond.eq_ints ecz (Term.int_eval (0))) n3
  obtain ⟨fm, efm, rfm⟩ := isR_v (Cond.before_iff.mp (hsets _ (List.mem_of_getElem? (i := 8) rfl)))
  have S9 : Sta s s.heap "jdk/internal/util/Preconditions" "SIOOBE_FORMATTER" "Ljava/util/function/BiFunction;" fm := Sta.start efm (Or.inl (hsets _ (List.mem_of_getElem? (i := 7) rfl)))
  obtain ⟨n, o, h1, h2, h3, _, L, rfl, ⟨rfl, N⟩, -, hq⟩ := own_rm_law l s _ hw tables_1 i0 i1 i2 i3 i4 i5 cz fm s.heap s.heap.size (Nat.le_refl _) (Old.start s) S8 c13 S9 rfm p e ha hc hk s m _ below hf ((Spec.applies_iff_loose hf).mp happ).1 ⟨rfl, State.Warmed39.refl s, rfl, CHv.start (own_ew hw) (fun q hq => hcalls.1 q hq) (hsets _ (List.mem_of_getElem? (i := 2) rfl)) (hw _ (List.mem_of_getElem? (i := 22) rfl)) (hw _ (List.mem_of_getElem? (i := 8) rfl))⟩ trivial
  refine ⟨n, _, h1, h2, h3, hpost _ _ _ _ _ _ ⟨Cond.after_iff.mpr rfl, Cond.after_iff.mpr (eq_i res_at (Term.int_eval (1)) rfl), trivial⟩ ⟨hq.1, hq.2.1, hq.2.2.1, (hq.2.2.2.sift fun y hy => Or.inr (N y hy)).mono (by decide) (by decide)⟩⟩
theorem main_1_1 : Claimed_1_1 := comes_1 fun _ _ _ _ _ _ h hF => ⟨h.1, hF⟩
theorem main_1_2 : Claimed_1_2 := comes_1 fun _ _ _ _ _ _ h hF => ⟨h.2.1, hF⟩
end Jvm.Pilot.@@N@@
namespace Jvm.Pilot.@@N@@
open Jvm Jvm.ClassFile Sem Op Lib Jvm.Free Jvm.Stand Jvm.Pilot.@@N@@.Jvm.D
/-! MADE BY PROGRAM (witnessworld.py) out of the Statement's table words and the real class files: 21 classes; the members and pool entries that the words name. The judged class is class 1, her method 3. -/
namespace start1
open Jvm.ClassFile
def u (s : String) : CpInfo := .utf8 (stringToUtf16 s)
/-- a pool by its gaps: so many unusable entries, then the entry; so many at the end -/
def gap : Nat → List CpInfo → List CpInfo
  | 0, r => r
  | n + 1, r => .unusable :: gap n r
def poolList (es : List (Nat × CpInfo)) (last : Nat) : List CpInfo := es.foldr (fun e r => gap e.1 (e.2 :: r)) (gap last [])
def pool (es : List (Nat × CpInfo)) (last : Nat) : Array CpInfo := ⟨poolList es last⟩
def fileOf (pool : Array CpInfo) (this : Nat) (attrs : Array Attribute := #[]) (ms : Array MethodInfo := #[]) (fl : Nat := 33) (sup : Nat := 0) (ifs : Array Nat := #[]) (fds : Array FieldInfo := #[]) : ClassFile where
  minorVersion := 0
  majorVersion := 65
  constantPool := pool
  accessFlags := fl
  thisClass := this
  superClass := sup
  interfaces := ifs
  fields := fds
  methods := ms
  attributes := attrs
def plain (name : String) (sup : Option ClassId) : Class where
  name := name
  kind := .ordinary
  loader := none
  accessFlags := 33
  super := sup
  interfaces := #[]
  cf := none
  fields := #[]
  methods := #[]
  instanceTypes := #[]
  staticTypes := #[]
  resolved := #[]
  callSites := []
  init := .initialized
  statics := none
  mirror := none

def pool0 : Array CpInfo := pool [(5, u "<init>"), (0, u "()V"), (1, .class_ 10), (1, u "java/lang/Object")] 113

def k0c0 : Code := { maxStack := 0, maxLocals := 1, code := object_method_1_code, exceptionTable := #[], attributes := #[] }
def k0m0 : Method := { name := "<init>", desc := "()V", sig := { parameters := [], returnType := none }, accessFlags := 1, code := some k0c0 }
/-- java/lang/Object -/
def k0 : Class := { plain "java/lang/Object" none with
  accessFlags := 33
  interfaces := #[]
  cf := some (fileOf pool0 8 #[] #[{ accessFlags := 1, nameIndex := 5, descriptorIndex := 6, attributes := #[] }] 33 0 #[] #[])
  fields := #[]
  methods := #[k0m0]
  instanceTypes := #[]
  staticTypes := #[]
  resolved := Array.replicate 124 none
  statics := none }

def pool1 : Array CpInfo := pool [(2, .class_ 4), (1, u "java/lang/Object"), (0, u "<init>"), (0, u "()V"), (0, .class_ 8), (0, u "java/lang/String"), (0, .methodref 7 10), (0, .nameAndType 5 11), (0, u "([C)V"), (0, .methodref 13 14), (0, .class_ 15), (0, .nameAndType 16 17), (0, u "com/example/dependency_container/dependencycontainer/BeanDefinitionIsPropertyPathPinLaw"), (0, u "pick"), (0, u "(I)C"), (0, .methodref 13 19), (0, .nameAndType 20 21), (0, u "make"), (0, u "(ICCCCC)Ljava/lang/String;"), (0, .methodref 23 24), (0, .class_ 25), (0, .nameAndType 26 27), (0, u "com/example/dependency_container/dependencycontainer/BeanDefinition"), (0, u "isPropertyPath"), (0, u "(Ljava/lang/String;)Z"), (3, u "law"), (0, u "(IIIIII)Z")] 2

def k1m0 : Method := { name := "<init>", desc := "()V", sig := { parameters := [], returnType := none }, accessFlags := 1, code := none }
def k1c1 : Code := { maxStack := 2, maxLocals := 1, code := method_2_code, exceptionTable := #[], attributes := #[] }
def k1m1 : Method := { name := "pick", desc := "(I)C", sig := { parameters := [.int], returnType := some .char }, accessFlags := 10, code := some k1c1 }
def k1c2 : Code := { maxStack := 6, maxLocals := 6, code := method_3_code, exceptionTable := #[], attributes := #[] }
def k1m2 : Method := { name := "make", desc := "(ICCCCC)Ljava/lang/String;", sig := { parameters := [.int, .char, .char, .char, .char, .char], returnType := some (.object "java/lang/String") }, accessFlags := 10, code := some k1c2 }
def k1c3 : Code := { maxStack := 6, maxLocals := 17, code := code, exceptionTable := #[], attributes := #[] }
def k1m3 : Method := { name := "law", desc := "(IIIIII)Z", sig := { parameters := [.int, .int, .int, .int, .int, .int], returnType := some .boolean }, accessFlags := 9, code := some k1c3 }
/-- com/example/dependency_container/dependencycontainer/BeanDefinitionIsPropertyPathPinLaw -/
def k1 : Class := { plain "com/example/dependency_container/dependencycontainer/BeanDefinitionIsPropertyPathPinLaw" (some 0) with
  accessFlags := 49
  interfaces := #[]
  cf := some (fileOf pool1 13 #[] #[{ accessFlags := 1, nameIndex := 5, descriptorIndex := 6, attributes := #[] }, { accessFlags := 10, nameIndex := 16, descriptorIndex := 17, attributes := #[] }, { accessFlags := 10, nameIndex := 20, descriptorIndex := 21, attributes := #[] }, { accessFlags := 9, nameIndex := 31, descriptorIndex := 32, attributes := #[] }] 49 2 #[] #[])
  fields := #[]
  methods := #[k1m0, k1m1, k1m2, k1m3]
  instanceTypes := #[]
  staticTypes := #[]
  resolved := Array.replicate 35 none
  statics := none }

def pool2 : Array CpInfo := pool [(1, .class_ 2), (0, u "java/io/Serializable"), (0, .class_ 4), (0, u "java/lang/Object")] 2

/-- java/io/Serializable -/
def k2 : Class := { plain "java/io/Serializable" (some 0) with
  accessFlags := 1537
  interfaces := #[]
  cf := some (fileOf pool2 1 #[] #[] 1537 3 #[] #[])
  fields := #[]
  methods := #[]
  instanceTypes := #[]
  staticTypes := #[]
  resolved := Array.replicate 7 none
  statics := none }

def pool3 : Array CpInfo := pool [(1, .class_ 2), (0, u "java/lang/Comparable"), (0, .class_ 4), (0, u "java/lang/Object")] 7

/-- java/lang/Comparable -/
def k3 : Class := { plain "java/lang/Comparable" (some 0) with
  accessFlags := 1537
  interfaces := #[]
  cf := some (fileOf pool3 1 #[] #[] 1537 3 #[] #[])
  fields := #[]
  methods := #[]
  instanceTypes := #[]
  staticTypes := #[]
  resolved := Array.replicate 12 none
  statics := none }

def pool4 : Array CpInfo := pool [(2, .class_ 4), (1, u "java/lang/CharSequence"), (42, .class_ 48), (0, u "java/lang/CharSequence$1CodePointIterator"), (10, .class_ 60), (0, u "java/lang/CharSequence$1CharIterator"), (5, .class_ 67), (0, u "java/lang/Object"), (10, u "toString"), (0, u "()Ljava/lang/String;")] 51

def k4m0 : Method := { name := "toString", desc := "()Ljava/lang/String;", sig := { parameters := [], returnType := some (.object "java/lang/String") }, accessFlags := 1025, code := none }
/-- java/lang/CharSequence -/
def k4 : Class := { plain "java/lang/CharSequence" (some 0) with
  accessFlags := 1537
  interfaces := #[]
  cf := some (fileOf pool4 2 #[.nestMembers #[47, 59]] #[{ accessFlags := 1025, nameIndex := 78, descriptorIndex := 79, attributes := #[] }] 1537 66 #[] #[])
  fields := #[]
  methods := #[k4m0]
  instanceTypes := #[]
  staticTypes := #[]
  resolved := Array.replicate 131 none
  statics := none }

def pool5 : Array CpInfo := pool [(1, .class_ 2), (0, u "java/lang/constant/Constable"), (0, .class_ 4), (0, u "java/lang/Object")] 6

/-- java/lang/constant/Constable -/
def k5 : Class := { plain "java/lang/constant/Constable" (some 0) with
  accessFlags := 1537
  interfaces := #[]
  cf := some (fileOf pool5 1 #[] #[] 1537 3 #[] #[])
  fields := #[]
  methods := #[]
  instanceTypes := #[]
  staticTypes := #[]
  resolved := Array.replicate 11 none
  statics := none }

def pool6 : Array CpInfo := pool [(1, .class_ 2), (0, u "java/lang/constant/ConstantDesc"), (0, .class_ 4), (0, u "java/lang/Object")] 32

/-- java/lang/constant/ConstantDesc -/
def k6 : Class := { plain "java/lang/constant/ConstantDesc" (some 0) with
  accessFlags := 1537
  interfaces := #[]
  cf := some (fileOf pool6 1 #[] #[] 1537 3 #[] #[])
  fields := #[]
  methods := #[]
  instanceTypes := #[]
  staticTypes := #[]
  resolved := Array.replicate 37 none
  statics := none }

def pool7 : Array CpInfo := pool [(1, .methodref 2 3), (0, .class_ 4), (0, .nameAndType 5 6), (0, u "java/lang/Object"), (0, u "<init>"), (0, u "()V"), (0, .string 8), (0, u ""), (0, .fieldref 10 11), (0, .class_ 12), (0, .nameAndType 13 14), (0, u "java/lang/String"), (0, u "value"), (0, u "[B"), (0, .fieldref 10 16), (0, .nameAndType 17 18), (0, u "coder"), (0, u "B"), (2, u "hash"), (0, u "I"), (2, u "hashIsZero"), (0, u "Z"), (0, .methodref 10 28), (0, .nameAndType 5 29), (0, u "([CIILjava/lang/Void;)V"), (8, .fieldref 10 39), (0, .nameAndType 40 26), (0, u "COMPACT_STRINGS"), (1, .class_ 44), (1, u "java/lang/StringUTF16"), (0, u "compress"), (1, .methodref 42 48), (0, .nameAndType 49 50), (0, u "coderFromArrayLen"), (0, u "([BI)B"), (56, .class_ 109), (1, u "java/lang/StringLatin1"), (32, u "()Z"), (34, .methodref 42 178), (0, .nameAndType 45 179), (0, u "([CII)[B"), (154, u "()I"), (0, .methodref 10 336), (0, .nameAndType 17 337), (0, u "()B"), (25, u "([BI)C"), (27, u "(II)V"), (35, u "(I)C"), (34, .nameAndType 463 464), (0, u "toString"), (0, u "()Ljava/lang/String;"), (27, .methodref 10 493), (0, .nameAndType 494 142), (0, u "isLatin1"), (0, .methodref 107 496), (0, .nameAndType 497 363), (0, u "charAt"), (3, u "checkIndex"), (3, .methodref 10 506), (0, .nameAndType 507 334), (0, u "length"), (40, u "(Ljava/lang/CharSequence;)Z"), (26, .class_ 576), (0, u "java/lang/CharSequence"), (12, u "([B[B)I"), (9, u "CASE_INSENSITIVE_ORDER"), (0, u "Ljava/util/Comparator;"), (32, .methodref 10 634), (0, .nameAndType 635 636), (0, u "indexOf"), (0, u "(II)I"), (0, .methodref 107 638), (0, .nameAndType 635 639), (0, u "([BIII)I"), (7, .methodref 107 648), (0, .nameAndType 635 589), (43, u "isEmpty"), (17, .interfaceMethodref 575 462), (0, .methodref 10 712), (0, .nameAndType 635 713), (0, u "(Ljava/lang/String;)I"), (51, u "(I)I"), (244, u "([C)V"), (42, .fieldref 1054 1055), (0, .class_ 1056), (0, .nameAndType 1057 1058), (0, u "jdk/internal/util/Preconditions"), (0, u "SIOOBE_FORMATTER"), (0, u "Ljava/util/function/BiFunction;"), (0, .methodref 1054 1060), (0, .nameAndType 501 1061), (0, u "(IILjava/util/function/BiFunction;)I"), (39, u "serialPersistentFields"), (0, u "[Ljava/io/ObjectStreamField;"), (0, .class_ 1104), (0, u "java/lang/String$CaseInsensitiveComparator"), (1, .class_ 1107), (0, u "java/io/Serializable"), (0, .class_ 1109), (0, u "java/lang/Comparable"), (0, .class_ 1111), (0, u "java/lang/constant/Constable"), (0, .class_ 1113), (0, u "java/lang/constant/ConstantDesc"), (2, u "serialVersionUID"), (0, u "J"), (3, u "REPL"), (0, u "C"), (2, u "LATIN1"), (1, u "UTF16"), (163, u "contains")] 159

def k7m0 : Method := { name := "<init>", desc := "()V", sig := { parameters := [], returnType := none }, accessFlags := 1, code := none }
def k7c1 : Code := { maxStack := 5, maxLocals := 2, code := jdk_42_method_3_code, exceptionTable := #[], attributes := #[] }
def k7m1 : Method := { name := "<init>", desc := "([C)V", sig := { parameters := [(.array .char)], returnType := none }, accessFlags := 1, code := some k7c1 }
def k7c2 : Code := { maxStack := 2, maxLocals := 1, code := jdk_42_method_54_code, exceptionTable := #[], attributes := #[] }
def k7m2 : Method := { name := "length", desc := "()I", sig := { parameters := [], returnType := some .int }, accessFlags := 1, code := some k7c2 }
def k7c3 : Code := { maxStack := 1, maxLocals := 1, code := jdk_42_method_55_code, exceptionTable := #[], attributes := #[] }
def k7m3 : Method := { name := "isEmpty", desc := "()Z", sig := { parameters := [], returnType := some .boolean }, accessFlags := 1, code := some k7c3 }
def k7c4 : Code := { maxStack := 2, maxLocals := 2, code := jdk_42_method_56_code, exceptionTable := #[], attributes := #[] }
def k7m4 : Method := { name := "charAt", desc := "(I)C", sig := { parameters := [.int], returnType := some .char }, accessFlags := 1, code := some k7c4 }
def k7c5 : Code := { maxStack := 3, maxLocals := 2, code := jdk_42_method_79_code, exceptionTable := #[], attributes := #[] }
def k7m5 : Method := { name := "indexOf", desc := "(I)I", sig := { parameters := [.int], returnType := some .int }, accessFlags := 1, code := some k7c5 }
def k7c6 : Code := { maxStack := 4, maxLocals := 3, code := jdk_42_method_80_code, exceptionTable := #[], attributes := #[] }
def k7m6 : Method := { name := "indexOf", desc := "(II)I", sig := { parameters := [.int, .int], returnType := some .int }, accessFlags := 1, code := some k7c6 }
def k7c7 : Code := { maxStack := 2, maxLocals := 3, code := jdk_42_method_84_code, exceptionTable := #[], attributes := #[] }
def k7m7 : Method := { name := "indexOf", desc := "(Ljava/lang/String;)I", sig := { parameters := [(.object "java/lang/String")], returnType := some .int }, accessFlags := 1, code := some k7c7 }
def k7c8 : Code := { maxStack := 2, maxLocals := 2, code := jdk_42_method_97_code, exceptionTable := #[], attributes := #[] }
def k7m8 : Method := { name := "contains", desc := "(Ljava/lang/CharSequence;)Z", sig := { parameters := [(.object "java/lang/CharSequence")], returnType := some .boolean }, accessFlags := 1, code := some k7c8 }
def k7c9 : Code := { maxStack := 1, maxLocals := 1, code := jdk_42_method_126_code, exceptionTable := #[], attributes := #[] }
def k7m9 : Method := { name := "toString", desc := "()Ljava/lang/String;", sig := { parameters := [], returnType := some (.object "java/lang/String") }, accessFlags := 1, code := some k7c9 }
def k7c10 : Code := { maxStack := 4, maxLocals := 6, code := jdk_42_method_149_code, exceptionTable := #[], attributes := #[] }
def k7m10 : Method := { name := "<init>", desc := "([CIILjava/lang/Void;)V", sig := { parameters := [(.array .char), .int, .int, (.object "java/lang/Void")], returnType := none }, accessFlags := 2, code := some k7c10 }
def k7c11 : Code := { maxStack := 1, maxLocals := 1, code := jdk_42_method_152_code, exceptionTable := #[], attributes := #[] }
def k7m11 : Method := { name := "coder", desc := "()B", sig := { parameters := [], returnType := some .byte }, accessFlags := 0, code := some k7c11 }
def k7c12 : Code := { maxStack := 1, maxLocals := 1, code := jdk_42_method_154_code, exceptionTable := #[], attributes := #[] }
def k7m12 : Method := { name := "isLatin1", desc := "()Z", sig := { parameters := [], returnType := some .boolean }, accessFlags := 0, code := some k7c12 }
def k7c13 : Code := { maxStack := 3, maxLocals := 2, code := jdk_42_method_155_code, exceptionTable := #[], attributes := #[] }
def k7m13 : Method := { name := "checkIndex", desc := "(II)V", sig := { parameters := [.int, .int], returnType := none }, accessFlags := 8, code := some k7c13 }
/-- java/lang/String -/
def k7 : Class := { plain "java/lang/String" (some 0) with
  accessFlags := 49
  interfaces := #[2, 3, 4, 5, 6]
  cf := some (fileOf pool7 10 #[.nestMembers #[1103]] #[{ accessFlags := 1, nameIndex := 5, descriptorIndex := 6, attributes := #[] }, { accessFlags := 1, nameIndex := 5, descriptorIndex := 1010, attributes := #[] }, { accessFlags := 1, nameIndex := 507, descriptorIndex := 334, attributes := #[] }, { accessFlags := 1, nameIndex := 692, descriptorIndex := 142, attributes := #[] }, { accessFlags := 1, nameIndex := 497, descriptorIndex := 427, attributes := #[] }, { accessFlags := 1, nameIndex := 635, descriptorIndex := 765, attributes := #[] }, { accessFlags := 1, nameIndex := 635, descriptorIndex := 636, attributes := #[] }, { accessFlags := 1, nameIndex := 635, descriptorIndex := 713, attributes := #[] }, { accessFlags := 1, nameIndex := 1291, descriptorIndex := 548, attributes := #[] }, { accessFlags := 1, nameIndex := 463, descriptorIndex := 464, attributes := #[] }, { accessFlags := 2, nameIndex := 5, descriptorIndex := 29, attributes := #[] }, { accessFlags := 0, nameIndex := 17, descriptorIndex := 337, attributes := #[] }, { accessFlags := 0, nameIndex := 494, descriptorIndex := 142, attributes := #[] }, { accessFlags := 8, nameIndex := 501, descriptorIndex := 391, attributes := #[] }] 49 2 #[1106, 1108, 575, 1110, 1112] #[{ accessFlags := 18, nameIndex := 13, descriptorIndex := 14, attributes := #[] }, { accessFlags := 18, nameIndex := 17, descriptorIndex := 18, attributes := #[] }, { accessFlags := 2, nameIndex := 21, descriptorIndex := 22, attributes := #[] }, { accessFlags := 2, nameIndex := 25, descriptorIndex := 26, attributes := #[] }, { accessFlags := 26, nameIndex := 1116, descriptorIndex := 1117, attributes := #[] }, { accessFlags := 24, nameIndex := 40, descriptorIndex := 26, attributes := #[] }, { accessFlags := 26, nameIndex := 1101, descriptorIndex := 1102, attributes := #[] }, { accessFlags := 26, nameIndex := 1121, descriptorIndex := 1122, attributes := #[] }, { accessFlags := 25, nameIndex := 599, descriptorIndex := 600, attributes := #[] }, { accessFlags := 24, nameIndex := 1125, descriptorIndex := 18, attributes := #[] }, { accessFlags := 24, nameIndex := 1127, descriptorIndex := 18, attributes := #[] }])
  fields := #[{ name := "value", type := (.array .byte), accessFlags := 18, slot := 0, constantValue := 0 }, { name := "coder", type := .byte, accessFlags := 18, slot := 1, constantValue := 0 }, { name := "hash", type := .int, accessFlags := 2, slot := 2, constantValue := 0 }, { name := "hashIsZero", type := .boolean, accessFlags := 2, slot := 3, constantValue := 0 }, { name := "serialVersionUID", type := .long, accessFlags := 26, slot := 0, constantValue := 0 }, { name := "COMPACT_STRINGS", type := .boolean, accessFlags := 24, slot := 1, constantValue := 0 }, { name := "serialPersistentFields", type := (.array (.object "java/io/ObjectStreamField")), accessFlags := 26, slot := 2, constantValue := 0 }, { name := "REPL", type := .char, accessFlags := 26, slot := 3, constantValue := 0 }, { name := "CASE_INSENSITIVE_ORDER", type := (.object "java/util/Comparator"), accessFlags := 25, slot := 4, constantValue := 0 }, { name := "LATIN1", type := .byte, accessFlags := 24, slot := 5, constantValue := 0 }, { name := "UTF16", type := .byte, accessFlags := 24, slot := 6, constantValue := 0 }]
  methods := #[k7m0, k7m1, k7m2, k7m3, k7m4, k7m5, k7m6, k7m7, k7m8, k7m9, k7m10, k7m11, k7m12, k7m13]
  instanceTypes := #[(.array .byte), .byte, .int, .boolean]
  staticTypes := #[.long, .boolean, (.array (.object "java/io/ObjectStreamField")), .char, (.object "java/util/Comparator"), .byte, .byte]
  resolved := Array.replicate 1451 none
  statics := some 0 }

def pool8 : Array CpInfo := pool [(2, .class_ 4), (1, u "java/lang/Object"), (3, .class_ 10), (1, u "com/example/dependency_container/dependencycontainer/BeanDefinition"), (0, u "parts"), (0, u "Lcom/example/dependency_container/dependencycontainer/BeanDefinition$Builder;"), (0, .class_ 14), (0, u "com/example/dependency_container/dependencycontainer/BeanDefinition$Builder"), (8, .class_ 24), (0, u "java/lang/String"), (117, .methodref 23 143), (0, .nameAndType 144 145), (0, u "isEmpty"), (0, u "()Z"), (0, .methodref 23 147), (0, .nameAndType 148 149), (0, u "indexOf"), (0, u "(I)I"), (0, .methodref 23 151), (0, .nameAndType 152 153), (0, u "charAt"), (0, u "(I)C"), (0, .methodref 23 155), (0, .nameAndType 156 157), (0, u "length"), (0, u "()I"), (0, .string 159), (0, u ".."), (0, .methodref 23 161), (0, .nameAndType 162 163), (0, u "contains"), (0, u "(Ljava/lang/CharSequence;)Z"), (65, .class_ 230), (0, u "com/example/dependency_container/dependencycontainer/BeanDefinition$InnerBeanCount"), (272, u "(Ljava/lang/String;)Z"), (122, u "isPropertyPath")] 144

def k8c0 : Code := { maxStack := 3, maxLocals := 1, code := prog_12_method_29_code, exceptionTable := #[], attributes := #[] }
def k8m0 : Method := { name := "isPropertyPath", desc := "(Ljava/lang/String;)Z", sig := { parameters := [(.object "java/lang/String")], returnType := some .boolean }, accessFlags := 9, code := some k8c0 }
/-- com/example/dependency_container/dependencycontainer/BeanDefinition -/
def k8 : Class := { plain "com/example/dependency_container/dependencycontainer/BeanDefinition" (some 0) with
  accessFlags := 49
  interfaces := #[]
  cf := some (fileOf pool8 8 #[.nestMembers #[13, 229]] #[{ accessFlags := 9, nameIndex := 626, descriptorIndex := 503, attributes := #[] }] 49 2 #[] #[{ accessFlags := 18, nameIndex := 11, descriptorIndex := 12, attributes := #[] }])
  fields := #[{ name := "parts", type := (.object "com/example/dependency_container/dependencycontainer/BeanDefinition$Builder"), accessFlags := 18, slot := 0, constantValue := 0 }]
  methods := #[k8m0]
  instanceTypes := #[(.object "com/example/dependency_container/dependencycontainer/BeanDefinition$Builder")]
  staticTypes := #[]
  resolved := Array.replicate 771 none
  statics := none }

def pool9 : Array CpInfo := pool [(6, .class_ 8), (1, u "java/lang/Object"), (0, u "<init>"), (0, u "()V"), (1, .class_ 14), (1, u "java/lang/StringUTF16"), (31, u "$assertionsDisabled"), (0, u "Z"), (13, u "HI_BYTE_SHIFT"), (0, u "I"), (2, u "LO_BYTE_SHIFT"), (49, .methodref 12 116), (0, .nameAndType 117 118), (0, u "compress"), (0, u "([CI[BII)I"), (3, u "([CII)[B"), (138, u "coderFromArrayLen"), (0, u "([BI)B"), (106, .class_ 371), (1, u "java/lang/StringUTF16$LinesSpliterator"), (58, u "MAX_LENGTH"), (196, .class_ 628), (0, u "java/lang/StringUTF16$CodePointsSpliterator"), (0, .class_ 630), (0, u "java/lang/StringUTF16$CharsSpliterator")] 4

def k9m0 : Method := { name := "<init>", desc := "()V", sig := { parameters := [], returnType := none }, accessFlags := 0, code := none }
def k9c1 : Code := { maxStack := 2, maxLocals := 2, code := jdk_52_method_15_code, exceptionTable := #[], attributes := #[] }
def k9m1 : Method := { name := "coderFromArrayLen", desc := "([BI)B", sig := { parameters := [(.array .byte), .int], returnType := some .byte }, accessFlags := 8, code := some k9c1 }
def k9c2 : Code := { maxStack := 5, maxLocals := 6, code := jdk_52_method_16_code, exceptionTable := #[], attributes := #[] }
def k9m2 : Method := { name := "compress", desc := "([CII)[B", sig := { parameters := [(.array .char), .int, .int], returnType := some (.array .byte) }, accessFlags := 9, code := some k9c2 }
def k9c3 : Code := { maxStack := 3, maxLocals := 7, code := jdk_52_method_21_code, exceptionTable := #[], attributes := #[] }
def k9m3 : Method := { name := "compress", desc := "([CI[BII)I", sig := { parameters := [(.array .char), .int, (.array .byte), .int, .int], returnType := some .int }, accessFlags := 9, code := some k9c3 }
/-- java/lang/StringUTF16 -/
def k9 : Class := { plain "java/lang/StringUTF16" (some 0) with
  accessFlags := 48
  interfaces := #[]
  cf := some (fileOf pool9 12 #[.nestMembers #[627, 629, 369]] #[{ accessFlags := 0, nameIndex := 9, descriptorIndex := 10, attributes := #[] }, { accessFlags := 8, nameIndex := 261, descriptorIndex := 262, attributes := #[] }, { accessFlags := 9, nameIndex := 117, descriptorIndex := 122, attributes := #[] }, { accessFlags := 9, nameIndex := 117, descriptorIndex := 118, attributes := #[] }] 48 6 #[] #[{ accessFlags := 26, nameIndex := 61, descriptorIndex := 62, attributes := #[] }, { accessFlags := 26, nameIndex := 65, descriptorIndex := 62, attributes := #[] }, { accessFlags := 24, nameIndex := 430, descriptorIndex := 62, attributes := #[] }, { accessFlags := 4120, nameIndex := 46, descriptorIndex := 47, attributes := #[] }])
  fields := #[{ name := "HI_BYTE_SHIFT", type := .int, accessFlags := 26, slot := 0, constantValue := 0 }, { name := "LO_BYTE_SHIFT", type := .int, accessFlags := 26, slot := 1, constantValue := 0 }, { name := "MAX_LENGTH", type := .int, accessFlags := 24, slot := 2, constantValue := 0 }, { name := "$assertionsDisabled", type := .boolean, accessFlags := 4120, slot := 3, constantValue := 0 }]
  methods := #[k9m0, k9m1, k9m2, k9m3]
  instanceTypes := #[]
  staticTypes := #[.int, .int, .int, .boolean]
  resolved := Array.replicate 635 none
  statics := none }

def pool10 : Array CpInfo := pool [(1, .class_ 2), (0, u "java/lang/String"), (1, .class_ 6), (1, u "java/lang/Object"), (0, u "<init>"), (0, u "()V"), (0, .methodref 1 10), (0, .nameAndType 11 12), (0, u "checkIndex"), (0, u "(II)V"), (1, .class_ 16), (1, u "java/lang/StringLatin1"), (21, .methodref 39 40), (0, .class_ 41), (0, .nameAndType 42 43), (0, u "java/lang/Math"), (0, u "min"), (0, u "(II)I"), (9, u "([BI)C"), (34, .methodref 14 89), (0, .nameAndType 90 91), (0, u "canEncode"), (0, u "(I)Z"), (0, .methodref 39 93), (0, .nameAndType 94 43), (0, u "max"), (0, .methodref 14 96), (0, .nameAndType 97 98), (0, u "indexOfChar"), (0, u "([BIII)I"), (0, .methodref 14 100), (0, .nameAndType 101 102), (0, u "indexOf"), (0, u "([BI[BII)I"), (18, u "$assertionsDisabled"), (0, u "Z"), (98, .class_ 223), (1, u "java/lang/StringLatin1$LinesSpliterator"), (28, u "charAt"), (34, u "([B[B)I"), (102, .class_ 391), (0, u "java/lang/StringLatin1$CharsSpliterator")] 3

def k10m0 : Method := { name := "<init>", desc := "()V", sig := { parameters := [], returnType := none }, accessFlags := 0, code := none }
def k10c1 : Code := { maxStack := 2, maxLocals := 2, code := jdk_43_method_2_code, exceptionTable := #[], attributes := #[] }
def k10m1 : Method := { name := "charAt", desc := "([BI)C", sig := { parameters := [(.array .byte), .int], returnType := some .char }, accessFlags := 9, code := some k10c1 }
def k10c2 : Code := { maxStack := 2, maxLocals := 1, code := jdk_43_method_4_code, exceptionTable := #[], attributes := #[] }
def k10m2 : Method := { name := "canEncode", desc := "(I)Z", sig := { parameters := [.int], returnType := some .boolean }, accessFlags := 9, code := some k10c2 }
def k10c3 : Code := { maxStack := 4, maxLocals := 4, code := jdk_43_method_22_code, exceptionTable := #[], attributes := #[] }
def k10m3 : Method := { name := "indexOf", desc := "([BIII)I", sig := { parameters := [(.array .byte), .int, .int, .int], returnType := some .int }, accessFlags := 9, code := some k10c3 }
def k10c4 : Code := { maxStack := 2, maxLocals := 6, code := jdk_43_method_23_code, exceptionTable := #[], attributes := #[] }
def k10m4 : Method := { name := "indexOfChar", desc := "([BIII)I", sig := { parameters := [(.array .byte), .int, .int, .int], returnType := some .int }, accessFlags := 10, code := some k10c4 }
def k10c5 : Code := { maxStack := 5, maxLocals := 2, code := jdk_43_method_24_code, exceptionTable := #[], attributes := #[] }
def k10m5 : Method := { name := "indexOf", desc := "([B[B)I", sig := { parameters := [(.array .byte), (.array .byte)], returnType := some .int }, accessFlags := 9, code := some k10c5 }
def k10c6 : Code := { maxStack := 3, maxLocals := 11, code := jdk_43_method_25_code, exceptionTable := #[], attributes := #[] }
def k10m6 : Method := { name := "indexOf", desc := "([BI[BII)I", sig := { parameters := [(.array .byte), .int, (.array .byte), .int, .int], returnType := some .int }, accessFlags := 9, code := some k10c6 }
/-- java/lang/StringLatin1 -/
def k10 : Class := { plain "java/lang/StringLatin1" (some 0) with
  accessFlags := 48
  interfaces := #[]
  cf := some (fileOf pool10 14 #[.nestMembers #[390, 221]] #[{ accessFlags := 0, nameIndex := 7, descriptorIndex := 8, attributes := #[] }, { accessFlags := 9, nameIndex := 252, descriptorIndex := 53, attributes := #[] }, { accessFlags := 9, nameIndex := 90, descriptorIndex := 91, attributes := #[] }, { accessFlags := 9, nameIndex := 101, descriptorIndex := 98, attributes := #[] }, { accessFlags := 10, nameIndex := 97, descriptorIndex := 98, attributes := #[] }, { accessFlags := 9, nameIndex := 101, descriptorIndex := 287, attributes := #[] }, { accessFlags := 9, nameIndex := 101, descriptorIndex := 102, attributes := #[] }] 48 4 #[] #[{ accessFlags := 4120, nameIndex := 121, descriptorIndex := 122, attributes := #[] }])
  fields := #[{ name := "$assertionsDisabled", type := .boolean, accessFlags := 4120, slot := 0, constantValue := 0 }]
  methods := #[k10m0, k10m1, k10m2, k10m3, k10m4, k10m5, k10m6]
  instanceTypes := #[]
  staticTypes := #[.boolean]
  resolved := Array.replicate 395 none
  statics := none }

def pool11 : Array CpInfo := pool [(1, .class_ 2), (0, u "java/lang/Math"), (1, .class_ 6), (1, u "java/lang/Object"), (0, u "<init>"), (0, u "()V"), (89, .class_ 100), (1, u "java/lang/Math$RandomNumberGeneratorHolder"), (71, u "negativeZeroFloatBits"), (0, u "J"), (2, u "negativeZeroDoubleBits"), (21, u "max"), (2, u "min"), (43, u "$assertionsDisabled"), (0, u "Z"), (88, u "(II)I"), (2, u "twoToTheDoubleScaleDown"), (0, u "D"), (4, u "twoToTheDoubleScaleUp"), (9, u "E"), (3, u "PI"), (2, u "TAU"), (2, u "DEGREES_TO_RADIANS"), (0, u "RADIANS_TO_DEGREES")] 94

def k11m0 : Method := { name := "<init>", desc := "()V", sig := { parameters := [], returnType := none }, accessFlags := 2, code := none }
def k11c1 : Code := { maxStack := 2, maxLocals := 2, code := jdk_29_method_65_code, exceptionTable := #[], attributes := #[] }
def k11m1 : Method := { name := "max", desc := "(II)I", sig := { parameters := [.int, .int], returnType := some .int }, accessFlags := 9, code := some k11c1 }
def k11c2 : Code := { maxStack := 2, maxLocals := 2, code := jdk_29_method_69_code, exceptionTable := #[], attributes := #[] }
def k11m2 : Method := { name := "min", desc := "(II)I", sig := { parameters := [.int, .int], returnType := some .int }, accessFlags := 9, code := some k11c2 }
/-- java/lang/Math -/
def k11 : Class := { plain "java/lang/Math" (some 0) with
  accessFlags := 49
  interfaces := #[]
  cf := some (fileOf pool11 1 #[.nestMembers #[98]] #[{ accessFlags := 2, nameIndex := 7, descriptorIndex := 8, attributes := #[] }, { accessFlags := 9, nameIndex := 198, descriptorIndex := 335, attributes := #[] }, { accessFlags := 9, nameIndex := 201, descriptorIndex := 335, attributes := #[] }] 49 4 #[] #[{ accessFlags := 25, nameIndex := 354, descriptorIndex := 339, attributes := #[] }, { accessFlags := 25, nameIndex := 358, descriptorIndex := 339, attributes := #[] }, { accessFlags := 25, nameIndex := 361, descriptorIndex := 339, attributes := #[] }, { accessFlags := 26, nameIndex := 364, descriptorIndex := 339, attributes := #[] }, { accessFlags := 26, nameIndex := 365, descriptorIndex := 339, attributes := #[] }, { accessFlags := 26, nameIndex := 172, descriptorIndex := 173, attributes := #[] }, { accessFlags := 26, nameIndex := 176, descriptorIndex := 173, attributes := #[] }, { accessFlags := 8, nameIndex := 344, descriptorIndex := 339, attributes := #[] }, { accessFlags := 8, nameIndex := 338, descriptorIndex := 339, attributes := #[] }, { accessFlags := 4120, nameIndex := 245, descriptorIndex := 246, attributes := #[] }])
  fields := #[{ name := "E", type := .double, accessFlags := 25, slot := 0, constantValue := 0 }, { name := "PI", type := .double, accessFlags := 25, slot := 1, constantValue := 0 }, { name := "TAU", type := .double, accessFlags := 25, slot := 2, constantValue := 0 }, { name := "DEGREES_TO_RADIANS", type := .double, accessFlags := 26, slot := 3, constantValue := 0 }, { name := "RADIANS_TO_DEGREES", type := .double, accessFlags := 26, slot := 4, constantValue := 0 }, { name := "negativeZeroFloatBits", type := .long, accessFlags := 26, slot := 5, constantValue := 0 }, { name := "negativeZeroDoubleBits", type := .long, accessFlags := 26, slot := 6, constantValue := 0 }, { name := "twoToTheDoubleScaleUp", type := .double, accessFlags := 8, slot := 7, constantValue := 0 }, { name := "twoToTheDoubleScaleDown", type := .double, accessFlags := 8, slot := 8, constantValue := 0 }, { name := "$assertionsDisabled", type := .boolean, accessFlags := 4120, slot := 9, constantValue := 0 }]
  methods := #[k11m0, k11m1, k11m2]
  instanceTypes := #[]
  staticTypes := #[.double, .double, .double, .double, .double, .long, .long, .double, .double, .boolean]
  resolved := Array.replicate 460 none
  statics := none }

def pool12 : Array CpInfo := pool [(2, .class_ 4), (1, u "java/lang/Object"), (0, u "<init>"), (0, u "()V"), (17, .class_ 26), (1, u "jdk/internal/util/Preconditions"), (6, u "checkIndex"), (21, .class_ 56), (0, u "jdk/internal/util/Preconditions$4"), (57, .class_ 115), (0, u "jdk/internal/util/Preconditions$1"), (7, u "SIOOBE_FORMATTER"), (0, u "Ljava/util/function/BiFunction;"), (0, .class_ 126), (0, u "jdk/internal/util/Preconditions$2"), (3, u "AIOOBE_FORMATTER"), (0, .class_ 132), (0, u "jdk/internal/util/Preconditions$3"), (3, u "IOOBE_FORMATTER"), (41, u "(IILjava/util/function/BiFunction;)I")] 15

def k12m0 : Method := { name := "<init>", desc := "()V", sig := { parameters := [], returnType := none }, accessFlags := 1, code := none }
def k12c1 : Code := { maxStack := 3, maxLocals := 3, code := jdk_41_method_11_code, exceptionTable := #[], attributes := #[] }
def k12m1 : Method := { name := "checkIndex", desc := "(IILjava/util/function/BiFunction;)I", sig := { parameters := [.int, .int, (.object "java/util/function/BiFunction")], returnType := some .int }, accessFlags := 9, code := some k12c1 }
/-- jdk/internal/util/Preconditions -/
def k12 : Class := { plain "jdk/internal/util/Preconditions" (some 0) with
  accessFlags := 33
  interfaces := #[]
  cf := some (fileOf pool12 24 #[.nestMembers #[55, 131, 125, 114]] #[{ accessFlags := 1, nameIndex := 5, descriptorIndex := 6, attributes := #[] }, { accessFlags := 9, nameIndex := 33, descriptorIndex := 178, attributes := #[] }] 33 2 #[] #[{ accessFlags := 25, nameIndex := 123, descriptorIndex := 124, attributes := #[] }, { accessFlags := 25, nameIndex := 130, descriptorIndex := 124, attributes := #[] }, { accessFlags := 25, nameIndex := 136, descriptorIndex := 124, attributes := #[] }])
  fields := #[{ name := "SIOOBE_FORMATTER", type := (.object "java/util/function/BiFunction"), accessFlags := 25, slot := 0, constantValue := 0 }, { name := "AIOOBE_FORMATTER", type := (.object "java/util/function/BiFunction"), accessFlags := 25, slot := 1, constantValue := 0 }, { name := "IOOBE_FORMATTER", type := (.object "java/util/function/BiFunction"), accessFlags := 25, slot := 2, constantValue := 0 }]
  methods := #[k12m0, k12m1]
  instanceTypes := #[]
  staticTypes := #[(.object "java/util/function/BiFunction"), (.object "java/util/function/BiFunction"), (.object "java/util/function/BiFunction")]
  resolved := Array.replicate 194 none
  statics := some 1 }

def pool13 : Array CpInfo := pool [(9, u "<init>"), (6, .class_ 18), (1, u "java/lang/Object"), (0, u "()V"), (1, .class_ 23), (1, u "jdk/internal/util/ArraysSupport"), (0, u "LOG2_ARRAY_LONG_INDEX_SCALE"), (0, u "I"), (2, u "U"), (0, u "Ljdk/internal/misc/Unsafe;"), (8, u "BIG_ENDIAN"), (0, u "Z"), (8, u "LOG2_BYTE_BIT_SIZE"), (4, u "LOG2_ARRAY_INT_INDEX_SCALE"), (54, u "JLA"), (0, u "Ljdk/internal/access/JavaLangAccess;"), (11, u "LOG2_ARRAY_BOOLEAN_INDEX_SCALE"), (9, u "LOG2_ARRAY_BYTE_INDEX_SCALE"), (5, u "LOG2_ARRAY_CHAR_INDEX_SCALE"), (5, u "LOG2_ARRAY_SHORT_INDEX_SCALE"), (18, u "LOG2_ARRAY_FLOAT_INDEX_SCALE"), (24, u "LOG2_ARRAY_DOUBLE_INDEX_SCALE"), (89, u "T_BOOLEAN"), (2, u "T_CHAR"), (1, u "T_FLOAT"), (1, u "T_DOUBLE"), (1, u "T_BYTE"), (1, u "T_SHORT"), (1, u "T_INT"), (1, u "T_LONG"), (1, u "SOFT_MAX_ARRAY_LENGTH")] 83

def k13m0 : Method := { name := "<init>", desc := "()V", sig := { parameters := [], returnType := none }, accessFlags := 2, code := none }
/-- jdk/internal/util/ArraysSupport -/
def k13 : Class := { plain "jdk/internal/util/ArraysSupport" (some 0) with
  accessFlags := 33
  interfaces := #[]
  cf := some (fileOf pool13 21 #[] #[{ accessFlags := 2, nameIndex := 9, descriptorIndex := 19, attributes := #[] }] 33 16 #[] #[{ accessFlags := 24, nameIndex := 28, descriptorIndex := 29, attributes := #[] }, { accessFlags := 26, nameIndex := 38, descriptorIndex := 39, attributes := #[] }, { accessFlags := 25, nameIndex := 121, descriptorIndex := 25, attributes := #[] }, { accessFlags := 25, nameIndex := 131, descriptorIndex := 25, attributes := #[] }, { accessFlags := 25, nameIndex := 137, descriptorIndex := 25, attributes := #[] }, { accessFlags := 25, nameIndex := 143, descriptorIndex := 25, attributes := #[] }, { accessFlags := 25, nameIndex := 53, descriptorIndex := 25, attributes := #[] }, { accessFlags := 25, nameIndex := 24, descriptorIndex := 25, attributes := #[] }, { accessFlags := 25, nameIndex := 162, descriptorIndex := 25, attributes := #[] }, { accessFlags := 25, nameIndex := 187, descriptorIndex := 25, attributes := #[] }, { accessFlags := 26, nameIndex := 48, descriptorIndex := 25, attributes := #[] }, { accessFlags := 25, nameIndex := 277, descriptorIndex := 25, attributes := #[] }, { accessFlags := 25, nameIndex := 280, descriptorIndex := 25, attributes := #[] }, { accessFlags := 25, nameIndex := 282, descriptorIndex := 25, attributes := #[] }, { accessFlags := 25, nameIndex := 284, descriptorIndex := 25, attributes := #[] }, { accessFlags := 25, nameIndex := 286, descriptorIndex := 25, attributes := #[] }, { accessFlags := 25, nameIndex := 288, descriptorIndex := 25, attributes := #[] }, { accessFlags := 25, nameIndex := 290, descriptorIndex := 25, attributes := #[] }, { accessFlags := 25, nameIndex := 292, descriptorIndex := 25, attributes := #[] }, { accessFlags := 26, nameIndex := 108, descriptorIndex := 109, attributes := #[] }, { accessFlags := 25, nameIndex := 294, descriptorIndex := 25, attributes := #[] }])
  fields := #[{ name := "U", type := (.object "jdk/internal/misc/Unsafe"), accessFlags := 24, slot := 0, constantValue := 0 }, { name := "BIG_ENDIAN", type := .boolean, accessFlags := 26, slot := 1, constantValue := 0 }, { name := "LOG2_ARRAY_BOOLEAN_INDEX_SCALE", type := .int, accessFlags := 25, slot := 2, constantValue := 0 }, { name := "LOG2_ARRAY_BYTE_INDEX_SCALE", type := .int, accessFlags := 25, slot := 3, constantValue := 0 }, { name := "LOG2_ARRAY_CHAR_INDEX_SCALE", type := .int, accessFlags := 25, slot := 4, constantValue := 0 }, { name := "LOG2_ARRAY_SHORT_INDEX_SCALE", type := .int, accessFlags := 25, slot := 5, constantValue := 0 }, { name := "LOG2_ARRAY_INT_INDEX_SCALE", type := .int, accessFlags := 25, slot := 6, constantValue := 0 }, { name := "LOG2_ARRAY_LONG_INDEX_SCALE", type := .int, accessFlags := 25, slot := 7, constantValue := 0 }, { name := "LOG2_ARRAY_FLOAT_INDEX_SCALE", type := .int, accessFlags := 25, slot := 8, constantValue := 0 }, { name := "LOG2_ARRAY_DOUBLE_INDEX_SCALE", type := .int, accessFlags := 25, slot := 9, constantValue := 0 }, { name := "LOG2_BYTE_BIT_SIZE", type := .int, accessFlags := 26, slot := 10, constantValue := 0 }, { name := "T_BOOLEAN", type := .int, accessFlags := 25, slot := 11, constantValue := 0 }, { name := "T_CHAR", type := .int, accessFlags := 25, slot := 12, constantValue := 0 }, { name := "T_FLOAT", type := .int, accessFlags := 25, slot := 13, constantValue := 0 }, { name := "T_DOUBLE", type := .int, accessFlags := 25, slot := 14, constantValue := 0 }, { name := "T_BYTE", type := .int, accessFlags := 25, slot := 15, constantValue := 0 }, { name := "T_SHORT", type := .int, accessFlags := 25, slot := 16, constantValue := 0 }, { name := "T_INT", type := .int, accessFlags := 25, slot := 17, constantValue := 0 }, { name := "T_LONG", type := .int, accessFlags := 25, slot := 18, constantValue := 0 }, { name := "JLA", type := (.object "jdk/internal/access/JavaLangAccess"), accessFlags := 26, slot := 19, constantValue := 0 }, { name := "SOFT_MAX_ARRAY_LENGTH", type := .int, accessFlags := 25, slot := 20, constantValue := 0 }]
  methods := #[k13m0]
  instanceTypes := #[]
  staticTypes := #[(.object "jdk/internal/misc/Unsafe"), .boolean, .int, .int, .int, .int, .int, .int, .int, .int, .int, .int, .int, .int, .int, .int, .int, .int, .int, (.object "jdk/internal/access/JavaLangAccess"), .int]
  resolved := Array.replicate 378 none
  statics := none }

def pool14 : Array CpInfo := pool [(1, u "java/lang/Cloneable"), (0, .class_ 1), (0, u "java/lang/Object"), (0, .class_ 3)] 3

/-- java/lang/Cloneable -/
def k14 : Class := { plain "java/lang/Cloneable" (some 0) with
  accessFlags := 1537
  interfaces := #[]
  cf := some (fileOf pool14 2 #[] #[] 1537 4 #[] #[])
  fields := #[]
  methods := #[]
  instanceTypes := #[]
  staticTypes := #[]
  resolved := Array.replicate 8 none
  statics := none }

/-- the primitive byte -/
def k15 : Class := { plain "byte" none with kind := .primitive 'B', accessFlags := 0x411 }
/-- [B -/
def k16 : Class := { plain "[B" (some 0) with kind := .array 15 .byte, interfaces := #[14, 2], accessFlags := 1041 }

/-- the primitive char -/
def k17 : Class := { plain "char" none with kind := .primitive 'C', accessFlags := 0x411 }
/-- [C -/
def k18 : Class := { plain "[C" (some 0) with kind := .array 17 .char, interfaces := #[14, 2], accessFlags := 1041 }

/-- the primitive int -/
def k19 : Class := { plain "int" none with kind := .primitive 'I', accessFlags := 0x411 }
/-- [I -/
def k20 : Class := { plain "[I" (some 0) with kind := .array 19 .int, interfaces := #[14, 2], accessFlags := 1041 }

def heap : Heap := #[{ cls := 7, slots := #[.long 0, .int 1, .null, .int 0, .null, .int 0, .int 0], vm := .statics 7 },
  { cls := 12, slots := #[.null, .null, .null], vm := .statics 12 }]
def classes : Array Class := #[k0, k1, k2, k3, k4, k5, k6, k7, k8, k9, k10, k11, k12, k13, k14, k15, k16, k17, k18, k19, k20]
def interned : List (Array UInt16 × Addr) := []
def slotsUsed : Nat := 10
def theMethod : MethodId := ⟨1, 3⟩
def args0 : Array Value := #[.int 3, .int 65, .int 256, .int 66, .int 67, .int 68]
def aboutOver (below : List Frame) : State where
  vm := { classes := classes, interned := interned.toArray }
  heap := heap
  slotsUsed := slotsUsed
  threads := #[{ frames := .invoking theMethod args0 :: below }]
def below0 : List Frame := [.native { method := ⟨0, 0⟩, args := #[] }]
def about1 : State := aboutOver below0
def p0 : Program := .bare "" "" ""
def e0 : Env := launch0.env 0 0 0
theorem w_frames : about1.frames = Frame.invoking theMethod args0 :: below0 := rfl
set_option maxRecDepth 65536 in
theorem w_args : argsFit about1.vm theMethod args0 = true := by decide +kernel
set_option maxRecDepth 65536 in
theorem w_heap : heapFits about1 = true := by decide +kernel
set_option maxRecDepth 65536 in
theorem w_runnable : about1.curStatus? = some .runnable := by decide +kernel
set_option maxRecDepth 65536 in
theorem w_alone : about1.alone = true := by decide +kernel
set_option maxRecDepth 65536 in
theorem w_named : about1.methodNamed? x = some theMethod := by decide +kernel
set_option maxRecDepth 65536 in
theorem w_hears : about1.hears theMethod below0 = true := by decide +kernel
set_option maxRecDepth 65536 in
theorem w_ripe : about1.ripe theMethod args0 below0 = true := by decide +kernel
theorem w_running : about1.status = .running := rfl
set_option maxRecDepth 65536 in
theorem w_room : about1.hasRoom e0.platform room_1 = true :=
  launch0.hasRoom_least _ room_1 (by decide +kernel) (by decide +kernel) (by decide +kernel) (by decide +kernel) (by decide +kernel) (by decide +kernel)
theorem allAtoms_all (ts : List Jvm.Cond) (a : Array Jvm.Value) (st : Jvm.State) : (allAtoms ts).before a st = ts.all (fun c => c.before a st) := by
  induction ts with
  | nil => rfl
  | cons c t ih =>
    show (Jvm.Cond.and c (allAtoms t)).before a st = _
    rw [Jvm.Cond.before_and, ih, List.all_cons]
def words1 : List Jvm.Cond := Jvm.Cond.code x code maxLocals ret :: tables_1
/-- a 'code' word, met by the world's own term for the bytes: nothing is compared byte by byte -/
theorem code_word {y : MethodName} {bytes : ByteArray} {mx : Nat} {rt : Option FieldType} {a : Array Value} {s : State} {m : MethodId} {meth : Method} {c : Code} (h1 : s.methodNamed? y = some m) (h2 : s.vm.method? m = some meth) (h3 : meth.code = some c) (h4 : c.code = bytes)
    (h5 : (c.maxLocals == mx && c.exceptionTable.isEmpty && decide (c.maxStack ≤ mostOperands) && decide (meth.sig.returnType = rt) && !meth.locks && decide (parseMethodDescriptor y.desc = some meth.sig)) = true) : (Jvm.Cond.code y bytes mx rt).before a s = true := by
  simp only [Bool.and_eq_true, beq_iff_eq, Bool.not_eq_true', decide_eq_true_eq] at h5
  obtain ⟨⟨⟨⟨⟨g1, g2⟩, g3⟩, g4⟩, g5⟩, g6⟩ := h5
  simp [Cond.before, Cond.holds, Cond.value, h1, h2, h3, h4, g1, g2, g3, g4, g5, g6]
def isCode : Jvm.Cond → Bool
  | .code _ _ _ _ => true
  | _ => false
theorem all_split {L : List Jvm.Cond} {P : Jvm.Cond → Bool} (h1 : L.all (fun c => isCode c || P c) = true) (h2 : ∀ c ∈ L.filter isCode, P c = true) : L.all P = true := by
  refine List.all_eq_true.mpr fun c hc => ?_
  have h := List.all_eq_true.mp h1 c hc
  rcases Bool.eq_false_or_eq_true (isCode c) with hi | hi
  · exact h2 c (List.mem_filter.mpr ⟨hc, hi⟩)
  · simpa [hi] using h
set_option maxRecDepth 65536 in
theorem w_c0 : (Jvm.Cond.code x code maxLocals ret).before args0 about1 = true := code_word (m := ⟨1, 3⟩) (meth := k1m3) (c := k1c3) (by decide +kernel) rfl rfl rfl (by decide +kernel)
set_option maxRecDepth 65536 in
theorem w_c1 : (Jvm.Cond.code ({ cls := "com/example/dependency_container/dependencycontainer/BeanDefinitionIsPropertyPathPinLaw", name := "pick", desc := "(I)C" } : Jvm.MethodName) method_2_code (1 : Nat) (Option.some Jvm.ClassFile.FieldType.char)).before args0 about1 = true := code_word (m := ⟨1, 1⟩) (meth := k1m1) (c := k1c1) (by decide +kernel) rfl rfl rfl (by decide +kernel)
set_option maxRecDepth 65536 in
theorem w_c2 : (Jvm.Cond.code ({ cls := "com/example/dependency_container/dependencycontainer/BeanDefinitionIsPropertyPathPinLaw", name := "make", desc := "(ICCCCC)Ljava/lang/String;" } : Jvm.MethodName) method_3_code (6 : Nat) (Option.some (Jvm.ClassFile.FieldType.object "java/lang/String"))).before args0 about1 = true := code_word (m := ⟨1, 2⟩) (meth := k1m2) (c := k1c2) (by decide +kernel) rfl rfl rfl (by decide +kernel)
set_option maxRecDepth 65536 in
theorem w_c3 : (Jvm.Cond.code ({ cls := "java/lang/String", name := "<init>", desc := "([C)V" } : Jvm.MethodName) jdk_42_method_3_code (2 : Nat) (Option.none : Option Jvm.ClassFile.FieldType)).before args0 about1 = true := code_word (m := ⟨7, 1⟩) (meth := k7m1) (c := k7c1) (by decide +kernel) rfl rfl rfl (by decide +kernel)
set_option maxRecDepth 65536 in
theorem w_c4 : (Jvm.Cond.code ({ cls := "java/lang/String", name := "<init>", desc := "([CIILjava/lang/Void;)V" } : Jvm.MethodName) jdk_42_method_149_code (6 : Nat) (Option.none : Option Jvm.ClassFile.FieldType)).before args0 about1 = true := code_word (m := ⟨7, 10⟩) (meth := k7m10) (c := k7c10) (by decide +kernel) rfl rfl rfl (by decide +kernel)
set_option maxRecDepth 65536 in
theorem w_c5 : (Jvm.Cond.code ({ cls := "java/lang/Object", name := "<init>", desc := "()V" } : Jvm.MethodName) object_method_1_code (1 : Nat) (Option.none : Option Jvm.ClassFile.FieldType)).before args0 about1 = true := code_word (m := ⟨0, 0⟩) (meth := k0m0) (c := k0c0) (by decide +kernel) rfl rfl rfl (by decide +kernel)
set_option maxRecDepth 65536 in
theorem w_c6 : (Jvm.Cond.code ({ cls := "com/example/dependency_container/dependencycontainer/BeanDefinition", name := "isPropertyPath", desc := "(Ljava/lang/String;)Z" } : Jvm.MethodName) prog_12_method_29_code (1 : Nat) (Option.some Jvm.ClassFile.FieldType.boolean)).before args0 about1 = true := code_word (m := ⟨8, 0⟩) (meth := k8m0) (c := k8c0) (by decide +kernel) rfl rfl rfl (by decide +kernel)
set_option maxRecDepth 65536 in
theorem w_c7 : (Jvm.Cond.code ({ cls := "java/lang/String", name := "isEmpty", desc := "()Z" } : Jvm.MethodName) jdk_42_method_55_code (1 : Nat) (Option.some Jvm.ClassFile.FieldType.boolean)).before args0 about1 = true := code_word (m := ⟨7, 3⟩) (meth := k7m3) (c := k7c3) (by decide +kernel) rfl rfl rfl (by decide +kernel)
set_option maxRecDepth 65536 in
theorem w_c8 : (Jvm.Cond.code ({ cls := "java/lang/StringUTF16", name := "compress", desc := "([CII)[B" } : Jvm.MethodName) jdk_52_method_16_code (6 : Nat) (Option.some (Jvm.ClassFile.FieldType.array Jvm.ClassFile.FieldType.byte))).before args0 about1 = true := code_word (m := ⟨9, 2⟩) (meth := k9m2) (c := k9c2) (by decide +kernel) rfl rfl rfl (by decide +kernel)
set_option maxRecDepth 65536 in
theorem w_c9 : (Jvm.Cond.code ({ cls := "java/lang/StringUTF16", name := "compress", desc := "([CI[BII)I" } : Jvm.MethodName) jdk_52_method_21_code (7 : Nat) (Option.some Jvm.ClassFile.FieldType.int)).before args0 about1 = true := code_word (m := ⟨9, 3⟩) (meth := k9m3) (c := k9c3) (by decide +kernel) rfl rfl rfl (by decide +kernel)
set_option maxRecDepth 65536 in
theorem w_c10 : (Jvm.Cond.code ({ cls := "java/lang/StringUTF16", name := "coderFromArrayLen", desc := "([BI)B" } : Jvm.MethodName) jdk_52_method_15_code (2 : Nat) (Option.some Jvm.ClassFile.FieldType.byte)).before args0 about1 = true := code_word (m := ⟨9, 1⟩) (meth := k9m1) (c := k9c1) (by decide +kernel) rfl rfl rfl (by decide +kernel)
set_option maxRecDepth 65536 in
theorem w_c11 : (Jvm.Cond.code ({ cls := "java/lang/String", name := "indexOf", desc := "(I)I" } : Jvm.MethodName) jdk_42_method_79_code (2 : Nat) (Option.some Jvm.ClassFile.FieldType.int)).before args0 about1 = true := code_word (m := ⟨7, 5⟩) (meth := k7m5) (c := k7c5) (by decide +kernel) rfl rfl rfl (by decide +kernel)
set_option maxRecDepth 65536 in
theorem w_c12 : (Jvm.Cond.code ({ cls := "java/lang/String", name := "indexOf", desc := "(II)I" } : Jvm.MethodName) jdk_42_method_80_code (3 : Nat) (Option.some Jvm.ClassFile.FieldType.int)).before args0 about1 = true := code_word (m := ⟨7, 6⟩) (meth := k7m6) (c := k7c6) (by decide +kernel) rfl rfl rfl (by decide +kernel)
set_option maxRecDepth 65536 in
theorem w_c13 : (Jvm.Cond.code ({ cls := "java/lang/String", name := "isLatin1", desc := "()Z" } : Jvm.MethodName) jdk_42_method_154_code (1 : Nat) (Option.some Jvm.ClassFile.FieldType.boolean)).before args0 about1 = true := code_word (m := ⟨7, 12⟩) (meth := k7m12) (c := k7c12) (by decide +kernel) rfl rfl rfl (by decide +kernel)
set_option maxRecDepth 65536 in
theorem w_c14 : (Jvm.Cond.code ({ cls := "java/lang/String", name := "length", desc := "()I" } : Jvm.MethodName) jdk_42_method_54_code (1 : Nat) (Option.some Jvm.ClassFile.FieldType.int)).before args0 about1 = true := code_word (m := ⟨7, 2⟩) (meth := k7m2) (c := k7c2) (by decide +kernel) rfl rfl rfl (by decide +kernel)
set_option maxRecDepth 65536 in
theorem w_c15 : (Jvm.Cond.code ({ cls := "java/lang/String", name := "coder", desc := "()B" } : Jvm.MethodName) jdk_42_method_152_code (1 : Nat) (Option.some Jvm.ClassFile.FieldType.byte)).before args0 about1 = true := code_word (m := ⟨7, 11⟩) (meth := k7m11) (c := k7c11) (by decide +kernel) rfl rfl rfl (by decide +kernel)
set_option maxRecDepth 65536 in
theorem w_c16 : (Jvm.Cond.code ({ cls := "java/lang/StringLatin1", name := "indexOf", desc := "([BIII)I" } : Jvm.MethodName) jdk_43_method_22_code (4 : Nat) (Option.some Jvm.ClassFile.FieldType.int)).before args0 about1 = true := code_word (m := ⟨10, 3⟩) (meth := k10m3) (c := k10c3) (by decide +kernel) rfl rfl rfl (by decide +kernel)
set_option maxRecDepth 65536 in
theorem w_c17 : (Jvm.Cond.code ({ cls := "java/lang/StringLatin1", name := "canEncode", desc := "(I)Z" } : Jvm.MethodName) jdk_43_method_4_code (1 : Nat) (Option.some Jvm.ClassFile.FieldType.boolean)).before args0 about1 = true := code_word (m := ⟨10, 2⟩) (meth := k10m2) (c := k10c2) (by decide +kernel) rfl rfl rfl (by decide +kernel)
set_option maxRecDepth 65536 in
theorem w_c18 : (Jvm.Cond.code ({ cls := "java/lang/Math", name := "max", desc := "(II)I" } : Jvm.MethodName) jdk_29_method_65_code (2 : Nat) (Option.some Jvm.ClassFile.FieldType.int)).before args0 about1 = true := code_word (m := ⟨11, 1⟩) (meth := k11m1) (c := k11c1) (by decide +kernel) rfl rfl rfl (by decide +kernel)
set_option maxRecDepth 65536 in
theorem w_c19 : (Jvm.Cond.code ({ cls := "java/lang/Math", name := "min", desc := "(II)I" } : Jvm.MethodName) jdk_29_method_69_code (2 : Nat) (Option.some Jvm.ClassFile.FieldType.int)).before args0 about1 = true := code_word (m := ⟨11, 2⟩) (meth := k11m2) (c := k11c2) (by decide +kernel) rfl rfl rfl (by decide +kernel)
set_option maxRecDepth 65536 in
theorem w_c20 : (Jvm.Cond.code ({ cls := "java/lang/StringLatin1", name := "indexOfChar", desc := "([BIII)I" } : Jvm.MethodName) jdk_43_method_23_code (6 : Nat) (Option.some Jvm.ClassFile.FieldType.int)).before args0 about1 = true := code_word (m := ⟨10, 4⟩) (meth := k10m4) (c := k10c4) (by decide +kernel) rfl rfl rfl (by decide +kernel)
set_option maxRecDepth 65536 in
theorem w_c21 : (Jvm.Cond.code ({ cls := "java/lang/String", name := "charAt", desc := "(I)C" } : Jvm.MethodName) jdk_42_method_56_code (2 : Nat) (Option.some Jvm.ClassFile.FieldType.char)).before args0 about1 = true := code_word (m := ⟨7, 4⟩) (meth := k7m4) (c := k7c4) (by decide +kernel) rfl rfl rfl (by decide +kernel)
set_option maxRecDepth 65536 in
theorem w_c22 : (Jvm.Cond.code ({ cls := "java/lang/StringLatin1", name := "charAt", desc := "([BI)C" } : Jvm.MethodName) jdk_43_method_2_code (2 : Nat) (Option.some Jvm.ClassFile.FieldType.char)).before args0 about1 = true := code_word (m := ⟨10, 1⟩) (meth := k10m1) (c := k10c1) (by decide +kernel) rfl rfl rfl (by decide +kernel)
set_option maxRecDepth 65536 in
theorem w_c23 : (Jvm.Cond.code ({ cls := "java/lang/String", name := "checkIndex", desc := "(II)V" } : Jvm.MethodName) jdk_42_method_155_code (2 : Nat) (Option.none : Option Jvm.ClassFile.FieldType)).before args0 about1 = true := code_word (m := ⟨7, 13⟩) (meth := k7m13) (c := k7c13) (by decide +kernel) rfl rfl rfl (by decide +kernel)
set_option maxRecDepth 65536 in
theorem w_c24 : (Jvm.Cond.code ({ cls := "jdk/internal/util/Preconditions", name := "checkIndex", desc := "(IILjava/util/function/BiFunction;)I" } : Jvm.MethodName) jdk_41_method_11_code (3 : Nat) (Option.some Jvm.ClassFile.FieldType.int)).before args0 about1 = true := code_word (m := ⟨12, 1⟩) (meth := k12m1) (c := k12c1) (by decide +kernel) rfl rfl rfl (by decide +kernel)
set_option maxRecDepth 65536 in
theorem w_c25 : (Jvm.Cond.code ({ cls := "java/lang/String", name := "contains", desc := "(Ljava/lang/CharSequence;)Z" } : Jvm.MethodName) jdk_42_method_97_code (2 : Nat) (Option.some Jvm.ClassFile.FieldType.boolean)).before args0 about1 = true := code_word (m := ⟨7, 8⟩) (meth := k7m8) (c := k7c8) (by decide +kernel) rfl rfl rfl (by decide +kernel)
set_option maxRecDepth 65536 in
theorem w_c26 : (Jvm.Cond.code ({ cls := "java/lang/String", name := "toString", desc := "()Ljava/lang/String;" } : Jvm.MethodName) jdk_42_method_126_code (1 : Nat) (Option.some (Jvm.ClassFile.FieldType.object "java/lang/String"))).before args0 about1 = true := code_word (m := ⟨7, 9⟩) (meth := k7m9) (c := k7c9) (by decide +kernel) rfl rfl rfl (by decide +kernel)
set_option maxRecDepth 65536 in
theorem w_c27 : (Jvm.Cond.code ({ cls := "java/lang/String", name := "indexOf", desc := "(Ljava/lang/String;)I" } : Jvm.MethodName) jdk_42_method_84_code (3 : Nat) (Option.some Jvm.ClassFile.FieldType.int)).before args0 about1 = true := code_word (m := ⟨7, 7⟩) (meth := k7m7) (c := k7c7) (by decide +kernel) rfl rfl rfl (by decide +kernel)
set_option maxRecDepth 65536 in
theorem w_c28 : (Jvm.Cond.code ({ cls := "java/lang/StringLatin1", name := "indexOf", desc := "([B[B)I" } : Jvm.MethodName) jdk_43_method_24_code (2 : Nat) (Option.some Jvm.ClassFile.FieldType.int)).before args0 about1 = true := code_word (m := ⟨10, 5⟩) (meth := k10m5) (c := k10c5) (by decide +kernel) rfl rfl rfl (by decide +kernel)
set_option maxRecDepth 65536 in
theorem w_c29 : (Jvm.Cond.code ({ cls := "java/lang/StringLatin1", name := "indexOf", desc := "([BI[BII)I" } : Jvm.MethodName) jdk_43_method_25_code (11 : Nat) (Option.some Jvm.ClassFile.FieldType.int)).before args0 about1 = true := code_word (m := ⟨10, 6⟩) (meth := k10m6) (c := k10c6) (by decide +kernel) rfl rfl rfl (by decide +kernel)
def codes1 : List Jvm.Cond := [Jvm.Cond.code x code maxLocals ret, Jvm.Cond.code ({ cls := "com/example/dependency_container/dependencycontainer/BeanDefinitionIsPropertyPathPinLaw", name := "pick", desc := "(I)C" } : Jvm.MethodName) method_2_code (1 : Nat) (Option.some Jvm.ClassFile.FieldType.char), Jvm.Cond.code ({ cls := "com/example/dependency_container/dependencycontainer/BeanDefinitionIsPropertyPathPinLaw", name := "make", desc := "(ICCCCC)Ljava/lang/String;" } : Jvm.MethodName) method_3_code (6 : Nat) (Option.some (Jvm.ClassFile.FieldType.object "java/lang/String")), Jvm.Cond.code ({ cls := "java/lang/String", name := "<init>", desc := "([C)V" } : Jvm.MethodName) jdk_42_method_3_code (2 : Nat) (Option.none : Option Jvm.ClassFile.FieldType), Jvm.Cond.code ({ cls := "java/lang/String", name := "<init>", desc := "([CIILjava/lang/Void;)V" } : Jvm.MethodName) jdk_42_method_149_code (6 : Nat) (Option.none : Option Jvm.ClassFile.FieldType), Jvm.Cond.code ({ cls := "java/lang/Object", name := "<init>", desc := "()V" } : Jvm.MethodName) object_method_1_code (1 : Nat) (Option.none : Option Jvm.ClassFile.FieldType), Jvm.Cond.code ({ cls := "com/example/dependency_container/dependencycontainer/BeanDefinition", name := "isPropertyPath", desc := "(Ljava/lang/String;)Z" } : Jvm.MethodName) prog_12_method_29_code (1 : Nat) (Option.some Jvm.ClassFile.FieldType.boolean), Jvm.Cond.code ({ cls := "java/lang/String", name := "isEmpty", desc := "()Z" } : Jvm.MethodName) jdk_42_method_55_code (1 : Nat) (Option.some Jvm.ClassFile.FieldType.boolean), Jvm.Cond.code ({ cls := "java/lang/StringUTF16", name := "compress", desc := "([CII)[B" } : Jvm.MethodName) jdk_52_method_16_code (6 : Nat) (Option.some (Jvm.ClassFile.FieldType.array Jvm.ClassFile.FieldType.byte)), Jvm.Cond.code ({ cls := "java/lang/StringUTF16", name := "compress", desc := "([CI[BII)I" } : Jvm.MethodName) jdk_52_method_21_code (7 : Nat) (Option.some Jvm.ClassFile.FieldType.int), Jvm.Cond.code ({ cls := "java/lang/StringUTF16", name := "coderFromArrayLen", desc := "([BI)B" } : Jvm.MethodName) jdk_52_method_15_code (2 : Nat) (Option.some Jvm.ClassFile.FieldType.byte), Jvm.Cond.code ({ cls := "java/lang/String", name := "indexOf", desc := "(I)I" } : Jvm.MethodName) jdk_42_method_79_code (2 : Nat) (Option.some Jvm.ClassFile.FieldType.int), Jvm.Cond.code ({ cls := "java/lang/String", name := "indexOf", desc := "(II)I" } : Jvm.MethodName) jdk_42_method_80_code (3 : Nat) (Option.some Jvm.ClassFile.FieldType.int), Jvm.Cond.code ({ cls := "java/lang/String", name := "isLatin1", desc := "()Z" } : Jvm.MethodName) jdk_42_method_154_code (1 : Nat) (Option.some Jvm.ClassFile.FieldType.boolean), Jvm.Cond.code ({ cls := "java/lang/String", name := "length", desc := "()I" } : Jvm.MethodName) jdk_42_method_54_code (1 : Nat) (Option.some Jvm.ClassFile.FieldType.int), Jvm.Cond.code ({ cls := "java/lang/String", name := "coder", desc := "()B" } : Jvm.MethodName) jdk_42_method_152_code (1 : Nat) (Option.some Jvm.ClassFile.FieldType.byte), Jvm.Cond.code ({ cls := "java/lang/StringLatin1", name := "indexOf", desc := "([BIII)I" } : Jvm.MethodName) jdk_43_method_22_code (4 : Nat) (Option.some Jvm.ClassFile.FieldType.int), Jvm.Cond.code ({ cls := "java/lang/StringLatin1", name := "canEncode", desc := "(I)Z" } : Jvm.MethodName) jdk_43_method_4_code (1 : Nat) (Option.some Jvm.ClassFile.FieldType.boolean), Jvm.Cond.code ({ cls := "java/lang/Math", name := "max", desc := "(II)I" } : Jvm.MethodName) jdk_29_method_65_code (2 : Nat) (Option.some Jvm.ClassFile.FieldType.int), Jvm.Cond.code ({ cls := "java/lang/Math", name := "min", desc := "(II)I" } : Jvm.MethodName) jdk_29_method_69_code (2 : Nat) (Option.some Jvm.ClassFile.FieldType.int), Jvm.Cond.code ({ cls := "java/lang/StringLatin1", name := "indexOfChar", desc := "([BIII)I" } : Jvm.MethodName) jdk_43_method_23_code (6 : Nat) (Option.some Jvm.ClassFile.FieldType.int), Jvm.Cond.code ({ cls := "java/lang/String", name := "charAt", desc := "(I)C" } : Jvm.MethodName) jdk_42_method_56_code (2 : Nat) (Option.some Jvm.ClassFile.FieldType.char), Jvm.Cond.code ({ cls := "java/lang/StringLatin1", name := "charAt", desc := "([BI)C" } : Jvm.MethodName) jdk_43_method_2_code (2 : Nat) (Option.some Jvm.ClassFile.FieldType.char), Jvm.Cond.code ({ cls := "java/lang/String", name := "checkIndex", desc := "(II)V" } : Jvm.MethodName) jdk_42_method_155_code (2 : Nat) (Option.none : Option Jvm.ClassFile.FieldType), Jvm.Cond.code ({ cls := "jdk/internal/util/Preconditions", name := "checkIndex", desc := "(IILjava/util/function/BiFunction;)I" } : Jvm.MethodName) jdk_41_method_11_code (3 : Nat) (Option.some Jvm.ClassFile.FieldType.int), Jvm.Cond.code ({ cls := "java/lang/String", name := "contains", desc := "(Ljava/lang/CharSequence;)Z" } : Jvm.MethodName) jdk_42_method_97_code (2 : Nat) (Option.some Jvm.ClassFile.FieldType.boolean), Jvm.Cond.code ({ cls := "java/lang/String", name := "toString", desc := "()Ljava/lang/String;" } : Jvm.MethodName) jdk_42_method_126_code (1 : Nat) (Option.some (Jvm.ClassFile.FieldType.object "java/lang/String")), Jvm.Cond.code ({ cls := "java/lang/String", name := "indexOf", desc := "(Ljava/lang/String;)I" } : Jvm.MethodName) jdk_42_method_84_code (3 : Nat) (Option.some Jvm.ClassFile.FieldType.int), Jvm.Cond.code ({ cls := "java/lang/StringLatin1", name := "indexOf", desc := "([B[B)I" } : Jvm.MethodName) jdk_43_method_24_code (2 : Nat) (Option.some Jvm.ClassFile.FieldType.int), Jvm.Cond.code ({ cls := "java/lang/StringLatin1", name := "indexOf", desc := "([BI[BII)I" } : Jvm.MethodName) jdk_43_method_25_code (11 : Nat) (Option.some Jvm.ClassFile.FieldType.int)]
set_option maxRecDepth 65536 in
theorem codes_eq : words1.filter isCode = codes1 := rfl
theorem w_codes : ∀ c ∈ words1.filter isCode, c.before args0 about1 = true := by
  rw [codes_eq]
  intro c hc
  simp only [codes1, List.mem_cons, List.not_mem_nil, or_false] at hc
  rcases hc with rfl | rfl | rfl | rfl | rfl | rfl | rfl | rfl | rfl | rfl | rfl | rfl | rfl | rfl | rfl | rfl | rfl | rfl | rfl | rfl | rfl | rfl | rfl | rfl | rfl | rfl | rfl | rfl | rfl | rfl
  · exact w_c0
  · exact w_c1
  · exact w_c2
  · exact w_c3
  · exact w_c4
  · exact w_c5
  · exact w_c6
  · exact w_c7
  · exact w_c8
  · exact w_c9
  · exact w_c10
  · exact w_c11
  · exact w_c12
  · exact w_c13
  · exact w_c14
  · exact w_c15
  · exact w_c16
  · exact w_c17
  · exact w_c18
  · exact w_c19
  · exact w_c20
  · exact w_c21
  · exact w_c22
  · exact w_c23
  · exact w_c24
  · exact w_c25
  · exact w_c26
  · exact w_c27
  · exact w_c28
  · exact w_c29
set_option maxRecDepth 65536 in
theorem w_t1 : (words1.take 24).all (fun c => isCode c || c.before args0 about1) = true := by decide +kernel
set_option maxRecDepth 65536 in
theorem w_t2 : ((words1.drop 24).take 24).all (fun c => isCode c || c.before args0 about1) = true := by decide +kernel
set_option maxRecDepth 65536 in
theorem w_t3 : (((words1.drop 24).drop 24).take 24).all (fun c => isCode c || c.before args0 about1) = true := by decide +kernel
set_option maxRecDepth 65536 in
theorem w_t4 : ((((words1.drop 24).drop 24).drop 24).take 24).all (fun c => isCode c || c.before args0 about1) = true := by decide +kernel
set_option maxRecDepth 65536 in
theorem w_t5 : (((((words1.drop 24).drop 24).drop 24).drop 24).take 24).all (fun c => isCode c || c.before args0 about1) = true := by decide +kernel
set_option maxRecDepth 65536 in
theorem w_t6 : (((((words1.drop 24).drop 24).drop 24).drop 24).drop 24).all (fun c => isCode c || c.before args0 about1) = true := by decide +kernel
theorem w_tables : (allAtoms (Jvm.Cond.code x code maxLocals ret :: tables_1)).before args0 about1 = true := by
  rw [allAtoms_all]
  show words1.all (fun c => c.before args0 about1) = true
  refine all_split ?_ w_codes
  rw [← List.take_append_drop 24 words1, List.all_append, w_t1, ← List.take_append_drop 24 (words1.drop 24), List.all_append, w_t2, ← List.take_append_drop 24 ((words1.drop 24).drop 24), List.all_append, w_t3, ← List.take_append_drop 24 (((words1.drop 24).drop 24).drop 24), List.all_append, w_t4, ← List.take_append_drop 24 ((((words1.drop 24).drop 24).drop 24).drop 24), List.all_append, w_t5, w_t6]
  rfl
set_option maxRecDepth 65536 in
theorem w_rest : rest_1_c.before args0 about1 = true := by decide +kernel
set_option maxRecDepth 65536 in
theorem w_case : (Jvm.Cond.and given_1 narrow_1).before args0 about1 = true := by decide +kernel
set_option maxRecDepth 65536 in
theorem w_consts : constsHeld consts_1 about1 := Jvm.Lit.constsHeldB_iff.mp (by decide +kernel)
theorem w_applies : (headSpec (Jvm.Cond.code x code maxLocals ret :: tables_1) room_1).applies x e0.platform about1 = true :=
  (Spec.applies_iff w_frames).mpr ⟨w_running, w_runnable, w_alone, w_named, w_hears, w_ripe, w_room, w_tables⟩
theorem atStart : AtStart classFile x code maxLocals ret World_1 tables_1 room_1 Calls_1 rest_1 Pre_1 launch0 p0 e0 about1 theMethod args0 below0 :=
  ⟨lists_1, trivial, launch0.admits_env _ _ _, launch0.least_env, fairChoices_fair.cas, fairChoices_fair.clock, w_frames, w_args, w_heap, w_applies, ⟨w_consts, trivial⟩, w_rest, w_case⟩
end start1
theorem witness_1 : WitnessClaimed_1 := ⟨start1.p0, start1.e0, start1.about1, start1.theMethod, start1.args0, start1.below0, start1.atStart⟩
end Jvm.Pilot.@@N@@
