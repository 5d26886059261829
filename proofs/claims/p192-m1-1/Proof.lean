import JvmDerived
import JvmDerived.Pilot.@@N@@Statement
import JvmDerived.Pilot.@@N@@Code
set_option linter.unusedVariables false
set_option linter.unusedSimpArgs false
namespace Jvm.Pilot.@@N@@
open Jvm Jvm.ClassFile Sem Op Lib Jvm.Free Jvm.Stand Jvm.LawKit Jvm.RoadKit Bundle Jvm.Pilot.@@N@@.Jvm.D

section OwnKit
variable {p : Program} {l : Launch} {e : Env} {R : Room} {s : State} {m : MethodId} {args : Array Value} {below : List Frame} {meth : Method} {c : Code} {T : State} {locs : List Loc} {cells slots : Nat} {Q : Option Value → Heap → List Loc → Prop} {kc kn : Nat} {h : Heap}
/-- from T, with the frame g on top, the body comes to its end, and the end is as Q says -/
def own_Fin (p : Program) (e : Env) (s : State) (below : List Frame) (Q : Option Value → Heap → List Loc → Prop) (kc kn : Nat) (T : State) (g : JFrame) : Prop :=
  ∃ s₂ o, Steps p.tables e below (T.setTop g) s₂ ∧ s₂.status = .running ∧ Ended s₂ below o ∧ ∃ v L, o = .returned v ∧ Q v s₂.heap L ∧ FrameEnd s o s₂ L kc kn
theorem own_via {T' : State} {g g' : JFrame} (k : ∀ t, Steps p.tables e below (T'.setTop g') t → Steps p.tables e below (T.setTop g) t) (hf : own_Fin p e s below Q kc kn T' g') : own_Fin p e s below Q kc kn T g := by
  obtain ⟨s2, o, h1, r⟩ := hf
  exact ⟨s2, o, k _ h1, r⟩
theorem own_ret0 (X : Stand p l e R s m args below meth c T locs cells slots) (hx : p.tables.exec = Jvm.exec) (hret : meth.sig.returnType = none) (hlk : meth.locks = false) {pc : Nat} {Ls : Array Slot} (hd : decode c.code pc = .ok (.return_, 1)) (eT : T.heap = h) (hq : Q none h locs) (hc : cells ≤ kc) (hs : slots ≤ kn) : own_Fin p e s below Q kc kn T (mkF m pc Ls []) := by
  obtain ⟨fs, hr, hrun, hended, hW, hsame⟩ := X.leave (v := none) (fun _ => rfl) hlk
  exact ⟨_, _, X.returnOut hx hret hd hr, hrun, hended, none, locs, rfl, by subst eT; exact hq, ⟨_, rfl⟩, hW, hsame.mono hc hs⟩
theorem own_retN (X : Stand p l e R s m args below meth c T locs cells slots) (hx : p.tables.exec = Jvm.exec) {t : FieldType} (hret : meth.sig.returnType = some t) (hlk : meth.locks = false) (ht : t = .boolean ∨ t = .byte ∨ t = .char ∨ t = .short) {pc : Nat} {Ls : Array Slot} {z r : Int32} {rest : List Value} (hd : decode c.code pc = .ok (.ireturn, 1)) (eT : T.heap = h) (hv : nar t z = r) (hq : Q (some (.int r)) h locs) (hc : cells ≤ kc) (hs : slots ≤ kn) : own_Fin p e s below Q kc kn T (mkF m pc Ls (.int z :: rest)) := by
  obtain ⟨fs, hr, hrun, hended, hW, hsame⟩ := X.leave (v := some (.int (nar t z))) (fun h => by rw [hret] at h; cases h) hlk
  exact ⟨_, _, retN X hx hret ht hd hr, hrun, hended, _, locs, rfl, by subst eT; rw [hv]; exact hq, ⟨_, rfl⟩, hW, hsame.mono hc hs⟩
theorem own_retI (X : Stand p l e R s m args below meth c T locs cells slots) (hx : p.tables.exec = Jvm.exec) (hret : meth.sig.returnType = some .int) (hlk : meth.locks = false) {pc : Nat} {Ls : Array Slot} {z r : Int32} {rest : List Value} (hd : decode c.code pc = .ok (.ireturn, 1)) (eT : T.heap = h) (hv : z = r) (hq : Q (some (.int r)) h locs) (hc : cells ≤ kc) (hs : slots ≤ kn) : own_Fin p e s below Q kc kn T (mkF m pc Ls (.int z :: rest)) := by
  subst hv
  obtain ⟨fs, hr, hrun, hended, hW, hsame⟩ := X.leave (v := some (.int z)) (fun h => by rw [hret] at h; cases h) hlk
  exact ⟨_, _, retOut X hx hret rfl (Or.inl ⟨rfl, Or.inl rfl, z, rfl⟩) hd hr, hrun, hended, _, locs, rfl, by subst eT; exact hq, ⟨_, rfl⟩, hW, hsame.mono hc hs⟩
theorem own_retJ (X : Stand p l e R s m args below meth c T locs cells slots) (hx : p.tables.exec = Jvm.exec) (hret : meth.sig.returnType = some .long) (hlk : meth.locks = false) {pc : Nat} {Ls : Array Slot} {z r : Int64} {rest : List Value} (hd : decode c.code pc = .ok (.lreturn, 1)) (eT : T.heap = h) (hv : z = r) (hq : Q (some (.long r)) h locs) (hc : cells ≤ kc) (hs : slots ≤ kn) : own_Fin p e s below Q kc kn T (mkF m pc Ls (.long z :: rest)) := by
  subst hv
  obtain ⟨fs, hr, hrun, hended, hW, hsame⟩ := X.leave (v := some (.long z)) (fun h => by rw [hret] at h; cases h) hlk
  exact ⟨_, _, retOut X hx hret rfl (Or.inr (Or.inl ⟨rfl, rfl, z, rfl⟩)) hd hr, hrun, hended, _, locs, rfl, by subst eT; exact hq, ⟨_, rfl⟩, hW, hsame.mono hc hs⟩
theorem own_retD (X : Stand p l e R s m args below meth c T locs cells slots) (hx : p.tables.exec = Jvm.exec) (hret : meth.sig.returnType = some .double) (hlk : meth.locks = false) {pc : Nat} {Ls : Array Slot} {z r : UInt64} {rest : List Value} (hd : decode c.code pc = .ok (.dreturn, 1)) (eT : T.heap = h) (hv : z = r) (hq : Q (some (.double r)) h locs) (hc : cells ≤ kc) (hs : slots ≤ kn) : own_Fin p e s below Q kc kn T (mkF m pc Ls (.double z :: rest)) := by
  subst hv
  obtain ⟨fs, hr, hrun, hended, hW, hsame⟩ := X.leave (v := some (.double z)) (fun h => by rw [hret] at h; cases h) hlk
  exact ⟨_, _, retOut X hx hret rfl (Or.inr (Or.inr (Or.inl ⟨rfl, rfl, z, rfl⟩))) hd hr, hrun, hended, _, locs, rfl, by subst eT; exact hq, ⟨_, rfl⟩, hW, hsame.mono hc hs⟩
theorem own_retA (X : Stand p l e R s m args below meth c T locs cells slots) (hx : p.tables.exec = Jvm.exec) {t : FieldType} (hret : meth.sig.returnType = some t) (hlk : meth.locks = false) (ht : t.isReference = true) {pc : Nat} {Ls : Array Slot} {w : Value} {rest : List Value} (hw : w.isRef = true) (hd : decode c.code pc = .ok (.areturn, 1)) (eT : T.heap = h) (hq : Q (some w) h locs) (hc : cells ≤ kc) (hs : slots ≤ kn) : own_Fin p e s below Q kc kn T (mkF m pc Ls (w :: rest)) := by
  obtain ⟨fs, hr, hrun, hended, hW, hsame⟩ := X.leave (v := some w) (fun h => by rw [hret] at h; cases h) hlk
  have hn : narrow t w = w := by
    cases t <;> first | (cases ht; done) | rfl
  exact ⟨_, _, retOut X hx hret hn (Or.inr (Or.inr (Or.inr (Or.inr ⟨rfl, ht, hw⟩)))) hd hr, hrun, hended, _, locs, rfl, by subst eT; exact hq, ⟨_, rfl⟩, hW, hsame.mono hc hs⟩
end OwnKit
section OwnFp
open Jvm.FP Jvm.FP.Core
/-- a quotient of whole magnitudes, rounded, stays on its side of a double -/
theorem own_rr_le {s : Bool} {A B : Nat} {V : Datum} (hB : 0 < B) (hV : FP.Core.fits b64 V) (hn : V ≠ .nan) (h : signed s (A * one64) ≤ zval b64 V * (B : Int)) : zval b64 (roundRatio b64 s A B 0) ≤ zval b64 V := by
  have eu : inUnits A 0 b64.qmin = A * one64 := by
    show A * 2 ^ (0 - b64.qmin).toNat = _
    rw [show (0 - b64.qmin) = -b64.qmin by omega, pow_qmin64]
  have e1 : 2 ^ (b64.qmin - b64.qmin).toNat = 1 := by rw [Int.sub_self]; rfl
  have hle := zmag_roundRatio_le good_b64 (s := s) (A := A) (e := 0) (e0 := b64.qmin) hB hV hn (Int.le_refl _) (by decide +kernel)
  have hge := zmag_roundRatio_ge good_b64 (s := s) (A := A) (e := 0) (e0 := b64.qmin) hB hV (Int.le_refl _) (by decide +kernel)
  rw [e1, Nat.mul_one, eu] at hle hge
  unfold zval at h ⊢
  rw [sgn_roundRatio]
  rw [← signed_mul] at h
  have hz : zmag b64 V * B = 0 → zmag b64 V = 0 := fun q => by
    rcases Nat.mul_eq_zero.mp q with q | q
    · exact q
    · omega
  generalize A * one64 = x at *
  generalize zmag b64 V * B = y at *
  generalize sgn V = t at *
  cases s <;> cases t <;> simp only [signed, if_true, Bool.false_eq_true, if_false] at h ⊢
  · have := hle (by omega); omega
  · have := hle (by omega); have := hz (by omega); omega
  · omega
  · have := hge (by omega); omega
theorem own_quot {a b : UInt64} (ha : DFin a) (hb : DFin b) (hz : zval b64 (val64 b) ≠ 0) : val64 (Core.ddiv a b) = roundRatio b64 (sgn (val64 a) != sgn (val64 b)) (zmag b64 (val64 a)) (zmag b64 (val64 b)) 0 := by
  have fa := val64_fits a
  have fb := val64_fits b
  obtain ⟨s, c, q, ea⟩ := ha
  obtain ⟨t, d, r, eb⟩ := hb
  rw [val64_ddiv]
  rw [eb] at hz
  rw [ea] at fa ⊢
  rw [eb] at fb ⊢
  have hd : d ≠ 0 := fun z => hz (by rw [z]; simp [zval, zmag, inUnits, signed])
  show (if d = 0 then _ else roundRatio b64 (s != t) c d (q - r)) = _
  rw [if_neg hd]
  have hqa : b64.qmin ≤ q := fa.2.1
  have hqb : b64.qmin ≤ r := fb.2.1
  have p1 := Nat.two_pow_pos (r - b64.qmin).toNat
  refine roundRatio_congr (by omega) (Nat.mul_pos (by omega) p1) ?_
  show c * (d * 2 ^ (r - b64.qmin).toNat) * 2 ^ (q - r - 0).toNat = c * 2 ^ (q - b64.qmin).toNat * d * 2 ^ (0 - (q - r)).toNat
  have e : 2 ^ (r - b64.qmin).toNat * 2 ^ (q - r - 0).toNat = 2 ^ (q - b64.qmin).toNat * 2 ^ (0 - (q - r)).toNat := by
    rw [← Nat.pow_add, ← Nat.pow_add]
    congr 1
    omega
  calc c * (d * 2 ^ (r - b64.qmin).toNat) * 2 ^ (q - r - 0).toNat = c * d * (2 ^ (r - b64.qmin).toNat * 2 ^ (q - r - 0).toNat) := by ac_rfl
    _ = c * d * (2 ^ (q - b64.qmin).toNat * 2 ^ (0 - (q - r)).toNat) := by rw [e]
    _ = c * 2 ^ (q - b64.qmin).toNat * d * 2 ^ (0 - (q - r)).toNat := by ac_rfl
/-- x / y ≤ V, with y positive -/
theorem own_div_le {a b V : UInt64} (ha : DFin a) (hb : DFin b) (hV : val64 V ≠ .nan) (hp : 0 < zval b64 (val64 b)) (h : zval b64 (val64 a) * (one64 : Int) ≤ zval b64 (val64 V) * zval b64 (val64 b)) : zval b64 (val64 (Core.ddiv a b)) ≤ zval b64 (val64 V) := by
  rw [own_quot ha hb (by omega)]
  obtain ⟨e1, e2⟩ := signed_pos (show 0 < signed (sgn (val64 b)) (zmag b64 (val64 b)) from hp)
  have es : sgn (val64 b) = false := by
    cases hs : sgn (val64 b)
    · rfl
    · rw [hs] at e1; simp only [signed, if_true] at e1; omega
  have ez : zval b64 (val64 b) = (zmag b64 (val64 b) : Int) := e1
  refine own_rr_le e2 (val64_fits V) hV ?_
  rw [es, ← ez, signed_mul]
  have : (sgn (val64 a) != false) = sgn (val64 a) := by cases sgn (val64 a) <;> rfl
  rw [this]
  exact h
theorem own_div_ge {a b V : UInt64} (ha : DFin a) (hb : DFin b) (hV : val64 V ≠ .nan) (hp : 0 < zval b64 (val64 b)) (h : zval b64 (val64 V) * zval b64 (val64 b) ≤ zval b64 (val64 a) * (one64 : Int)) : zval b64 (val64 V) ≤ zval b64 (val64 (Core.ddiv a b)) := by
  have ha' : DFin (Core.dneg a) := by
    obtain ⟨s, c, q, e⟩ := ha
    exact ⟨!s, c, q, by rw [Core.val64_dneg, e]; rfl⟩
  have hV' : val64 (Core.dneg V) ≠ .nan := by rw [Core.val64_dneg]; exact negate_ne_nan hV
  have q := own_div_le (V := Core.dneg V) ha' hb hV' hp (by
    rw [Core.val64_dneg, Core.val64_dneg, zval_negate, zval_negate, Int.neg_mul, Int.neg_mul]
    omega)
  rw [ddiv_dneg, Core.val64_dneg, Core.val64_dneg, zval_negate, zval_negate] at q
  omega
/-- the sign of the divisor turned along with the dividend's -/
theorem own_div_flip {a b : UInt64} (ha : DFin a) (hb : DFin b) (hz : zval b64 (val64 b) ≠ 0) : val64 (Core.ddiv (Core.dneg a) (Core.dneg b)) = val64 (Core.ddiv a b) := by
  have ha' : DFin (Core.dneg a) := by
    obtain ⟨s, c, q, e⟩ := ha
    exact ⟨!s, c, q, by rw [Core.val64_dneg, e]; rfl⟩
  have hb' : DFin (Core.dneg b) := by
    obtain ⟨s, c, q, e⟩ := hb
    exact ⟨!s, c, q, by rw [Core.val64_dneg, e]; rfl⟩
  have en : ∀ d : Datum, zmag b64 (negate d) = zmag b64 d := fun d => by cases d <;> rfl
  rw [own_quot ha hb hz, own_quot ha' hb' (by rw [Core.val64_dneg, zval_negate]; omega), Core.val64_dneg, Core.val64_dneg, en, en]
  obtain ⟨s, c, q, e⟩ := ha
  obtain ⟨t, d, r, e'⟩ := hb
  rw [e, e']
  show roundRatio b64 ((!s) != (!t)) _ _ 0 = roundRatio b64 (s != t) _ _ 0
  cases s <;> cases t <;> rfl
theorem own_divn_le {a b V : UInt64} (ha : DFin a) (hb : DFin b) (hV : val64 V ≠ .nan) (hp : zval b64 (val64 b) < 0) (h : zval b64 (val64 V) * zval b64 (val64 b) ≤ zval b64 (val64 a) * (one64 : Int)) : zval b64 (val64 (Core.ddiv a b)) ≤ zval b64 (val64 V) := by
  rw [← own_div_flip ha hb (by omega)]
  have ha' : DFin (Core.dneg a) := by
    obtain ⟨s, c, q, e⟩ := ha
    exact ⟨!s, c, q, by rw [Core.val64_dneg, e]; rfl⟩
  have hb' : DFin (Core.dneg b) := by
    obtain ⟨s, c, q, e⟩ := hb
    exact ⟨!s, c, q, by rw [Core.val64_dneg, e]; rfl⟩
  refine own_div_le ha' hb' hV (by rw [Core.val64_dneg, zval_negate]; omega) ?_
  rw [Core.val64_dneg, Core.val64_dneg, zval_negate, zval_negate, Int.neg_mul, Int.mul_neg]
  omega
theorem own_divn_ge {a b V : UInt64} (ha : DFin a) (hb : DFin b) (hV : val64 V ≠ .nan) (hp : zval b64 (val64 b) < 0) (h : zval b64 (val64 a) * (one64 : Int) ≤ zval b64 (val64 V) * zval b64 (val64 b)) : zval b64 (val64 V) ≤ zval b64 (val64 (Core.ddiv a b)) := by
  rw [← own_div_flip ha hb (by omega)]
  have ha' : DFin (Core.dneg a) := by
    obtain ⟨s, c, q, e⟩ := ha
    exact ⟨!s, c, q, by rw [Core.val64_dneg, e]; rfl⟩
  have hb' : DFin (Core.dneg b) := by
    obtain ⟨s, c, q, e⟩ := hb
    exact ⟨!s, c, q, by rw [Core.val64_dneg, e]; rfl⟩
  refine own_div_ge ha' hb' hV (by rw [Core.val64_dneg, zval_negate]; omega) ?_
  rw [Core.val64_dneg, Core.val64_dneg, zval_negate, zval_negate, Int.neg_mul, Int.mul_neg]
  omega
/-- an exact quotient -/
theorem own_div_eq {a b V : UInt64} (ha : DFin a) (hb : DFin b) (hV : val64 V ≠ .nan) (hz : zval b64 (val64 b) ≠ 0) (h : zval b64 (val64 a) * (one64 : Int) = zval b64 (val64 V) * zval b64 (val64 b)) : zval b64 (val64 (Core.ddiv a b)) = zval b64 (val64 V) := by
  rcases Int.lt_or_gt_of_ne hz with q | q
  · exact Int.le_antisymm (own_divn_le ha hb hV q (Int.le_of_eq h.symm)) (own_divn_ge ha hb hV q (Int.le_of_eq h))
  · exact Int.le_antisymm (own_div_le ha hb hV q (Int.le_of_eq h)) (own_div_ge ha hb hV q (Int.le_of_eq h.symm))
/-- a double that is n * 2^q -/
theorem own_repr (n : Int) (q : Int) (hn : n.natAbs < 2 ^ 53) (h1 : -1074 ≤ q) (h2 : q ≤ 971) : ∃ V : UInt64, val64 V ≠ .nan ∧ DFin V ∧ zval b64 (val64 V) = n * ((2 ^ (q + 1074).toNat : Nat) : Int) := by
  have hq1 : b64.qmin ≤ q := by rw [qmin_b64]; exact h1
  have hq2 : q ≤ b64.qmax := by rw [show b64.qmax = 971 by decide +kernel]; exact h2
  obtain ⟨c', q', e, eu⟩ := round_exact good_b64 (decide (n < 0)) (c := n.natAbs) (q := q) (by show n.natAbs < 2 ^ 53; exact hn) hq1 hq2
  have ev : val64 (of64 (round b64 (.fin (decide (n < 0)) n.natAbs q))) = .fin (decide (n < 0)) c' q' := by
    rw [val64_of64 (round_fits good_b64 _), e]
  refine ⟨_, ?_, ⟨_, _, _, ev⟩, ?_⟩
  · rw [ev]; exact Datum.noConfusion
  · rw [ev]
    show signed (decide (n < 0)) (inUnits c' q' b64.qmin) = _
    rw [eu]
    show signed (decide (n < 0)) (n.natAbs * 2 ^ (q - b64.qmin).toNat) = _
    rw [signed_mul, show q - b64.qmin = q + 1074 by rw [qmin_b64]; omega]
    congr 1
    unfold signed
    by_cases z : n < 0 <;> simp [z] <;> omega
theorem own_one64 (k : Nat) (hk : k ≤ 1074) : one64 = 2 ^ k * 2 ^ (1074 - k) := by
  unfold one64
  rw [← Nat.pow_add]
  congr 1
  omega
/-- a long that has at most 53 digits and some noughts is a double exactly -/
theorem own_l2d (n : Int64) (N : Int) (k : Nat) (hk : k ≤ 900) (hN : N.natAbs < 2 ^ 53) (e : n.toInt = N * ((2 ^ k : Nat) : Int)) : zval b64 (val64 (Core.l2d n)) = n.toInt * (one64 : Int) := by
  obtain ⟨V, v1, -, v3⟩ := own_repr N (k : Int) hN (by omega) (by omega)
  have ez : zval b64 (val64 V) = n.toInt * (one64 : Int) := by
    rw [v3, e, show ((k : Int) + 1074).toNat = k + 1074 by omega, Nat.pow_add, Int.mul_assoc, ← Int.natCast_mul]
    rfl
  exact Int.le_antisymm (ez ▸ l2d_zval_le v1 (Int.le_of_eq ez.symm)) (ez ▸ l2d_zval_ge v1 (Int.le_of_eq ez))
theorem own_i2d (n : Int32) : zval b64 (val64 (Core.i2d n)) = n.toInt * (one64 : Int) := DInt_zval (i2d_int n)
theorem own_dadd_eq {a b V : UInt64} (ha : DFin a) (hb : DFin b) (hV : val64 V ≠ .nan) (h : zval b64 (val64 a) + zval b64 (val64 b) = zval b64 (val64 V)) : zval b64 (val64 (Core.dadd a b)) = zval b64 (val64 V) := by
  rw [val64_dadd]
  exact Int.le_antisymm (sum_le good_b64 ha hb (val64_fits _) (val64_fits _) (val64_fits _) hV (Int.le_of_eq h)) (sum_ge good_b64 ha hb (val64_fits _) (val64_fits _) (val64_fits _) hV (Int.le_of_eq h.symm))
theorem own_div_fin {a b V : UInt64} (hn : val64 (Core.ddiv a b) ≠ .nan) (hV : DFin V) (h : zval b64 (val64 (Core.ddiv a b)) = zval b64 (val64 V)) : DFin (Core.ddiv a b) := by
  have hv := hV.zval_lt
  have e : zmag b64 (val64 (Core.ddiv a b)) = zmag b64 (val64 V) := by
    have := congrArg Int.natAbs h
    unfold zval at this
    rw [natAbs_signed, natAbs_signed] at this
    exact this
  rw [← e] at hv
  unfold DFin
  cases hc : val64 (Core.ddiv a b) with
  | nan => exact absurd hc hn
  | inf s => rw [hc] at hv; exact absurd hv (Nat.lt_irrefl _)
  | fin s c q => exact ⟨s, c, q, rfl⟩
theorem own_nn {x : UInt64} : Jvm.Free.Fl.NoNaN64 x ↔ val64 x ≠ .nan := Jvm.Free.Fl.val64_no
/-- the quotient of two finite doubles is a number where the divisor isn't nought -/
theorem own_div_nn {a b : UInt64} (ha : DFin a) (hb : DFin b) (hz : zval b64 (val64 b) ≠ 0) : val64 (Core.ddiv a b) ≠ .nan := by
  rw [own_quot ha hb hz]; exact roundRatio_ne_nan _ _ _ _ _
theorem own_cmp_eq {x y : UInt64} (hx : val64 x ≠ .nan) (hy : val64 y ≠ .nan) (h : zval b64 (val64 x) = zval b64 (val64 y)) (o : CmpOp) : cmpValue (FP.dcmp x y) o = 0 := by
  rw [show FP.dcmp x y = some .eq from dcmp_eq.mpr ⟨hx, hy, h⟩]; rfl
theorem own_cmp_lt {x y : UInt64} (hx : val64 x ≠ .nan) (hy : val64 y ≠ .nan) (h : zval b64 (val64 x) < zval b64 (val64 y)) (o : CmpOp) : cmpValue (FP.dcmp x y) o = -1 := by
  rw [show FP.dcmp x y = some .lt from dcmp_lt.mpr ⟨hx, hy, h⟩]; rfl
theorem own_cmp_gt {x y : UInt64} (hx : val64 x ≠ .nan) (hy : val64 y ≠ .nan) (h : zval b64 (val64 y) < zval b64 (val64 x)) (o : CmpOp) : cmpValue (FP.dcmp x y) o = 1 := by
  rw [show FP.dcmp x y = some .gt from dcmp_gt.mpr ⟨hx, hy, h⟩]; rfl
end OwnFp
theorem own_scale {a b M : Int} (h : a ≤ b) (hM : 0 ≤ M) : a * M ≤ b * M := Int.mul_le_mul_of_nonneg_right h hM
theorem own_sc_le {x y m c P O : Int} (e : O = c * P) (hP : 0 ≤ P) (hO : 0 ≤ O) (k : x * c ≤ m * y) : x * O * O ≤ m * P * (y * O) := by
  have k2 := own_scale (own_scale k hP) hO
  calc x * O * O = x * c * P * O := by rw [Int.mul_assoc x c P, ← e]
    _ ≤ m * y * P * O := k2
    _ = m * P * (y * O) := by ac_rfl
theorem own_sc_ge {x y m c P O : Int} (e : O = c * P) (hP : 0 ≤ P) (hO : 0 ≤ O) (k : m * y ≤ x * c) : m * P * (y * O) ≤ x * O * O := by
  have k2 := own_scale (own_scale k hP) hO
  calc m * P * (y * O) = m * y * P * O := by ac_rfl
    _ ≤ x * c * P * O := k2
    _ = x * O * O := by rw [Int.mul_assoc x c P, ← e]
theorem own_sc_ge1 {x y c P O : Int} (e : O = c * P) (hP : 0 ≤ P) (hO : 0 ≤ O) (k : y ≤ x * c) : P * (y * O) ≤ x * O * O := by
  have q := own_sc_ge (x := x) (y := y) (m := 1) e hP hO (by rw [Int.one_mul]; exact k)
  rwa [Int.one_mul] at q
theorem own_sc_xy {x y O : Int} (hO : 0 ≤ O) (k : x ≤ x * y) : x * O * O ≤ x * O * (y * O) := by
  have k2 := own_scale (own_scale k hO) hO
  calc x * O * O ≤ x * y * O * O := k2
    _ = x * O * (y * O) := by ac_rfl
theorem own_sc_eq {k q O : Int} : k * q * O * O = k * O * (q * O) := by ac_rfl

def own_absL (x : Int64) : Int64 := if x < 0 then -x else x
theorem own_abs_p {x : Int64} (hc : ¬ lcmpW x (0 : Int64) < (0 : Int32)) : x = own_absL x := by
  rw [lw_lt] at hc
  exact (if_neg hc).symm
theorem own_abs_n {x : Int64} (hc : lcmpW x (0 : Int64) < (0 : Int32)) : (-x) = own_absL x := by
  rw [lw_lt] at hc
  exact (if_pos hc).symm
theorem own_eq64 {a : Int64} {b : Int} (h : (a.toInt - b) % 18446744073709551616 = 0) (h3 : -9223372036854775808 ≤ b) (h4 : b < 9223372036854775808) : a.toInt = b := by
  have r := rng64 a
  omega
theorem own_eq32 {a : Int32} {b : Int} (h : (a.toInt - b) % 4294967296 = 0) (h3 : -2147483648 ≤ b) (h4 : b < 2147483648) : a.toInt = b := by
  have r := rng32 a
  omega
theorem own_abs_val (d : Int32) : (own_absL d.toInt64).toInt = (d.toInt.natAbs : Int) := by
  have r := rng32 d
  have e := c_i2l d
  have z : (0 : Int64).toInt = 0 := rfl
  unfold own_absL
  split
  · rename_i h
    rw [Int64.lt_iff_toInt_lt, e, z] at h
    have := c_lneg d.toInt64
    rw [e] at this
    rw [own_eq64 this (by omega) (by omega)]
    omega
  · rename_i h
    rw [Int64.lt_iff_toInt_lt, e, z] at h
    rw [e]
    omega
theorem own_d_ne {d : Int32} (hd : ¬ d = (0 : Int32)) : d.toInt ≠ 0 := fun z => hd (Int32.toInt_inj.mp z)
theorem own_abs_nz {d : Int32} (hd : ¬ d = (0 : Int32)) : own_absL d.toInt64 ≠ 0 := fun z => by
  have e := own_abs_val d
  rw [z] at e
  have := own_d_ne hd
  have z0 : (0 : Int64).toInt = 0 := rfl
  omega
abbrev own_k (p2 : Int32) : Int32 := (p2 >>> ((15 : Int32) &&& 31))
abbrev own_r (p3 d : Int32) : Int64 := (((p3.toInt64) &&& (2147483647 : Int64)) - ((p3.toInt64) &&& (2147483647 : Int64)) / (own_absL (d.toInt64)) * (own_absL (d.toInt64)))
abbrev own_t (p2 p3 d : Int32) : Int64 := ((((p2 >>> ((15 : Int32) &&& 31)).toInt64) * (d.toInt64)) + (((p3.toInt64) &&& (2147483647 : Int64)) - ((p3.toInt64) &&& (2147483647 : Int64)) / (own_absL (d.toInt64)) * (own_absL (d.toInt64))))
theorem own_k_rng (p2 : Int32) : -65536 ≤ (own_k p2).toInt ∧ (own_k p2).toInt ≤ 65535 := by
  have e2 := c_ishr p2 15 15 (by decide)
  have r := rng32 p2
  constructor
  · show _ ≤ (p2 >>> ((15 : Int32) &&& 31)).toInt; rw [e2]; omega
  · show (p2 >>> ((15 : Int32) &&& 31)).toInt ≤ _; rw [e2]; omega
theorem own_r_rng (p3 : Int32) {d : Int32} (hd : ¬ d = (0 : Int32)) : 0 ≤ (own_r p3 d).toInt ∧ (own_r p3 d).toInt < d.toInt.natAbs := by
  have e1 := c_i2l p3
  have e := c_maskL p3.toInt64 (2147483647 : Int64) 31 (by decide) (by decide)
  rw [e1] at e
  have h0 := own_d_ne hd
  have q := (c_lrem (p3.toInt64 &&& (2147483647 : Int64)) (own_absL d.toInt64) _ (own_abs_val d)).1 (by rw [e]; omega)
  have q' : (own_r p3 d).toInt = (p3.toInt64 &&& (2147483647 : Int64)).toInt % (d.toInt.natAbs : Int) := q
  rw [q']
  exact ⟨Int.emod_nonneg _ (by omega), Int.emod_lt_of_pos _ (by omega)⟩
theorem own_kd (p2 d : Int32) : -(65536 * 2147483648) ≤ (own_k p2).toInt * d.toInt ∧ (own_k p2).toInt * d.toInt ≤ 65536 * 2147483648 := by
  obtain ⟨k1, k2⟩ := own_k_rng p2
  have r := rng32 d
  have h : ((own_k p2).toInt * d.toInt).natAbs ≤ 65536 * 2147483648 := by
    rw [Int.natAbs_mul]
    exact Nat.mul_le_mul (by omega) (by omega)
  omega
theorem own_t_val (p2 p3 : Int32) {d : Int32} (hd : ¬ d = (0 : Int32)) : (own_t p2 p3 d).toInt = (own_k p2).toInt * d.toInt + (own_r p3 d).toInt := by
  have b := own_kd p2 d
  obtain ⟨r1, r2⟩ := own_r_rng p3 hd
  have rd := rng32 d
  have e1 : ((own_k p2).toInt64 * d.toInt64).toInt = (own_k p2).toInt * d.toInt := own_eq64 (by
    have := c_lmul (own_k p2).toInt64 d.toInt64
    rw [c_i2l, c_i2l] at this
    exact this) (by omega) (by omega)
  exact own_eq64 (by have := c_ladd ((own_k p2).toInt64 * d.toInt64) (own_r p3 d); rw [e1] at this; exact this) (by omega) (by omega)
open Jvm.FP.Core in
theorem own_zt (p2 p3 : Int32) {d : Int32} (hd : ¬ d = (0 : Int32)) : zval b64 (val64 (FP.l2d (own_t p2 p3 d))) = ((own_k p2).toInt * d.toInt + (own_r p3 d).toInt) * (one64 : Int) := by
  have b := own_kd p2 d
  obtain ⟨r1, r2⟩ := own_r_rng p3 hd
  have rd := rng32 d
  have e := own_t_val p2 p3 hd
  rw [← e]
  exact own_l2d _ _ 0 (by omega) (show (own_t p2 p3 d).toInt.natAbs < 2 ^ 53 by omega) (by simp)
open Jvm.FP.Core in
theorem own_zd_ne {d : Int32} (hd : ¬ d = (0 : Int32)) : zval b64 (val64 (FP.i2d d)) ≠ 0 := by
  rw [own_i2d]
  have := one64_pos
  exact Int.mul_ne_zero (own_d_ne hd) (by omega)
open Jvm.FP.Core in
theorem own_nnr (p2 p3 : Int32) {d : Int32} (hd : ¬ d = (0 : Int32)) : Jvm.Free.Fl.NoNaN64 (FP.ddiv (FP.l2d (own_t p2 p3 d)) (FP.i2d d)) := own_nn.mpr (own_div_nn (l2d_fin _) (i2d_fin _) (own_zd_ne hd))
open Jvm.FP.Core in
theorem own_zz : cmpValue (FP.dcmp FP.dconst0 FP.dconst0) .l = (0 : Int32) := by decide +kernel
open Jvm.FP.Core in
theorem own_one31 : (one64 : Int) = 2147483648 * ((2 ^ 1043 : Nat) : Int) := by rw [own_one64 31 (by decide), Int.natCast_mul]; rfl
open Jvm.FP.Core in
theorem own_up {N T D : Int} (h : N * D ≤ T * 2147483648) : N * ((2 ^ 1043 : Nat) : Int) * (D * (one64 : Int)) ≤ T * (one64 : Int) * (one64 : Int) := own_sc_ge own_one31 (Int.natCast_nonneg _) (Int.natCast_nonneg _) h
open Jvm.FP.Core in
theorem own_dn {N T D : Int} (h : T * 2147483648 ≤ N * D) : T * (one64 : Int) * (one64 : Int) ≤ N * ((2 ^ 1043 : Nat) : Int) * (D * (one64 : Int)) := own_sc_le own_one31 (Int.natCast_nonneg _) (Int.natCast_nonneg _) h
open Jvm.FP.Core in
theorem own_V (N : Int) (h : N.natAbs < 2 ^ 53) : ∃ V : UInt64, val64 V ≠ .nan ∧ zval b64 (val64 V) = N * ((2 ^ 1043 : Nat) : Int) := by
  obtain ⟨V, v1, -, v3⟩ := own_repr N (-31) h (by omega) (by omega)
  exact ⟨V, v1, v3⟩
open Jvm.FP.Core in
theorem own_lt31 {a b : Int} (h : a < b) : a * ((2 ^ 1043 : Nat) : Int) < b * ((2 ^ 1043 : Nat) : Int) := Int.mul_lt_mul_of_pos_right h (by have : 0 < 2 ^ 1043 := Nat.two_pow_pos _; omega)
open Jvm.FP.Core in
theorem own_zk (k : Int32) : zval b64 (val64 (FP.i2d k)) = (k.toInt * 2147483648) * ((2 ^ 1043 : Nat) : Int) ∧ val64 (FP.i2d k) ≠ .nan := by
  refine ⟨?_, (i2d_fin k).ne_nan⟩
  rw [own_i2d, own_one31, Int.mul_assoc]
open Jvm.FP.Core in
theorem own_r0 (p2 p3 : Int32) {d : Int32} (hd : ¬ d = (0 : Int32)) (hr : lcmpW (own_r p3 d) (0 : Int64) = (0 : Int32)) : cmpValue (FP.dcmp (FP.ddiv (FP.l2d (own_t p2 p3 d)) (FP.i2d d)) (FP.i2d (own_k p2))) .l = (0 : Int32) := by
  have h : own_r p3 d = 0 := (lw_eq _ _).mp hr
  refine own_cmp_eq (own_nn.mp (own_nnr p2 p3 hd)) (i2d_fin _).ne_nan ?_ .l
  refine own_div_eq (l2d_fin _) (i2d_fin _) (i2d_fin _).ne_nan (own_zd_ne hd) ?_
  rw [own_zt p2 p3 hd, own_i2d, own_i2d, show (own_r p3 d).toInt = 0 by rw [h]; rfl, Int.add_zero]
  exact own_sc_eq
theorem own_r_pos (p3 : Int32) {d : Int32} (hd : ¬ d = (0 : Int32)) (hr : ¬ lcmpW (own_r p3 d) (0 : Int64) = (0 : Int32)) : 1 ≤ (own_r p3 d).toInt := by
  have q := (own_r_rng p3 hd).1
  have h : (own_r p3 d).toInt ≠ 0 := fun z => hr ((lw_eq _ _).mpr (Int64.toInt_inj.mp z))
  omega
open Jvm.FP.Core in
theorem own_a1 (p2 p3 : Int32) {d : Int32} (hd : ¬ d = (0 : Int32)) (hr : ¬ lcmpW (own_r p3 d) (0 : Int64) = (0 : Int32)) (hp : (0 : Int32) < d) : cmpValue (FP.dcmp (FP.i2d (own_k p2)) (FP.ddiv (FP.l2d (own_t p2 p3 d)) (FP.i2d d))) .g < (0 : Int32) := by
  have hD : 0 < d.toInt := Int32.lt_iff_toInt_lt.mp hp
  have hr1 := own_r_pos p3 hd hr
  obtain ⟨k1, k2⟩ := own_k_rng p2
  have rd := rng32 d
  obtain ⟨V, v1, v3⟩ := own_V ((own_k p2).toInt * 2147483648 + 1) (by omega)
  have q := own_div_ge (V := V) (l2d_fin (own_t p2 p3 d)) (i2d_fin d) v1 (by rw [own_i2d]; have := one64_pos; exact Int.mul_pos hD (by omega)) (by
    rw [v3, own_i2d, own_zt p2 p3 hd]
    refine own_up ?_
    have e1 : ((own_k p2).toInt * 2147483648 + 1) * d.toInt = (own_k p2).toInt * d.toInt * 2147483648 + d.toInt := by
      rw [Int.add_mul, Int.one_mul, Int.mul_assoc, Int.mul_comm 2147483648, ← Int.mul_assoc]
    rw [e1, Int.add_mul]
    generalize (own_k p2).toInt * d.toInt = kd
    omega)
  have l : zval b64 (val64 (FP.i2d (own_k p2))) < zval b64 (val64 V) := by rw [v3, (own_zk _).1]; exact own_lt31 (by omega)
  rw [own_cmp_lt (own_zk _).2 (own_nn.mp (own_nnr p2 p3 hd)) (Int.lt_of_lt_of_le l q)]
  decide
open Jvm.FP.Core in
theorem own_a2 (p2 p3 : Int32) {d : Int32} (hd : ¬ d = (0 : Int32)) (hr : ¬ lcmpW (own_r p3 d) (0 : Int64) = (0 : Int32)) (hp : (0 : Int32) < d) : cmpValue (FP.dcmp (FP.ddiv (FP.l2d (own_t p2 p3 d)) (FP.i2d d)) (FP.i2d (own_k p2 + (1 : Int32)))) .g < (0 : Int32) := by
  have hD : 0 < d.toInt := Int32.lt_iff_toInt_lt.mp hp
  obtain ⟨r1, r2⟩ := own_r_rng p3 hd
  obtain ⟨k1, k2⟩ := own_k_rng p2
  have rd := rng32 d
  have ek : (own_k p2 + (1 : Int32)).toInt = (own_k p2).toInt + 1 := own_eq32 (c_iadd (own_k p2) (1 : Int32)) (by omega) (by omega)
  obtain ⟨V, v1, v3⟩ := own_V (((own_k p2).toInt + 1) * 2147483648 - 1) (by omega)
  have q := own_div_le (V := V) (l2d_fin (own_t p2 p3 d)) (i2d_fin d) v1 (by rw [own_i2d]; have := one64_pos; exact Int.mul_pos hD (by omega)) (by
    rw [v3, own_i2d, own_zt p2 p3 hd]
    refine own_dn ?_
    have e1 : (((own_k p2).toInt + 1) * 2147483648 - 1) * d.toInt = (own_k p2).toInt * d.toInt * 2147483648 + d.toInt * 2147483648 - d.toInt := by
      rw [Int.sub_mul, Int.one_mul, Int.mul_assoc, Int.mul_comm 2147483648, ← Int.mul_assoc, Int.add_mul, Int.one_mul, Int.add_mul]
    rw [e1, Int.add_mul]
    generalize (own_k p2).toInt * d.toInt = kd
    omega)
  have l : zval b64 (val64 V) < zval b64 (val64 (FP.i2d (own_k p2 + (1 : Int32)))) := by rw [v3, (own_zk _).1, ek]; exact own_lt31 (by omega)
  rw [own_cmp_lt (own_nn.mp (own_nnr p2 p3 hd)) (own_zk _).2 (Int.lt_of_le_of_lt q l)]
  decide
theorem own_neg {d : Int32} (hd : ¬ d = (0 : Int32)) (hp : ¬ (0 : Int32) < d) : d.toInt < 0 := by
  have h1 : ¬ 0 < d.toInt := fun z => hp (Int32.lt_iff_toInt_lt.mpr z)
  have := own_d_ne hd
  omega
open Jvm.FP.Core in
theorem own_zneg {d : Int32} (h : d.toInt < 0) : zval b64 (val64 (FP.i2d d)) < 0 := by
  rw [own_i2d]
  have := one64_pos
  exact Int.mul_neg_of_neg_of_pos h (by omega)
open Jvm.FP.Core in
theorem own_b1 (p2 p3 : Int32) {d : Int32} (hd : ¬ d = (0 : Int32)) (hr : ¬ lcmpW (own_r p3 d) (0 : Int64) = (0 : Int32)) (hp : ¬ (0 : Int32) < d) : cmpValue (FP.dcmp (FP.i2d (own_k p2 - (1 : Int32))) (FP.ddiv (FP.l2d (own_t p2 p3 d)) (FP.i2d d))) .g < (0 : Int32) := by
  have hD := own_neg hd hp
  obtain ⟨r1, r2⟩ := own_r_rng p3 hd
  obtain ⟨k1, k2⟩ := own_k_rng p2
  have rd := rng32 d
  have ek : (own_k p2 - (1 : Int32)).toInt = (own_k p2).toInt - 1 := own_eq32 (c_isub (own_k p2) (1 : Int32)) (by omega) (by omega)
  obtain ⟨V, v1, v3⟩ := own_V (((own_k p2).toInt - 1) * 2147483648 + 1) (by omega)
  have q := own_divn_ge (V := V) (l2d_fin (own_t p2 p3 d)) (i2d_fin d) v1 (own_zneg hD) (by
    rw [v3, own_i2d, own_zt p2 p3 hd]
    refine own_dn ?_
    have e1 : (((own_k p2).toInt - 1) * 2147483648 + 1) * d.toInt = (own_k p2).toInt * d.toInt * 2147483648 - d.toInt * 2147483648 + d.toInt := by
      rw [Int.add_mul, Int.one_mul, Int.mul_assoc, Int.mul_comm 2147483648, ← Int.mul_assoc, Int.sub_mul, Int.one_mul, Int.sub_mul]
    rw [e1, Int.add_mul]
    generalize (own_k p2).toInt * d.toInt = kd
    omega)
  have l : zval b64 (val64 (FP.i2d (own_k p2 - (1 : Int32)))) < zval b64 (val64 V) := by rw [v3, (own_zk _).1, ek]; exact own_lt31 (by omega)
  rw [own_cmp_lt (own_zk _).2 (own_nn.mp (own_nnr p2 p3 hd)) (Int.lt_of_lt_of_le l q)]
  decide
open Jvm.FP.Core in
theorem own_b2 (p2 p3 : Int32) {d : Int32} (hd : ¬ d = (0 : Int32)) (hr : ¬ lcmpW (own_r p3 d) (0 : Int64) = (0 : Int32)) (hp : ¬ (0 : Int32) < d) : cmpValue (FP.dcmp (FP.ddiv (FP.l2d (own_t p2 p3 d)) (FP.i2d d)) (FP.i2d (own_k p2))) .g < (0 : Int32) := by
  have hD := own_neg hd hp
  have hr1 := own_r_pos p3 hd hr
  obtain ⟨k1, k2⟩ := own_k_rng p2
  have rd := rng32 d
  obtain ⟨V, v1, v3⟩ := own_V ((own_k p2).toInt * 2147483648 - 1) (by omega)
  have q := own_divn_le (V := V) (l2d_fin (own_t p2 p3 d)) (i2d_fin d) v1 (own_zneg hD) (by
    rw [v3, own_i2d, own_zt p2 p3 hd]
    refine own_up ?_
    have e1 : ((own_k p2).toInt * 2147483648 - 1) * d.toInt = (own_k p2).toInt * d.toInt * 2147483648 - d.toInt := by
      rw [Int.sub_mul, Int.one_mul, Int.mul_assoc, Int.mul_comm 2147483648, ← Int.mul_assoc]
    rw [e1, Int.add_mul]
    generalize (own_k p2).toInt * d.toInt = kd
    omega)
  have l : zval b64 (val64 V) < zval b64 (val64 (FP.i2d (own_k p2))) := by rw [v3, (own_zk _).1]; exact own_lt31 (by omega)
  rw [own_cmp_lt (own_nn.mp (own_nnr p2 p3 hd)) (own_zk _).2 (Int.lt_of_le_of_lt q l)]
  decide
theorem own_d_jdk_30_1_0 : decode jdk_30_method_1_code 0 = .ok (.aload_n 0, 1) := by decide +kernel
theorem own_d_jdk_30_1_1 : decode jdk_30_method_1_code 1 = .ok (.invokespecial 1, 3) := by decide +kernel
theorem own_d_jdk_30_1_4 : decode jdk_30_method_1_code 4 = .ok (.return_, 1) := by decide +kernel
theorem own_pn0 : plainName "java/lang/Record" = true := by first | (simp [plainName, overriddenIn]; done) | decide +kernel
theorem own_ef_recInit (m : MethodId) (a1 : Addr) : entryFrame m #[(.ref a1)] 1 = mkF m 0 #[.val (.ref a1)] [] := by (first | (simp [entryFrame, mkF, argsToLocals, Value.category]; done) | rfl)
def own_Q_recInit (Z : State) (a1 : Addr) (h0 : Heap) (n0 : Nat) (v : Option Value) (h : Heap) (L : List Loc) : Prop := (v = none) ∧ (Fr n0 L) ∧ (h = h0)
set_option maxRecDepth 65536 in
set_option maxHeartbeats 40000000 in
theorem own_rm_recInit (l : Launch) (Z : State) (a0 : Array Value) (hw : ∀ d ∈ tables_1, d.before a0 Z = true) (ws : List Jvm.Cond) (a1 : Addr) (h0 : Heap) (n0 : Nat) (Z0 : n0 ≤ h0.size) :
    MetFree l (⟨"java/lang/Record", "<init>", "()V"⟩ : MethodName) (head1 (Jvm.Cond.code (⟨"java/lang/Record", "<init>", "()V"⟩ : MethodName) jdk_30_method_1_code 1 none :: ws) ({ frames := 1, cells := 0, slots := 0, locals := 12 } : Room)) (fun a U => a = #[(.ref a1)] ∧ Z.Warmed39 U.vm ∧ U.heap = h0) (fun _ _ _ _ _ => True) (fun _ U o U' => ∃ v L, o = .returned v ∧ own_Q_recInit Z a1 h0 n0 v U'.heap L ∧ FrameEnd U o U' L ({ frames := 1, cells := 0, slots := 0, locals := 12 } : Room).cells ({ frames := 1, cells := 0, slots := 0, locals := 12 } : Room).slots) := by
  refine MetFree.of_bodySF (plainFor_of_name own_pn0) hisR ?_
  intro p e s m args below meth cde s₁ Bd hml0 hP hK
  obtain ⟨rfl, hZ, hh⟩ := hP
  have hx := Bd.exec
  have hby := Bd.bytes
  have hml : cde.maxLocals = 1 := hml0
  have hown : s.vm.findClass "java/lang/Record" = some m.cls := findClass_of_methodNamed Bd.named
  have hnm := (name_of_methodNamed Bd.named Bd.method).1
  have X0 : Stand p l e ({ frames := 1, cells := 0, slots := 0, locals := 12 } : Room) s m #[(.ref a1)] below meth cde s₁ [] 0 0 := Stand.of_body Bd
  have e0 : s₁.heap = h0 := by rw [← hh, Bd.state]; rfl
  have N0 := Fr.nil n0
  show own_Fin p e s below (own_Q_recInit Z a1 h0 n0) ({ frames := 1, cells := 0, slots := 0, locals := 12 } : Room).cells ({ frames := 1, cells := 0, slots := 0, locals := 12 } : Room).slots s₁ (entryFrame m #[(.ref a1)] 1)
  rw [own_ef_recInit m a1]
  refine own_via (fun _ k => XS.aloadN X0.here hx rfl (hb hby own_d_jdk_30_1_0) rfl rfl k) ?_
  show own_Fin _ _ _ _ _ _ _ s₁ (mkF m 1 #[.val (.ref a1)] [(.ref a1)])
  obtain ⟨T1, X1, e1, st1⟩ := initO X0 hx hZ hown (hw _ (List.mem_of_getElem? (i := 11) rfl)) (hw _ (List.mem_of_getElem? (i := 12) rfl)) (hw _ (List.mem_of_getElem? (i := 13) rfl)) e0 (g := (mkF m 1 #[.val (.ref a1)] [(.ref a1)])) rfl (by rw [hml]; rfl) rfl (hb hby own_d_jdk_30_1_1) (by decide) (W := 0) (by show 2 * 0 + _ ≤ _; exact Nat.le_of_eq rfl) (by decide)
  refine own_via (fun _ k => st1 _ k) ?_
  show own_Fin _ _ _ _ _ _ _ T1 (mkF m 4 #[.val (.ref a1)] [])
  exact own_ret0 X1 hx Bd.returns Bd.notSynchronized (hb hby own_d_jdk_30_1_4) e1 ⟨rfl, N0, rfl⟩ (by decide) (by decide)
theorem own_d_prog_9_1_0 : decode prog_9_method_1_code 0 = .ok (.aload_n 0, 1) := by decide +kernel
theorem own_d_prog_9_1_1 : decode prog_9_method_1_code 1 = .ok (.invokespecial 1, 3) := by decide +kernel
theorem own_pd0 : parseMethodDescriptor "()V" = some ⟨[], none⟩ := by decide +kernel
theorem own_d_prog_9_1_4 : decode prog_9_method_1_code 4 = .ok (.aload_n 0, 1) := by decide +kernel
theorem own_d_prog_9_1_5 : decode prog_9_method_1_code 5 = .ok (.iload_n 1, 1) := by decide +kernel
theorem own_d_prog_9_1_6 : decode prog_9_method_1_code 6 = .ok (.putfield 7, 3) := by decide +kernel
theorem own_d_prog_9_1_9 : decode prog_9_method_1_code 9 = .ok (.aload_n 0, 1) := by decide +kernel
theorem own_d_prog_9_1_10 : decode prog_9_method_1_code 10 = .ok (.lload_n 2, 1) := by decide +kernel
theorem own_d_prog_9_1_11 : decode prog_9_method_1_code 11 = .ok (.putfield 13, 3) := by decide +kernel
theorem own_d_prog_9_1_14 : decode prog_9_method_1_code 14 = .ok (.aload_n 0, 1) := by decide +kernel
theorem own_d_prog_9_1_15 : decode prog_9_method_1_code 15 = .ok (.iload 4, 2) := by decide +kernel
theorem own_d_prog_9_1_17 : decode prog_9_method_1_code 17 = .ok (.putfield 17, 3) := by decide +kernel
theorem own_d_prog_9_1_20 : decode prog_9_method_1_code 20 = .ok (.return_, 1) := by decide +kernel
theorem own_pn1 : plainName "com/example/unhurried_retrieval/unhurriedretrieval/index/CollectionStatistics" = true := by first | (simp [plainName, overriddenIn]; done) | decide +kernel
theorem own_ef_csInit (m : MethodId) (a1 : Addr) (p2 : Int32) (q3 : Int64) (p4 : Int32) : entryFrame m #[(.ref a1), (.int p2), (.long q3), (.int p4)] 5 = mkF m 0 #[.val (.ref a1), .val (.int p2), .val (.long q3), .second, .val (.int p4)] [] := by (first | (simp [entryFrame, mkF, argsToLocals, Value.category]; done) | rfl)
def own_Q_csInit (Z : State) (a1 : Addr) (p2 : Int32) (q3 : Int64) (p4 : Int32) (u1 : Value) (u2 : Value) (u3 : Value) (h0 : Heap) (n0 : Nat) (v : Option Value) (h : Heap) (L : List Loc) : Prop := (v = none) ∧ (Fr n0 L) ∧ (Keep h0 h [a1]) ∧ (Exa Z h a1 "com/example/unhurried_retrieval/unhurriedretrieval/index/CollectionStatistics") ∧ (Fld Z h a1 "com/example/unhurried_retrieval/unhurriedretrieval/index/CollectionStatistics" "documentCount" "I" (.int p2)) ∧ (Fld Z h a1 "com/example/unhurried_retrieval/unhurriedretrieval/index/CollectionStatistics" "tokenCount" "J" (.long q3))
set_option maxRecDepth 65536 in
set_option maxHeartbeats 40000000 in
theorem own_rm_csInit (l : Launch) (Z : State) (a0 : Array Value) (hw : ∀ d ∈ tables_1, d.before a0 Z = true) (ws : List Jvm.Cond) (a1 : Addr) (p2 : Int32) (q3 : Int64) (p4 : Int32) (u1 : Value) (u2 : Value) (u3 : Value) (h0 : Heap) (n0 : Nat) (Z0 : n0 ≤ h0.size) (E1 : Exa Z h0 a1 "com/example/unhurried_retrieval/unhurriedretrieval/index/CollectionStatistics") (F1 : Fld Z h0 a1 "com/example/unhurried_retrieval/unhurriedretrieval/index/CollectionStatistics" "documentCount" "I" u1) (F2 : Fld Z h0 a1 "com/example/unhurried_retrieval/unhurriedretrieval/index/CollectionStatistics" "tokenCount" "J" u2) (F3 : Fld Z h0 a1 "com/example/unhurried_retrieval/unhurriedretrieval/index/CollectionStatistics" "termCount" "I" u3) (g1 : n0 ≤ a1) :
    MetFree l (⟨"com/example/unhurried_retrieval/unhurriedretrieval/index/CollectionStatistics", "<init>", "(IJI)V"⟩ : MethodName) (head1 (Jvm.Cond.code (⟨"com/example/unhurried_retrieval/unhurriedretrieval/index/CollectionStatistics", "<init>", "(IJI)V"⟩ : MethodName) prog_9_method_1_code 5 none :: ws) ({ frames := 2, cells := 0, slots := 0, locals := 24 } : Room)) (fun a U => a = #[(.ref a1), (.int p2), (.long q3), (.int p4)] ∧ Z.Warmed39 U.vm ∧ U.heap = h0) (fun _ _ _ _ _ => True) (fun _ U o U' => ∃ v L, o = .returned v ∧ own_Q_csInit Z a1 p2 q3 p4 u1 u2 u3 h0 n0 v U'.heap L ∧ FrameEnd U o U' L ({ frames := 2, cells := 0, slots := 0, locals := 24 } : Room).cells ({ frames := 2, cells := 0, slots := 0, locals := 24 } : Room).slots) := by
  refine MetFree.of_bodySF (plainFor_of_name own_pn1) hisR ?_
  intro p e s m args below meth cde s₁ Bd hml0 hP hK
  obtain ⟨rfl, hZ, hh⟩ := hP
  have hx := Bd.exec
  have hby := Bd.bytes
  have hml : cde.maxLocals = 5 := hml0
  have hown : s.vm.findClass "com/example/unhurried_retrieval/unhurriedretrieval/index/CollectionStatistics" = some m.cls := findClass_of_methodNamed Bd.named
  have hnm := (name_of_methodNamed Bd.named Bd.method).1
  have X0 : Stand p l e ({ frames := 2, cells := 0, slots := 0, locals := 24 } : Room) s m #[(.ref a1), (.int p2), (.long q3), (.int p4)] below meth cde s₁ [] 0 0 := Stand.of_body Bd
  have e0 : s₁.heap = h0 := by rw [← hh, Bd.state]; rfl
  have N0 := Fr.nil n0
  show own_Fin p e s below (own_Q_csInit Z a1 p2 q3 p4 u1 u2 u3 h0 n0) ({ frames := 2, cells := 0, slots := 0, locals := 24 } : Room).cells ({ frames := 2, cells := 0, slots := 0, locals := 24 } : Room).slots s₁ (entryFrame m #[(.ref a1), (.int p2), (.long q3), (.int p4)] 5)
  rw [own_ef_csInit m a1 p2 q3 p4]
  refine own_via (fun _ k => XS.aloadN X0.here hx rfl (hb hby own_d_prog_9_1_0) rfl rfl k) ?_
  show own_Fin _ _ _ _ _ _ _ s₁ (mkF m 1 #[.val (.ref a1), .val (.int p2), .val (.long q3), .second, .val (.int p4)] [(.ref a1)])
  obtain ⟨_, _, ⟨T1, L1, k1, n1⟩, -, X1, ⟨Lc1, hQ1, l1, y1, z1⟩, st1⟩ := X0.specialBack hx (y := (⟨"java/lang/Record", "<init>", "()V"⟩ : MethodName)) rfl hown (mvT hZ (hw _ (List.mem_of_getElem? (i := 6) rfl))) (mvT hZ (hw _ (List.mem_of_getElem? (i := 7) rfl))) (mvT hZ (hw _ (List.mem_of_getElem? (i := 10) rfl))) (by decide) (backOf (W := 0) (own_rm_recInit l Z a0 hw [] a1 h0 n0 Z0 ) hZ (hw _ (List.mem_of_getElem? (i := 10) rfl)) (hw _ (List.mem_of_getElem? (i := 9) rfl)) (by decide) (by decide)) (g := (mkF m 1 #[.val (.ref a1), .val (.int p2), .val (.long q3), .second, .val (.int p4)] [(.ref a1)])) rfl (by rw [hml]; rfl) (Steps.refl _) (a := a1) (argsL := []) (rest := []) (lenOf own_pd0 rfl) rfl (by show 2 * 0 + _ ≤ _; exact Nat.le_of_eq rfl) (hb hby own_d_prog_9_1_1) (fun _ _ => ⟨rfl, e0, (by decide : 0 + 0 ≤ _), (by decide : 0 + 0 ≤ _)⟩)
  dsimp only [Pt.U, Pt.locs, Pt.cells, Pt.slots] at X1 l1 y1 z1 st1 hQ1
  subst l1 y1 z1
  obtain ⟨rfl, Nq1, hh1⟩ := hQ1
  have N1 := Fr.app N0 Nq1
  refine own_via (fun _ k => st1.trans k) ?_
  show own_Fin _ _ _ _ _ _ _ T1 (mkF m 4 #[.val (.ref a1), .val (.int p2), .val (.long q3), .second, .val (.int p4)] [])
  refine own_via (fun _ k => XS.aloadN X1.here hx rfl (hb hby own_d_prog_9_1_4) rfl rfl k) ?_
  show own_Fin _ _ _ _ _ _ _ T1 (mkF m 5 #[.val (.ref a1), .val (.int p2), .val (.long q3), .second, .val (.int p4)] [(.ref a1)])
  refine own_via (fun _ k => XS.iloadN X1.here hx rfl (hb hby own_d_prog_9_1_5) rfl k) ?_
  show own_Fin _ _ _ _ _ _ _ T1 (mkF m 6 #[.val (.ref a1), .val (.int p2), .val (.long q3), .second, .val (.int p4)] [(.int p2), (.ref a1)])
  obtain ⟨T2, h2, X2, e2, W2, st2⟩ := putF X1 hx hZ hown (host := "") (Or.inl (hw _ (List.mem_of_getElem? (i := 14) rfl))) Via.refl hh1 F1 E1 (Or.inr ⟨(hw _ (List.mem_of_getElem? (i := 15) rfl)), rfl, hnm⟩) (hw _ (List.mem_of_getElem? (i := 1) rfl)) (ty := .int) (by decide) rfl rfl (g := (mkF m 6 #[.val (.ref a1), .val (.int p2), .val (.long q3), .second, .val (.int p4)] [(.int p2), (.ref a1)])) rfl rfl (hb hby own_d_prog_9_1_6)
  have Fw2 := F1.same W2
  have N2 := Fr.snoc X2 N1 g1
  refine own_via (fun _ k => st2 _ k) ?_
  show own_Fin _ _ _ _ _ _ _ T2 (mkF m 9 #[.val (.ref a1), .val (.int p2), .val (.long q3), .second, .val (.int p4)] [])
  refine own_via (fun _ k => XS.aloadN X2.here hx rfl (hb hby own_d_prog_9_1_9) rfl rfl k) ?_
  show own_Fin _ _ _ _ _ _ _ T2 (mkF m 10 #[.val (.ref a1), .val (.int p2), .val (.long q3), .second, .val (.int p4)] [(.ref a1)])
  refine own_via (fun _ k => XS.lloadN X2.here hx rfl (hb hby own_d_prog_9_1_10) rfl k) ?_
  show own_Fin _ _ _ _ _ _ _ T2 (mkF m 11 #[.val (.ref a1), .val (.int p2), .val (.long q3), .second, .val (.int p4)] [(.long q3), (.ref a1)])
  have f4 := (F2.other W2 (Or.inr (slot_ne (Or.inr (hw _ (List.mem_of_getElem? (i := 17) rfl))) (Or.inr (hw _ (List.mem_of_getElem? (i := 15) rfl))) (by decide) (t := .long) (t' := .int) (by decide) (by decide))))
  obtain ⟨T3, h3, X3, e3, W3, st3⟩ := putF X2 hx hZ hown (host := "") (Or.inl (hw _ (List.mem_of_getElem? (i := 16) rfl))) Via.refl e2 f4 (E1.wr W2) (Or.inr ⟨(hw _ (List.mem_of_getElem? (i := 17) rfl)), rfl, hnm⟩) (hw _ (List.mem_of_getElem? (i := 1) rfl)) (ty := .long) (by decide) rfl rfl (g := (mkF m 11 #[.val (.ref a1), .val (.int p2), .val (.long q3), .second, .val (.int p4)] [(.long q3), (.ref a1)])) rfl rfl (hb hby own_d_prog_9_1_11)
  have Fw3 := f4.same W3
  have N3 := Fr.snoc X3 N2 g1
  refine own_via (fun _ k => st3 _ k) ?_
  show own_Fin _ _ _ _ _ _ _ T3 (mkF m 14 #[.val (.ref a1), .val (.int p2), .val (.long q3), .second, .val (.int p4)] [])
  refine own_via (fun _ k => XS.aloadN X3.here hx rfl (hb hby own_d_prog_9_1_14) rfl rfl k) ?_
  show own_Fin _ _ _ _ _ _ _ T3 (mkF m 15 #[.val (.ref a1), .val (.int p2), .val (.long q3), .second, .val (.int p4)] [(.ref a1)])
  refine own_via (fun _ k => XS.iload X3.here hx rfl (hb hby own_d_prog_9_1_15) rfl k) ?_
  show own_Fin _ _ _ _ _ _ _ T3 (mkF m 17 #[.val (.ref a1), .val (.int p2), .val (.long q3), .second, .val (.int p4)] [(.int p4), (.ref a1)])
  have f6 := ((F3.other W2 (Or.inr (slot_ne (Or.inr (hw _ (List.mem_of_getElem? (i := 19) rfl))) (Or.inr (hw _ (List.mem_of_getElem? (i := 15) rfl))) (by decide) (t := .int) (t' := .int) (by decide) (by decide)))).other W3 (Or.inr (slot_ne (Or.inr (hw _ (List.mem_of_getElem? (i := 19) rfl))) (Or.inr (hw _ (List.mem_of_getElem? (i := 17) rfl))) (by decide) (t := .int) (t' := .long) (by decide) (by decide))))
  obtain ⟨T5, h5, X5, e5, W5, st5⟩ := putF X3 hx hZ hown (host := "") (Or.inl (hw _ (List.mem_of_getElem? (i := 18) rfl))) Via.refl e3 f6 ((E1.wr W2).wr W3) (Or.inr ⟨(hw _ (List.mem_of_getElem? (i := 19) rfl)), rfl, hnm⟩) (hw _ (List.mem_of_getElem? (i := 1) rfl)) (ty := .int) (by decide) rfl rfl (g := (mkF m 17 #[.val (.ref a1), .val (.int p2), .val (.long q3), .second, .val (.int p4)] [(.int p4), (.ref a1)])) rfl rfl (hb hby own_d_prog_9_1_17)
  have Fw5 := f6.same W5
  have N5 := Fr.snoc X5 N3 g1
  refine own_via (fun _ k => st5 _ k) ?_
  show own_Fin _ _ _ _ _ _ _ T5 (mkF m 20 #[.val (.ref a1), .val (.int p2), .val (.long q3), .second, .val (.int p4)] [])
  have f7 := ((Fw2.other W3 (Or.inr (slot_ne (Or.inr (hw _ (List.mem_of_getElem? (i := 15) rfl))) (Or.inr (hw _ (List.mem_of_getElem? (i := 17) rfl))) (by decide) (t := .int) (t' := .long) (by decide) (by decide)))).other W5 (Or.inr (slot_ne (Or.inr (hw _ (List.mem_of_getElem? (i := 15) rfl))) (Or.inr (hw _ (List.mem_of_getElem? (i := 19) rfl))) (by decide) (t := .int) (t' := .int) (by decide) (by decide))))
  have f8 := (Fw3.other W5 (Or.inr (slot_ne (Or.inr (hw _ (List.mem_of_getElem? (i := 17) rfl))) (Or.inr (hw _ (List.mem_of_getElem? (i := 19) rfl))) (by decide) (t := .long) (t' := .int) (by decide) (by decide))))
  exact own_ret0 X5 hx Bd.returns Bd.notSynchronized (hb hby own_d_prog_9_1_20) e5 ⟨rfl, N5, ((((Keep.refl h0 [a1]).wr W2 (Or.inl (List.mem_of_getElem? (i := 0) rfl))).wr W3 (Or.inl (List.mem_of_getElem? (i := 0) rfl))).wr W5 (Or.inl (List.mem_of_getElem? (i := 0) rfl))), (((E1.wr W2).wr W3).wr W5), f7, f8⟩ (by decide) (by decide)
theorem own_d_prog_9_2_0 : decode prog_9_method_2_code 0 = .ok (.aload_n 0, 1) := by decide +kernel
theorem own_d_prog_9_2_1 : decode prog_9_method_2_code 1 = .ok (.getfield 7, 3) := by decide +kernel
theorem own_d_prog_9_2_4 : decode prog_9_method_2_code 4 = .ok (.ifCond .ne 7, 3) := by decide +kernel
theorem own_d_prog_9_2_7 : decode prog_9_method_2_code 7 = .ok (.dconst 0, 1) := by decide +kernel
theorem own_d_prog_9_2_8 : decode prog_9_method_2_code 8 = .ok (.goto 14, 3) := by decide +kernel
theorem own_d_prog_9_2_22 : decode prog_9_method_2_code 22 = .ok (.dreturn, 1) := by decide +kernel
theorem own_ef_avg0 (m : MethodId) (a1 : Addr) : entryFrame m #[(.ref a1)] 1 = mkF m 0 #[.val (.ref a1)] [] := by (first | (simp [entryFrame, mkF, argsToLocals, Value.category]; done) | rfl)
def own_Q_avg0 (Z : State) (a1 : Addr) (h0 : Heap) (n0 : Nat) (v : Option Value) (h : Heap) (L : List Loc) : Prop := (v = some (.double FP.dconst0)) ∧ (Fr n0 L) ∧ (h = h0)
set_option maxRecDepth 65536 in
set_option maxHeartbeats 40000000 in
theorem own_rm_avg0 (l : Launch) (Z : State) (a0 : Array Value) (hw : ∀ d ∈ tables_1, d.before a0 Z = true) (ws : List Jvm.Cond) (a1 : Addr) (h0 : Heap) (n0 : Nat) (Z0 : n0 ≤ h0.size) (F1 : Fld Z h0 a1 "com/example/unhurried_retrieval/unhurriedretrieval/index/CollectionStatistics" "documentCount" "I" (.int (0 : Int32))) :
    MetFree l (⟨"com/example/unhurried_retrieval/unhurriedretrieval/index/CollectionStatistics", "averageLength", "()D"⟩ : MethodName) (head1 (Jvm.Cond.code (⟨"com/example/unhurried_retrieval/unhurriedretrieval/index/CollectionStatistics", "averageLength", "()D"⟩ : MethodName) prog_9_method_2_code 1 (some .double) :: ws) ({ frames := 0, cells := 0, slots := 0, locals := 0 } : Room)) (fun a U => a = #[(.ref a1)] ∧ Z.Warmed39 U.vm ∧ U.heap = h0) (fun _ _ _ _ _ => True) (fun _ U o U' => ∃ v L, o = .returned v ∧ own_Q_avg0 Z a1 h0 n0 v U'.heap L ∧ FrameEnd U o U' L ({ frames := 0, cells := 0, slots := 0, locals := 0 } : Room).cells ({ frames := 0, cells := 0, slots := 0, locals := 0 } : Room).slots) := by
  refine MetFree.of_bodySF (plainFor_of_name own_pn1) hisR ?_
  intro p e s m args below meth cde s₁ Bd hml0 hP hK
  obtain ⟨rfl, hZ, hh⟩ := hP
  have hx := Bd.exec
  have hby := Bd.bytes
  have hml : cde.maxLocals = 1 := hml0
  have hown : s.vm.findClass "com/example/unhurried_retrieval/unhurriedretrieval/index/CollectionStatistics" = some m.cls := findClass_of_methodNamed Bd.named
  have hnm := (name_of_methodNamed Bd.named Bd.method).1
  have X0 : Stand p l e ({ frames := 0, cells := 0, slots := 0, locals := 0 } : Room) s m #[(.ref a1)] below meth cde s₁ [] 0 0 := Stand.of_body Bd
  have e0 : s₁.heap = h0 := by rw [← hh, Bd.state]; rfl
  have N0 := Fr.nil n0
  show own_Fin p e s below (own_Q_avg0 Z a1 h0 n0) ({ frames := 0, cells := 0, slots := 0, locals := 0 } : Room).cells ({ frames := 0, cells := 0, slots := 0, locals := 0 } : Room).slots s₁ (entryFrame m #[(.ref a1)] 1)
  rw [own_ef_avg0 m a1]
  refine own_via (fun _ k => XS.aloadN X0.here hx rfl (hb hby own_d_prog_9_2_0) rfl rfl k) ?_
  show own_Fin _ _ _ _ _ _ _ s₁ (mkF m 1 #[.val (.ref a1)] [(.ref a1)])
  obtain ⟨T1, X1, e1, st1⟩ := getF X0 hx hZ hown (host := "") (Or.inl (hw _ (List.mem_of_getElem? (i := 14) rfl))) Via.refl e0 F1 (g := (mkF m 1 #[.val (.ref a1)] [(.ref a1)])) rfl rfl (hb hby own_d_prog_9_2_1)
  refine own_via (fun _ k => st1 _ k) ?_
  show own_Fin _ _ _ _ _ _ _ T1 (mkF m 4 #[.val (.ref a1)] [(.int (0 : Int32))])
  refine own_via (fun _ k => XS.ifNo X1.here hx rfl (hb hby own_d_prog_9_2_4) rfl ((if0 _ _).trans (teq rfl).2) k) ?_
  show own_Fin _ _ _ _ _ _ _ T1 (mkF m 7 #[.val (.ref a1)] [])
  refine own_via (fun _ k => XS.dconst0 X1.here hx rfl (hb hby own_d_prog_9_2_7) rfl k) ?_
  show own_Fin _ _ _ _ _ _ _ T1 (mkF m 8 #[.val (.ref a1)] [(.double FP.dconst0)])
  refine own_via (fun _ k => XS.goto X1.here hx rfl (pc0 := 8) (pc' := 22) rfl (hb hby own_d_prog_9_2_8) (by decide) (by decide) k) ?_
  show own_Fin _ _ _ _ _ _ _ T1 (mkF m 22 #[.val (.ref a1)] [(.double FP.dconst0)])
  exact own_retD X1 hx Bd.returns Bd.notSynchronized (hb hby own_d_prog_9_2_22) e1 rfl ⟨rfl, N0, rfl⟩ (by decide) (by decide)
theorem own_d_prog_9_2_11 : decode prog_9_method_2_code 11 = .ok (.aload_n 0, 1) := by decide +kernel
theorem own_d_prog_9_2_12 : decode prog_9_method_2_code 12 = .ok (.getfield 13, 3) := by decide +kernel
theorem own_d_prog_9_2_15 : decode prog_9_method_2_code 15 = .ok (.l2d, 1) := by decide +kernel
theorem own_d_prog_9_2_16 : decode prog_9_method_2_code 16 = .ok (.aload_n 0, 1) := by decide +kernel
theorem own_d_prog_9_2_17 : decode prog_9_method_2_code 17 = .ok (.getfield 7, 3) := by decide +kernel
theorem own_d_prog_9_2_20 : decode prog_9_method_2_code 20 = .ok (.i2d, 1) := by decide +kernel
theorem own_d_prog_9_2_21 : decode prog_9_method_2_code 21 = .ok (.ddiv, 1) := by decide +kernel
theorem own_ef_avg (m : MethodId) (a1 : Addr) : entryFrame m #[(.ref a1)] 1 = mkF m 0 #[.val (.ref a1)] [] := by (first | (simp [entryFrame, mkF, argsToLocals, Value.category]; done) | rfl)
def own_Q_avg (Z : State) (a1 : Addr) (d : Int32) (t : Int64) (h0 : Heap) (n0 : Nat) (v : Option Value) (h : Heap) (L : List Loc) : Prop := (v = some (.double (FP.ddiv (FP.l2d t) (FP.i2d d)))) ∧ (Fr n0 L) ∧ (h = h0)
set_option maxRecDepth 65536 in
set_option maxHeartbeats 40000000 in
theorem own_rm_avg (l : Launch) (Z : State) (a0 : Array Value) (hw : ∀ d ∈ tables_1, d.before a0 Z = true) (ws : List Jvm.Cond) (a1 : Addr) (d : Int32) (t : Int64) (h0 : Heap) (n0 : Nat) (Z0 : n0 ≤ h0.size) (F1 : Fld Z h0 a1 "com/example/unhurried_retrieval/unhurriedretrieval/index/CollectionStatistics" "documentCount" "I" (.int d)) (F2 : Fld Z h0 a1 "com/example/unhurried_retrieval/unhurriedretrieval/index/CollectionStatistics" "tokenCount" "J" (.long t)) (hd : ¬ d = (0 : Int32)) (hn : Jvm.Free.Fl.NoNaN64 (FP.ddiv (FP.l2d t) (FP.i2d d))) :
    MetFree l (⟨"com/example/unhurried_retrieval/unhurriedretrieval/index/CollectionStatistics", "averageLength", "()D"⟩ : MethodName) (head1 (Jvm.Cond.code (⟨"com/example/unhurried_retrieval/unhurriedretrieval/index/CollectionStatistics", "averageLength", "()D"⟩ : MethodName) prog_9_method_2_code 1 (some .double) :: ws) ({ frames := 0, cells := 0, slots := 0, locals := 0 } : Room)) (fun a U => a = #[(.ref a1)] ∧ Z.Warmed39 U.vm ∧ U.heap = h0) (fun _ _ _ _ _ => True) (fun _ U o U' => ∃ v L, o = .returned v ∧ own_Q_avg Z a1 d t h0 n0 v U'.heap L ∧ FrameEnd U o U' L ({ frames := 0, cells := 0, slots := 0, locals := 0 } : Room).cells ({ frames := 0, cells := 0, slots := 0, locals := 0 } : Room).slots) := by
  refine MetFree.of_bodySF (plainFor_of_name own_pn1) hisR ?_
  intro p e s m args below meth cde s₁ Bd hml0 hP hK
  obtain ⟨rfl, hZ, hh⟩ := hP
  have hx := Bd.exec
  have hby := Bd.bytes
  have hml : cde.maxLocals = 1 := hml0
  have hown : s.vm.findClass "com/example/unhurried_retrieval/unhurriedretrieval/index/CollectionStatistics" = some m.cls := findClass_of_methodNamed Bd.named
  have hnm := (name_of_methodNamed Bd.named Bd.method).1
  have X0 : Stand p l e ({ frames := 0, cells := 0, slots := 0, locals := 0 } : Room) s m #[(.ref a1)] below meth cde s₁ [] 0 0 := Stand.of_body Bd
  have e0 : s₁.heap = h0 := by rw [← hh, Bd.state]; rfl
  have N0 := Fr.nil n0
  show own_Fin p e s below (own_Q_avg Z a1 d t h0 n0) ({ frames := 0, cells := 0, slots := 0, locals := 0 } : Room).cells ({ frames := 0, cells := 0, slots := 0, locals := 0 } : Room).slots s₁ (entryFrame m #[(.ref a1)] 1)
  rw [own_ef_avg m a1]
  refine own_via (fun _ k => XS.aloadN X0.here hx rfl (hb hby own_d_prog_9_2_0) rfl rfl k) ?_
  show own_Fin _ _ _ _ _ _ _ s₁ (mkF m 1 #[.val (.ref a1)] [(.ref a1)])
  obtain ⟨T1, X1, e1, st1⟩ := getF X0 hx hZ hown (host := "") (Or.inl (hw _ (List.mem_of_getElem? (i := 14) rfl))) Via.refl e0 F1 (g := (mkF m 1 #[.val (.ref a1)] [(.ref a1)])) rfl rfl (hb hby own_d_prog_9_2_1)
  refine own_via (fun _ k => st1 _ k) ?_
  show own_Fin _ _ _ _ _ _ _ T1 (mkF m 4 #[.val (.ref a1)] [(.int d)])
  refine own_via (fun _ k => XS.ifYes X1.here hx rfl (pc0 := 4) (pc' := 11) rfl (hb hby own_d_prog_9_2_4) rfl ((if0 _ _).trans (feq hd).2) (by decide) (by decide) k) ?_
  show own_Fin _ _ _ _ _ _ _ T1 (mkF m 11 #[.val (.ref a1)] [])
  refine own_via (fun _ k => XS.aloadN X1.here hx rfl (hb hby own_d_prog_9_2_11) rfl rfl k) ?_
  show own_Fin _ _ _ _ _ _ _ T1 (mkF m 12 #[.val (.ref a1)] [(.ref a1)])
  obtain ⟨T2, X2, e2, st2⟩ := getF X1 hx hZ hown (host := "") (Or.inl (hw _ (List.mem_of_getElem? (i := 16) rfl))) Via.refl e1 F2 (g := (mkF m 12 #[.val (.ref a1)] [(.ref a1)])) rfl rfl (hb hby own_d_prog_9_2_12)
  refine own_via (fun _ k => st2 _ k) ?_
  show own_Fin _ _ _ _ _ _ _ T2 (mkF m 15 #[.val (.ref a1)] [(.long t)])
  refine own_via (fun _ k => XS.l2dS X2.here hx rfl (hb hby own_d_prog_9_2_15) rfl rfl k) ?_
  show own_Fin _ _ _ _ _ _ _ T2 (mkF m 16 #[.val (.ref a1)] [(.double (FP.l2d t))])
  refine own_via (fun _ k => XS.aloadN X2.here hx rfl (hb hby own_d_prog_9_2_16) rfl rfl k) ?_
  show own_Fin _ _ _ _ _ _ _ T2 (mkF m 17 #[.val (.ref a1)] [(.ref a1), (.double (FP.l2d t))])
  obtain ⟨T3, X3, e3, st3⟩ := getF X2 hx hZ hown (host := "") (Or.inl (hw _ (List.mem_of_getElem? (i := 14) rfl))) Via.refl e2 F1 (g := (mkF m 17 #[.val (.ref a1)] [(.ref a1), (.double (FP.l2d t))])) rfl rfl (hb hby own_d_prog_9_2_17)
  refine own_via (fun _ k => st3 _ k) ?_
  show own_Fin _ _ _ _ _ _ _ T3 (mkF m 20 #[.val (.ref a1)] [(.int d), (.double (FP.l2d t))])
  refine own_via (fun _ k => XS.i2dS X3.here hx rfl (hb hby own_d_prog_9_2_20) rfl rfl k) ?_
  show own_Fin _ _ _ _ _ _ _ T3 (mkF m 21 #[.val (.ref a1)] [(.double (FP.i2d d)), (.double (FP.l2d t))])
  refine own_via (fun _ k => XS.ddivS X3.here hx rfl (hb hby own_d_prog_9_2_21) rfl hn rfl k) ?_
  show own_Fin _ _ _ _ _ _ _ T3 (mkF m 22 #[.val (.ref a1)] [(.double (FP.ddiv (FP.l2d t) (FP.i2d d)))])
  exact own_retD X3 hx Bd.returns Bd.notSynchronized (hb hby own_d_prog_9_2_22) e3 rfl ⟨rfl, N0, rfl⟩ (by decide) (by decide)
theorem own_d_jdk_29_61_0 : decode jdk_29_method_61_code 0 = .ok (.lload_n 0, 1) := by decide +kernel
theorem own_d_jdk_29_61_1 : decode jdk_29_method_61_code 1 = .ok (.lconst 0, 1) := by decide +kernel
theorem own_d_jdk_29_61_2 : decode jdk_29_method_61_code 2 = .ok (.lcmp, 1) := by decide +kernel
theorem own_d_jdk_29_61_3 : decode jdk_29_method_61_code 3 = .ok (.ifCond .ge 8, 3) := by decide +kernel
theorem own_d_jdk_29_61_11 : decode jdk_29_method_61_code 11 = .ok (.lload_n 0, 1) := by decide +kernel
theorem own_d_jdk_29_61_12 : decode jdk_29_method_61_code 12 = .ok (.lreturn, 1) := by decide +kernel
theorem own_d_jdk_29_61_6 : decode jdk_29_method_61_code 6 = .ok (.lload_n 0, 1) := by decide +kernel
theorem own_d_jdk_29_61_7 : decode jdk_29_method_61_code 7 = .ok (.lneg, 1) := by decide +kernel
theorem own_d_jdk_29_61_8 : decode jdk_29_method_61_code 8 = .ok (.goto 4, 3) := by decide +kernel
theorem own_ef_absL (m : MethodId) (x : Int64) : entryFrame m #[(.long x)] 2 = mkF m 0 #[.val (.long x), .second] [] := by (first | (simp [entryFrame, mkF, argsToLocals, Value.category]; done) | rfl)
def own_Q_absL (Z : State) (x : Int64) (h0 : Heap) (n0 : Nat) (v : Option Value) (h : Heap) (L : List Loc) : Prop := (v = some (.long (own_absL x))) ∧ (Fr n0 L) ∧ (h = h0)
set_option maxRecDepth 65536 in
set_option maxHeartbeats 40000000 in
theorem own_rm_absL (l : Launch) (Z : State) (a0 : Array Value) (hw : ∀ d ∈ tables_1, d.before a0 Z = true) (ws : List Jvm.Cond) (x : Int64) (h0 : Heap) (n0 : Nat) (Z0 : n0 ≤ h0.size) :
    MetFree l (⟨"java/lang/Math", "abs", "(J)J"⟩ : MethodName) (head1 (Jvm.Cond.code (⟨"java/lang/Math", "abs", "(J)J"⟩ : MethodName) jdk_29_method_61_code 2 (some .long) :: ws) ({ frames := 0, cells := 0, slots := 0, locals := 0 } : Room)) (fun a U => a = #[(.long x)] ∧ Z.Warmed39 U.vm ∧ U.heap = h0) (fun _ _ _ _ _ => True) (fun _ U o U' => ∃ v L, o = .returned v ∧ own_Q_absL Z x h0 n0 v U'.heap L ∧ FrameEnd U o U' L ({ frames := 0, cells := 0, slots := 0, locals := 0 } : Room).cells ({ frames := 0, cells := 0, slots := 0, locals := 0 } : Room).slots) := by
  refine MetFree.of_bodySF (Jvm.Free.JP.mathPlain rfl (by decide +kernel)) hisR ?_
  intro p e s m args below meth cde s₁ Bd hml0 hP hK
  obtain ⟨rfl, hZ, hh⟩ := hP
  have hx := Bd.exec
  have hby := Bd.bytes
  have hml : cde.maxLocals = 2 := hml0
  have hown : s.vm.findClass "java/lang/Math" = some m.cls := findClass_of_methodNamed Bd.named
  have hnm := (name_of_methodNamed Bd.named Bd.method).1
  have X0 : Stand p l e ({ frames := 0, cells := 0, slots := 0, locals := 0 } : Room) s m #[(.long x)] below meth cde s₁ [] 0 0 := Stand.of_body Bd
  have e0 : s₁.heap = h0 := by rw [← hh, Bd.state]; rfl
  have N0 := Fr.nil n0
  show own_Fin p e s below (own_Q_absL Z x h0 n0) ({ frames := 0, cells := 0, slots := 0, locals := 0 } : Room).cells ({ frames := 0, cells := 0, slots := 0, locals := 0 } : Room).slots s₁ (entryFrame m #[(.long x)] 2)
  rw [own_ef_absL m x]
  refine own_via (fun _ k => XS.lloadN X0.here hx rfl (hb hby own_d_jdk_29_61_0) rfl k) ?_
  show own_Fin _ _ _ _ _ _ _ s₁ (mkF m 1 #[.val (.long x), .second] [(.long x)])
  refine own_via (fun _ k => XS.lconst X0.here hx rfl (hb hby own_d_jdk_29_61_1) k) ?_
  show own_Fin _ _ _ _ _ _ _ s₁ (mkF m 2 #[.val (.long x), .second] [(.long (0 : Int64)), (.long x)])
  refine own_via (fun _ k => XS.lcmp X0.here hx rfl (hb hby own_d_jdk_29_61_2) rfl k) ?_
  show own_Fin _ _ _ _ _ _ _ s₁ (mkF m 3 #[.val (.long x), .second] [(.int (lcmpW x (0 : Int64)))])
  rcases Classical.em ((lcmpW x (0 : Int64)) < (0 : Int32)) with hc | hc
  · refine own_via (fun _ k => XS.ifNo X0.here hx rfl (hb hby own_d_jdk_29_61_3) rfl ((if0 _ _).trans (tlt hc).2.1) k) ?_
    show own_Fin _ _ _ _ _ _ _ s₁ (mkF m 6 #[.val (.long x), .second] [])
    refine own_via (fun _ k => XS.lloadN X0.here hx rfl (hb hby own_d_jdk_29_61_6) rfl k) ?_
    show own_Fin _ _ _ _ _ _ _ s₁ (mkF m 7 #[.val (.long x), .second] [(.long x)])
    refine own_via (fun _ k => XS.lneg X0.here hx rfl (hb hby own_d_jdk_29_61_7) rfl k) ?_
    show own_Fin _ _ _ _ _ _ _ s₁ (mkF m 8 #[.val (.long x), .second] [(.long (-x))])
    refine own_via (fun _ k => XS.goto X0.here hx rfl (pc0 := 8) (pc' := 12) rfl (hb hby own_d_jdk_29_61_8) (by decide) (by decide) k) ?_
    show own_Fin _ _ _ _ _ _ _ s₁ (mkF m 12 #[.val (.long x), .second] [(.long (-x))])
    exact own_retJ X0 hx Bd.returns Bd.notSynchronized (hb hby own_d_jdk_29_61_12) e0 (own_abs_n hc) ⟨rfl, N0, rfl⟩ (by decide) (by decide)
  · refine own_via (fun _ k => XS.ifYes X0.here hx rfl (pc0 := 3) (pc' := 11) rfl (hb hby own_d_jdk_29_61_3) rfl ((if0 _ _).trans (flt hc).2.1) (by decide) (by decide) k) ?_
    show own_Fin _ _ _ _ _ _ _ s₁ (mkF m 11 #[.val (.long x), .second] [])
    refine own_via (fun _ k => XS.lloadN X0.here hx rfl (hb hby own_d_jdk_29_61_11) rfl k) ?_
    show own_Fin _ _ _ _ _ _ _ s₁ (mkF m 12 #[.val (.long x), .second] [(.long x)])
    exact own_retJ X0 hx Bd.returns Bd.notSynchronized (hb hby own_d_jdk_29_61_12) e0 (own_abs_p hc) ⟨rfl, N0, rfl⟩ (by decide) (by decide)
theorem own_pd1 : parseMethodDescriptor "(IJI)V" = some ⟨[.int, .long, .int], none⟩ := by decide +kernel
theorem own_pd2 : parseMethodDescriptor "()D" = some ⟨[], some .double⟩ := by decide +kernel
theorem own_pd3 : parseMethodDescriptor "(J)J" = some ⟨[.long], some .long⟩ := by decide +kernel
theorem own_pn2 : plainName "com/example/unhurried_retrieval/unhurriedretrieval/index/CollectionStatisticsAverageLengthPinLaw" = true := by first | (simp [plainName, overriddenIn]; done) | decide +kernel
theorem own_ef_law (m : MethodId) (p1 : Int32) (p2 : Int32) (p3 : Int32) (q4 : Int64) (p5 : Int32) (p6 : Int32) : entryFrame m #[(.int p1), (.int p2), (.int p3), (.long q4), (.int p5), (.int p6)] maxLocals = mkF m 0 #[.val (.int p1), .val (.int p2), .val (.int p3), .val (.long q4), .second, .val (.int p5), .val (.int p6), .unset, .unset, .unset, .unset, .unset, .unset, .unset, .unset, .unset, .unset, .unset, .unset, .unset] [] := by (first | (simp [entryFrame, mkF, argsToLocals, Value.category, maxLocals]; done) | rfl)
def own_Q_law (Z : State) (p1 : Int32) (p2 : Int32) (p3 : Int32) (q4 : Int64) (p5 : Int32) (p6 : Int32) (h0 : Heap) (n0 : Nat) (v : Option Value) (h : Heap) (L : List Loc) : Prop := (v = some (.int (1 : Int32))) ∧ (Fr n0 L)
set_option maxRecDepth 65536 in
set_option maxHeartbeats 40000000 in
theorem own_rm_law (l : Launch) (Z : State) (a0 : Array Value) (hw : ∀ d ∈ tables_1, d.before a0 Z = true) (ws : List Jvm.Cond) (p1 : Int32) (p2 : Int32) (p3 : Int32) (q4 : Int64) (p5 : Int32) (p6 : Int32) (h0 : Heap) (n0 : Nat) (Z0 : n0 ≤ h0.size) :
    MetFree l x (head1 (Jvm.Cond.code x code maxLocals ret :: ws) room_1) (fun a U => a = #[(.int p1), (.int p2), (.int p3), (.long q4), (.int p5), (.int p6)] ∧ Z.Warmed39 U.vm ∧ U.heap = h0) (fun _ _ _ _ _ => True) (fun _ U o U' => ∃ v L, o = .returned v ∧ own_Q_law Z p1 p2 p3 q4 p5 p6 h0 n0 v U'.heap L ∧ FrameEnd U o U' L room_1.cells room_1.slots) := by
  refine MetFree.of_bodySF (plainFor_of_name own_pn2) hisR ?_
  intro p e s m args below meth cde s₁ Bd hml0 hP hK
  obtain ⟨rfl, hZ, hh⟩ := hP
  have hx := Bd.exec
  have hby := Bd.bytes
  have hml : cde.maxLocals = 20 := hml0
  have hown : s.vm.findClass "com/example/unhurried_retrieval/unhurriedretrieval/index/CollectionStatisticsAverageLengthPinLaw" = some m.cls := findClass_of_methodNamed Bd.named
  have hnm := (name_of_methodNamed Bd.named Bd.method).1
  have X0 : Stand p l e room_1 s m #[(.int p1), (.int p2), (.int p3), (.long q4), (.int p5), (.int p6)] below meth cde s₁ [] 0 0 := Stand.of_body Bd
  have e0 : s₁.heap = h0 := by rw [← hh, Bd.state]; rfl
  have N0 := Fr.nil n0
  show own_Fin p e s below (own_Q_law Z p1 p2 p3 q4 p5 p6 h0 n0) room_1.cells room_1.slots s₁ (entryFrame m #[(.int p1), (.int p2), (.int p3), (.long q4), (.int p5), (.int p6)] maxLocals)
  rw [own_ef_law m p1 p2 p3 q4 p5 p6]
  have seg : ∀ (d : Int32), own_Fin p e s below (own_Q_law Z p1 p2 p3 q4 p5 p6 h0 n0) room_1.cells room_1.slots s₁ (mkF m 14 #[.val (.int p1), .val (.int p2), .val (.int p3), .val (.long q4), .second, .val (.int p5), .val (.int p6), .val (.int d), .unset, .unset, .unset, .unset, .unset, .unset, .unset, .unset, .unset, .unset, .unset, .unset] []) := by
    intro d
    refine own_via (fun _ k => XS.iload X0.here hx rfl (hb hby at_14) rfl k) ?_
    show own_Fin _ _ _ _ _ _ _ s₁ (mkF m 16 #[.val (.int p1), .val (.int p2), .val (.int p3), .val (.long q4), .second, .val (.int p5), .val (.int p6), .val (.int d), .unset, .unset, .unset, .unset, .unset, .unset, .unset, .unset, .unset, .unset, .unset, .unset] [(.int d)])
    rcases Classical.em (d = (0 : Int32)) with hd | hd
    · refine own_via (fun _ k => XS.ifNo X0.here hx rfl (hb hby at_16) rfl ((if0 _ _).trans (teq hd).2) k) ?_
      show own_Fin _ _ _ _ _ _ _ s₁ (mkF m 19 #[.val (.int p1), .val (.int p2), .val (.int p3), .val (.long q4), .second, .val (.int p5), .val (.int p6), .val (.int d), .unset, .unset, .unset, .unset, .unset, .unset, .unset, .unset, .unset, .unset, .unset, .unset] [])
      obtain ⟨T1, h1, X1, e1, E1, A1, D1, -, st1⟩ := newO X0 hx hZ hown (hw _ (List.mem_of_getElem? (i := 0) rfl)) (hw _ (List.mem_of_getElem? (i := 1) rfl)) (hw _ (List.mem_of_getElem? (i := 2) rfl)) e0 (g := (mkF m 19 #[.val (.int p1), .val (.int p2), .val (.int p3), .val (.long q4), .second, .val (.int p5), .val (.int p6), .val (.int d), .unset, .unset, .unset, .unset, .unset, .unset, .unset, .unset, .unset, .unset, .unset, .unset] [])) rfl (hb hby at_19) (by decide) (by decide)
      obtain ⟨b1, g1⟩ : ∃ z, z = h0.size := ⟨_, rfl⟩
      rw [← g1] at A1 D1 st1
      have F2 : Fld Z h1 b1 "com/example/unhurried_retrieval/unhurriedretrieval/index/CollectionStatistics" "documentCount" "I" (.int (0 : Int32)) := D1 (Or.inr (hw _ (List.mem_of_getElem? (i := 15) rfl))) (ty := .int) (by decide)
      have F3 : Fld Z h1 b1 "com/example/unhurried_retrieval/unhurriedretrieval/index/CollectionStatistics" "tokenCount" "J" (.long (0 : Int64)) := D1 (Or.inr (hw _ (List.mem_of_getElem? (i := 17) rfl))) (ty := .long) (by decide)
      have F4 : Fld Z h1 b1 "com/example/unhurried_retrieval/unhurriedretrieval/index/CollectionStatistics" "termCount" "I" (.int (0 : Int32)) := D1 (Or.inr (hw _ (List.mem_of_getElem? (i := 19) rfl))) (ty := .int) (by decide)
      refine own_via (fun _ k => st1 _ k) ?_
      show own_Fin _ _ _ _ _ _ _ T1 (mkF m 22 #[.val (.int p1), .val (.int p2), .val (.int p3), .val (.long q4), .second, .val (.int p5), .val (.int p6), .val (.int d), .unset, .unset, .unset, .unset, .unset, .unset, .unset, .unset, .unset, .unset, .unset, .unset] [(.ref b1)])
      refine own_via (fun _ k => XS.dup X1.here hx rfl (hb hby at_22) rfl rfl k) ?_
      show own_Fin _ _ _ _ _ _ _ T1 (mkF m 23 #[.val (.int p1), .val (.int p2), .val (.int p3), .val (.long q4), .second, .val (.int p5), .val (.int p6), .val (.int d), .unset, .unset, .unset, .unset, .unset, .unset, .unset, .unset, .unset, .unset, .unset, .unset] [(.ref b1), (.ref b1)])
      refine own_via (fun _ k => XS.iconst X1.here hx rfl (hb hby at_23) k) ?_
      show own_Fin _ _ _ _ _ _ _ T1 (mkF m 24 #[.val (.int p1), .val (.int p2), .val (.int p3), .val (.long q4), .second, .val (.int p5), .val (.int p6), .val (.int d), .unset, .unset, .unset, .unset, .unset, .unset, .unset, .unset, .unset, .unset, .unset, .unset] [(.int (0 : Int32)), (.ref b1), (.ref b1)])
      refine own_via (fun _ k => XS.lloadN X1.here hx rfl (hb hby at_24) rfl k) ?_
      show own_Fin _ _ _ _ _ _ _ T1 (mkF m 25 #[.val (.int p1), .val (.int p2), .val (.int p3), .val (.long q4), .second, .val (.int p5), .val (.int p6), .val (.int d), .unset, .unset, .unset, .unset, .unset, .unset, .unset, .unset, .unset, .unset, .unset, .unset] [(.long q4), (.int (0 : Int32)), (.ref b1), (.ref b1)])
      refine own_via (fun _ k => XS.iload X1.here hx rfl (hb hby at_25) rfl k) ?_
      show own_Fin _ _ _ _ _ _ _ T1 (mkF m 27 #[.val (.int p1), .val (.int p2), .val (.int p3), .val (.long q4), .second, .val (.int p5), .val (.int p6), .val (.int d), .unset, .unset, .unset, .unset, .unset, .unset, .unset, .unset, .unset, .unset, .unset, .unset] [(.int p5), (.long q4), (.int (0 : Int32)), (.ref b1), (.ref b1)])
      have g6 : n0 ≤ b1 := Nat.le_trans Z0 (Nat.le_of_eq g1.symm)
      obtain ⟨_, _, ⟨T5, L5, k5, n5⟩, -, X5, ⟨Lc5, hQ5, l5, y5, z5⟩, st5⟩ := X1.specialBack hx (y := (⟨"com/example/unhurried_retrieval/unhurriedretrieval/index/CollectionStatistics", "<init>", "(IJI)V"⟩ : MethodName)) rfl hown (mvT hZ (hw _ (List.mem_of_getElem? (i := 3) rfl))) (mvT hZ (hw _ (List.mem_of_getElem? (i := 4) rfl))) (mvT hZ (hw _ (List.mem_of_getElem? (i := 5) rfl))) (by decide) (backOf (W := 1) (own_rm_csInit l Z a0 hw [] b1 (0 : Int32) q4 p5 (.int (0 : Int32)) (.long (0 : Int64)) (.int (0 : Int32)) h1 n0 (Nat.le_trans Z0 E1.1) A1 F2 F3 F4 g6) hZ (hw _ (List.mem_of_getElem? (i := 5) rfl)) (hw _ (List.mem_of_getElem? (i := 2) rfl)) (by decide) (by decide)) (g := (mkF m 27 #[.val (.int p1), .val (.int p2), .val (.int p3), .val (.long q4), .second, .val (.int p5), .val (.int p6), .val (.int d), .unset, .unset, .unset, .unset, .unset, .unset, .unset, .unset, .unset, .unset, .unset, .unset] [(.int p5), (.long q4), (.int (0 : Int32)), (.ref b1), (.ref b1)])) rfl (by rw [hml]; rfl) (Steps.refl _) (a := b1) (argsL := [(.int (0 : Int32)), (.long q4), (.int p5)]) (rest := [(.ref b1)]) (lenOf own_pd1 rfl) rfl (by show 2 * 0 + _ ≤ _; exact Nat.le_of_eq rfl) (hb hby at_27) (fun _ _ => ⟨rfl, e1, (by decide : 0 + 1 + 0 ≤ _), (by decide : 0 + 3 + 0 ≤ _)⟩)
      dsimp only [Pt.U, Pt.locs, Pt.cells, Pt.slots] at X5 l5 y5 z5 st5 hQ5
      subst l5 y5 z5
      obtain ⟨rfl, Nq5, K5, r7, r8, r9⟩ := hQ5
      have N5 := Fr.app N0 Nq5
      refine own_via (fun _ k => st5.trans k) ?_
      show own_Fin _ _ _ _ _ _ _ T5 (mkF m 30 #[.val (.int p1), .val (.int p2), .val (.int p3), .val (.long q4), .second, .val (.int p5), .val (.int p6), .val (.int d), .unset, .unset, .unset, .unset, .unset, .unset, .unset, .unset, .unset, .unset, .unset, .unset] [(.ref b1)])
      refine own_via (fun _ k => XS.astore X5.here hx rfl (hb hby at_30) rfl rfl (l' := #[.val (.int p1), .val (.int p2), .val (.int p3), .val (.long q4), .second, .val (.int p5), .val (.int p6), .val (.int d), .val (.ref b1), .unset, .unset, .unset, .unset, .unset, .unset, .unset, .unset, .unset, .unset, .unset]) rfl k) ?_
      show own_Fin _ _ _ _ _ _ _ T5 (mkF m 32 #[.val (.int p1), .val (.int p2), .val (.int p3), .val (.long q4), .second, .val (.int p5), .val (.int p6), .val (.int d), .val (.ref b1), .unset, .unset, .unset, .unset, .unset, .unset, .unset, .unset, .unset, .unset, .unset] [])
      refine own_via (fun _ k => XS.aload X5.here hx rfl (hb hby at_32) rfl rfl k) ?_
      show own_Fin _ _ _ _ _ _ _ T5 (mkF m 34 #[.val (.int p1), .val (.int p2), .val (.int p3), .val (.long q4), .second, .val (.int p5), .val (.int p6), .val (.int d), .val (.ref b1), .unset, .unset, .unset, .unset, .unset, .unset, .unset, .unset, .unset, .unset, .unset] [(.ref b1)])
      obtain ⟨cq10, kq10, q10a, q10b, q10c⟩ := isOf hZ rfl r7
      obtain ⟨_, _, ⟨T10, L10, k10, n10⟩, -, X10, ⟨Lc10, hQ10, l10, y10, z10⟩, st10⟩ := X5.virtualBack hx (y := (⟨"com/example/unhurried_retrieval/unhurriedretrieval/index/CollectionStatistics", "averageLength", "()D"⟩ : MethodName)) (z := (⟨"com/example/unhurried_retrieval/unhurriedretrieval/index/CollectionStatistics", "averageLength", "()D"⟩ : MethodName)) hown (mvT hZ (hw _ (List.mem_of_getElem? (i := 20) rfl))) (mvT hZ (hw _ (List.mem_of_getElem? (i := 21) rfl))) (notFace_of_selects (args := #[]) (mvT hZ (hw _ (List.mem_of_getElem? (i := 23) rfl)))) (mvT hZ (hw _ (List.mem_of_getElem? (i := 23) rfl))) (mvT hZ (hw _ (List.mem_of_getElem? (i := 22) rfl))) (by decide) (backOf (W := 0) (own_rm_avg0 l Z a0 hw [] b1 T5.heap n0 (Nat.le_trans Z0 (Nat.le_trans E1.1 K5.1)) r8) hZ (hw _ (List.mem_of_getElem? (i := 24) rfl)) (hw _ (List.mem_of_getElem? (i := 2) rfl)) (by decide) (by decide)) q10a q10c (g := (mkF m 34 #[.val (.int p1), .val (.int p2), .val (.int p3), .val (.long q4), .second, .val (.int p5), .val (.int p6), .val (.int d), .val (.ref b1), .unset, .unset, .unset, .unset, .unset, .unset, .unset, .unset, .unset, .unset, .unset] [(.ref b1)])) rfl (by rw [hml]; rfl) (Steps.refl _) (argsL := []) (rest := []) (lenOf own_pd2 rfl) rfl (by show 2 * 0 + _ ≤ _; exact Nat.le_of_eq rfl) (hb hby at_34) (fun _ _ => ⟨rfl, rfl, (by decide : 0 + 1 + 0 + 0 ≤ _), (by decide : 0 + 3 + 0 + 0 ≤ _)⟩)
      dsimp only [Pt.U, Pt.locs, Pt.cells, Pt.slots] at X10 l10 y10 z10 st10 hQ10
      subst l10 y10 z10
      obtain ⟨rfl, Nq10, hh10⟩ := hQ10
      have N10 := Fr.app N5 Nq10
      refine own_via (fun _ k => st10.trans k) ?_
      show own_Fin _ _ _ _ _ _ _ T10 (mkF m 37 #[.val (.int p1), .val (.int p2), .val (.int p3), .val (.long q4), .second, .val (.int p5), .val (.int p6), .val (.int d), .val (.ref b1), .unset, .unset, .unset, .unset, .unset, .unset, .unset, .unset, .unset, .unset, .unset] [(.double FP.dconst0)])
      refine own_via (fun _ k => XS.dstore X10.here hx rfl (hb hby at_37) rfl (l' := #[.val (.int p1), .val (.int p2), .val (.int p3), .val (.long q4), .second, .val (.int p5), .val (.int p6), .val (.int d), .val (.ref b1), .val (.double FP.dconst0), .second, .unset, .unset, .unset, .unset, .unset, .unset, .unset, .unset, .unset]) rfl k) ?_
      show own_Fin _ _ _ _ _ _ _ T10 (mkF m 39 #[.val (.int p1), .val (.int p2), .val (.int p3), .val (.long q4), .second, .val (.int p5), .val (.int p6), .val (.int d), .val (.ref b1), .val (.double FP.dconst0), .second, .unset, .unset, .unset, .unset, .unset, .unset, .unset, .unset, .unset] [])
      refine own_via (fun _ k => XS.dload X10.here hx rfl (hb hby at_39) rfl k) ?_
      show own_Fin _ _ _ _ _ _ _ T10 (mkF m 41 #[.val (.int p1), .val (.int p2), .val (.int p3), .val (.long q4), .second, .val (.int p5), .val (.int p6), .val (.int d), .val (.ref b1), .val (.double FP.dconst0), .second, .unset, .unset, .unset, .unset, .unset, .unset, .unset, .unset, .unset] [(.double FP.dconst0)])
      refine own_via (fun _ k => XS.dconst0 X10.here hx rfl (hb hby at_41) rfl k) ?_
      show own_Fin _ _ _ _ _ _ _ T10 (mkF m 42 #[.val (.int p1), .val (.int p2), .val (.int p3), .val (.long q4), .second, .val (.int p5), .val (.int p6), .val (.int d), .val (.ref b1), .val (.double FP.dconst0), .second, .unset, .unset, .unset, .unset, .unset, .unset, .unset, .unset, .unset] [(.double FP.dconst0), (.double FP.dconst0)])
      refine own_via (fun _ k => XS.dcmpS X10.here hx rfl (hb hby at_42) rfl rfl k) ?_
      show own_Fin _ _ _ _ _ _ _ T10 (mkF m 43 #[.val (.int p1), .val (.int p2), .val (.int p3), .val (.long q4), .second, .val (.int p5), .val (.int p6), .val (.int d), .val (.ref b1), .val (.double FP.dconst0), .second, .unset, .unset, .unset, .unset, .unset, .unset, .unset, .unset, .unset] [(.int (cmpValue (FP.dcmp FP.dconst0 FP.dconst0) .l))])
      refine own_via (fun _ k => XS.ifNo X10.here hx rfl (hb hby at_43) rfl ((if0 _ _).trans (teq own_zz).2) k) ?_
      show own_Fin _ _ _ _ _ _ _ T10 (mkF m 46 #[.val (.int p1), .val (.int p2), .val (.int p3), .val (.long q4), .second, .val (.int p5), .val (.int p6), .val (.int d), .val (.ref b1), .val (.double FP.dconst0), .second, .unset, .unset, .unset, .unset, .unset, .unset, .unset, .unset, .unset] [])
      refine own_via (fun _ k => XS.iconst X10.here hx rfl (hb hby at_46) k) ?_
      show own_Fin _ _ _ _ _ _ _ T10 (mkF m 47 #[.val (.int p1), .val (.int p2), .val (.int p3), .val (.long q4), .second, .val (.int p5), .val (.int p6), .val (.int d), .val (.ref b1), .val (.double FP.dconst0), .second, .unset, .unset, .unset, .unset, .unset, .unset, .unset, .unset, .unset] [(.int (1 : Int32))])
      refine own_via (fun _ k => XS.goto X10.here hx rfl (pc0 := 47) (pc' := 51) rfl (hb hby at_47) (by decide) (by decide) k) ?_
      show own_Fin _ _ _ _ _ _ _ T10 (mkF m 51 #[.val (.int p1), .val (.int p2), .val (.int p3), .val (.long q4), .second, .val (.int p5), .val (.int p6), .val (.int d), .val (.ref b1), .val (.double FP.dconst0), .second, .unset, .unset, .unset, .unset, .unset, .unset, .unset, .unset, .unset] [(.int (1 : Int32))])
      exact own_retN X10 hx (t := .boolean) Bd.returns Bd.notSynchronized (by simp) (hb hby at_51) hh10 rfl ⟨rfl, N10⟩ (by decide) (by decide)
    · refine own_via (fun _ k => XS.ifYes X0.here hx rfl (pc0 := 16) (pc' := 52) rfl (hb hby at_16) rfl ((if0 _ _).trans (feq hd).2) (by decide) (by decide) k) ?_
      show own_Fin _ _ _ _ _ _ _ s₁ (mkF m 52 #[.val (.int p1), .val (.int p2), .val (.int p3), .val (.long q4), .second, .val (.int p5), .val (.int p6), .val (.int d), .unset, .unset, .unset, .unset, .unset, .unset, .unset, .unset, .unset, .unset, .unset, .unset] [])
      refine own_via (fun _ k => XS.iload X0.here hx rfl (hb hby at_52) rfl k) ?_
      show own_Fin _ _ _ _ _ _ _ s₁ (mkF m 54 #[.val (.int p1), .val (.int p2), .val (.int p3), .val (.long q4), .second, .val (.int p5), .val (.int p6), .val (.int d), .unset, .unset, .unset, .unset, .unset, .unset, .unset, .unset, .unset, .unset, .unset, .unset] [(.int d)])
      refine own_via (fun _ k => XS.i2l X0.here hx rfl (hb hby at_54) rfl k) ?_
      show own_Fin _ _ _ _ _ _ _ s₁ (mkF m 55 #[.val (.int p1), .val (.int p2), .val (.int p3), .val (.long q4), .second, .val (.int p5), .val (.int p6), .val (.int d), .unset, .unset, .unset, .unset, .unset, .unset, .unset, .unset, .unset, .unset, .unset, .unset] [(.long (d.toInt64))])
      obtain ⟨_, _, ⟨T11, L11, k11, n11⟩, -, X11, ⟨Lc11, hQ11, l11, y11, z11⟩, st11⟩ := Jvm.LawKit.callS X0 hx (y := (⟨"java/lang/Math", "abs", "(J)J"⟩ : MethodName)) hown (mvT hZ (hw _ (List.mem_of_getElem? (i := 25) rfl))) (mvT hZ (hw _ (List.mem_of_getElem? (i := 26) rfl))) (mvT hZ (hw _ (List.mem_of_getElem? (i := 27) rfl))) (mvT hZ (hw _ (List.mem_of_getElem? (i := 28) rfl))) (by decide) (backOf (W := 0) (own_rm_absL l Z a0 hw [] (d.toInt64) h0 n0 Z0 ) hZ (hw _ (List.mem_of_getElem? (i := 28) rfl)) (hw _ (List.mem_of_getElem? (i := 27) rfl)) (by decide) (by decide)) (g := (mkF m 55 #[.val (.int p1), .val (.int p2), .val (.int p3), .val (.long q4), .second, .val (.int p5), .val (.int p6), .val (.int d), .unset, .unset, .unset, .unset, .unset, .unset, .unset, .unset, .unset, .unset, .unset, .unset] [(.long (d.toInt64))])) rfl (by rw [hml]; rfl) (argsL := [(.long (d.toInt64))]) (rest := []) (lenOf own_pd3 rfl) rfl (by show 2 * 0 + _ ≤ _; exact Nat.le_of_eq rfl) (hb hby at_55) (fun _ _ => ⟨rfl, e0, (by decide : 0 + 0 ≤ _), (by decide : 0 + 0 ≤ _)⟩)
      dsimp only [Pt.U, Pt.locs, Pt.cells, Pt.slots] at X11 l11 y11 z11 st11 hQ11
      subst l11 y11 z11
      obtain ⟨rfl, Nq11, hh11⟩ := hQ11
      have N11 := Fr.app N0 Nq11
      refine own_via (fun _ k => st11 _ k) ?_
      show own_Fin _ _ _ _ _ _ _ T11 (mkF m 58 #[.val (.int p1), .val (.int p2), .val (.int p3), .val (.long q4), .second, .val (.int p5), .val (.int p6), .val (.int d), .unset, .unset, .unset, .unset, .unset, .unset, .unset, .unset, .unset, .unset, .unset, .unset] [(.long (own_absL (d.toInt64)))])
      refine own_via (fun _ k => XS.lstore X11.here hx rfl (hb hby at_58) rfl (l' := #[.val (.int p1), .val (.int p2), .val (.int p3), .val (.long q4), .second, .val (.int p5), .val (.int p6), .val (.int d), .val (.long (own_absL (d.toInt64))), .second, .unset, .unset, .unset, .unset, .unset, .unset, .unset, .unset, .unset, .unset]) rfl k) ?_
      show own_Fin _ _ _ _ _ _ _ T11 (mkF m 60 #[.val (.int p1), .val (.int p2), .val (.int p3), .val (.long q4), .second, .val (.int p5), .val (.int p6), .val (.int d), .val (.long (own_absL (d.toInt64))), .second, .unset, .unset, .unset, .unset, .unset, .unset, .unset, .unset, .unset, .unset] [])
      refine own_via (fun _ k => XS.iloadN X11.here hx rfl (hb hby at_60) rfl k) ?_
      show own_Fin _ _ _ _ _ _ _ T11 (mkF m 61 #[.val (.int p1), .val (.int p2), .val (.int p3), .val (.long q4), .second, .val (.int p5), .val (.int p6), .val (.int d), .val (.long (own_absL (d.toInt64))), .second, .unset, .unset, .unset, .unset, .unset, .unset, .unset, .unset, .unset, .unset] [(.int p2)])
      refine own_via (fun _ k => XS.bipush X11.here hx rfl (hb hby at_61) k) ?_
      show own_Fin _ _ _ _ _ _ _ T11 (mkF m 63 #[.val (.int p1), .val (.int p2), .val (.int p3), .val (.long q4), .second, .val (.int p5), .val (.int p6), .val (.int d), .val (.long (own_absL (d.toInt64))), .second, .unset, .unset, .unset, .unset, .unset, .unset, .unset, .unset, .unset, .unset] [(.int (15 : Int32)), (.int p2)])
      refine own_via (fun _ k => XS.ishr X11.here hx rfl (hb hby at_63) rfl k) ?_
      show own_Fin _ _ _ _ _ _ _ T11 (mkF m 64 #[.val (.int p1), .val (.int p2), .val (.int p3), .val (.long q4), .second, .val (.int p5), .val (.int p6), .val (.int d), .val (.long (own_absL (d.toInt64))), .second, .unset, .unset, .unset, .unset, .unset, .unset, .unset, .unset, .unset, .unset] [(.int (p2 >>> ((15 : Int32) &&& 31)))])
      refine own_via (fun _ k => XS.istore X11.here hx rfl (hb hby at_64) rfl (l' := #[.val (.int p1), .val (.int p2), .val (.int p3), .val (.long q4), .second, .val (.int p5), .val (.int p6), .val (.int d), .val (.long (own_absL (d.toInt64))), .second, .val (.int (p2 >>> ((15 : Int32) &&& 31))), .unset, .unset, .unset, .unset, .unset, .unset, .unset, .unset, .unset]) rfl k) ?_
      show own_Fin _ _ _ _ _ _ _ T11 (mkF m 66 #[.val (.int p1), .val (.int p2), .val (.int p3), .val (.long q4), .second, .val (.int p5), .val (.int p6), .val (.int d), .val (.long (own_absL (d.toInt64))), .second, .val (.int (p2 >>> ((15 : Int32) &&& 31))), .unset, .unset, .unset, .unset, .unset, .unset, .unset, .unset, .unset] [])
      refine own_via (fun _ k => XS.iloadN X11.here hx rfl (hb hby at_66) rfl k) ?_
      show own_Fin _ _ _ _ _ _ _ T11 (mkF m 67 #[.val (.int p1), .val (.int p2), .val (.int p3), .val (.long q4), .second, .val (.int p5), .val (.int p6), .val (.int d), .val (.long (own_absL (d.toInt64))), .second, .val (.int (p2 >>> ((15 : Int32) &&& 31))), .unset, .unset, .unset, .unset, .unset, .unset, .unset, .unset, .unset] [(.int p3)])
      refine own_via (fun _ k => XS.i2l X11.here hx rfl (hb hby at_67) rfl k) ?_
      show own_Fin _ _ _ _ _ _ _ T11 (mkF m 68 #[.val (.int p1), .val (.int p2), .val (.int p3), .val (.long q4), .second, .val (.int p5), .val (.int p6), .val (.int d), .val (.long (own_absL (d.toInt64))), .second, .val (.int (p2 >>> ((15 : Int32) &&& 31))), .unset, .unset, .unset, .unset, .unset, .unset, .unset, .unset, .unset] [(.long (p3.toInt64))])
      refine own_via (fun _ k => X11.ldc2Long hx hown (mvT hZ (hw _ (List.mem_of_getElem? (i := 29) rfl))) (g := (mkF m 68 #[.val (.int p1), .val (.int p2), .val (.int p3), .val (.long q4), .second, .val (.int p5), .val (.int p6), .val (.int d), .val (.long (own_absL (d.toInt64))), .second, .val (.int (p2 >>> ((15 : Int32) &&& 31))), .unset, .unset, .unset, .unset, .unset, .unset, .unset, .unset, .unset] [(.long (p3.toInt64))])) rfl (hb hby at_68) _ k) ?_
      show own_Fin _ _ _ _ _ _ _ T11 (mkF m 71 #[.val (.int p1), .val (.int p2), .val (.int p3), .val (.long q4), .second, .val (.int p5), .val (.int p6), .val (.int d), .val (.long (own_absL (d.toInt64))), .second, .val (.int (p2 >>> ((15 : Int32) &&& 31))), .unset, .unset, .unset, .unset, .unset, .unset, .unset, .unset, .unset] [(.long (2147483647 : Int64)), (.long (p3.toInt64))])
      refine own_via (fun _ k => XS.land X11.here hx rfl (hb hby at_71) rfl k) ?_
      show own_Fin _ _ _ _ _ _ _ T11 (mkF m 72 #[.val (.int p1), .val (.int p2), .val (.int p3), .val (.long q4), .second, .val (.int p5), .val (.int p6), .val (.int d), .val (.long (own_absL (d.toInt64))), .second, .val (.int (p2 >>> ((15 : Int32) &&& 31))), .unset, .unset, .unset, .unset, .unset, .unset, .unset, .unset, .unset] [(.long ((p3.toInt64) &&& (2147483647 : Int64)))])
      refine own_via (fun _ k => XS.lload X11.here hx rfl (hb hby at_72) rfl k) ?_
      show own_Fin _ _ _ _ _ _ _ T11 (mkF m 74 #[.val (.int p1), .val (.int p2), .val (.int p3), .val (.long q4), .second, .val (.int p5), .val (.int p6), .val (.int d), .val (.long (own_absL (d.toInt64))), .second, .val (.int (p2 >>> ((15 : Int32) &&& 31))), .unset, .unset, .unset, .unset, .unset, .unset, .unset, .unset, .unset] [(.long (own_absL (d.toInt64))), (.long ((p3.toInt64) &&& (2147483647 : Int64)))])
      refine own_via (fun _ k => XS.lrem X11.here hx rfl (hb hby at_74) rfl (own_abs_nz hd) k) ?_
      show own_Fin _ _ _ _ _ _ _ T11 (mkF m 75 #[.val (.int p1), .val (.int p2), .val (.int p3), .val (.long q4), .second, .val (.int p5), .val (.int p6), .val (.int d), .val (.long (own_absL (d.toInt64))), .second, .val (.int (p2 >>> ((15 : Int32) &&& 31))), .unset, .unset, .unset, .unset, .unset, .unset, .unset, .unset, .unset] [(.long (((p3.toInt64) &&& (2147483647 : Int64)) - ((p3.toInt64) &&& (2147483647 : Int64)) / (own_absL (d.toInt64)) * (own_absL (d.toInt64))))])
      refine own_via (fun _ k => XS.lstore X11.here hx rfl (hb hby at_75) rfl (l' := #[.val (.int p1), .val (.int p2), .val (.int p3), .val (.long q4), .second, .val (.int p5), .val (.int p6), .val (.int d), .val (.long (own_absL (d.toInt64))), .second, .val (.int (p2 >>> ((15 : Int32) &&& 31))), .val (.long (((p3.toInt64) &&& (2147483647 : Int64)) - ((p3.toInt64) &&& (2147483647 : Int64)) / (own_absL (d.toInt64)) * (own_absL (d.toInt64)))), .second, .unset, .unset, .unset, .unset, .unset, .unset, .unset]) rfl k) ?_
      show own_Fin _ _ _ _ _ _ _ T11 (mkF m 77 #[.val (.int p1), .val (.int p2), .val (.int p3), .val (.long q4), .second, .val (.int p5), .val (.int p6), .val (.int d), .val (.long (own_absL (d.toInt64))), .second, .val (.int (p2 >>> ((15 : Int32) &&& 31))), .val (.long (((p3.toInt64) &&& (2147483647 : Int64)) - ((p3.toInt64) &&& (2147483647 : Int64)) / (own_absL (d.toInt64)) * (own_absL (d.toInt64)))), .second, .unset, .unset, .unset, .unset, .unset, .unset, .unset] [])
      refine own_via (fun _ k => XS.iload X11.here hx rfl (hb hby at_77) rfl k) ?_
      show own_Fin _ _ _ _ _ _ _ T11 (mkF m 79 #[.val (.int p1), .val (.int p2), .val (.int p3), .val (.long q4), .second, .val (.int p5), .val (.int p6), .val (.int d), .val (.long (own_absL (d.toInt64))), .second, .val (.int (p2 >>> ((15 : Int32) &&& 31))), .val (.long (((p3.toInt64) &&& (2147483647 : Int64)) - ((p3.toInt64) &&& (2147483647 : Int64)) / (own_absL (d.toInt64)) * (own_absL (d.toInt64)))), .second, .unset, .unset, .unset, .unset, .unset, .unset, .unset] [(.int (p2 >>> ((15 : Int32) &&& 31)))])
      refine own_via (fun _ k => XS.i2l X11.here hx rfl (hb hby at_79) rfl k) ?_
      show own_Fin _ _ _ _ _ _ _ T11 (mkF m 80 #[.val (.int p1), .val (.int p2), .val (.int p3), .val (.long q4), .second, .val (.int p5), .val (.int p6), .val (.int d), .val (.long (own_absL (d.toInt64))), .second, .val (.int (p2 >>> ((15 : Int32) &&& 31))), .val (.long (((p3.toInt64) &&& (2147483647 : Int64)) - ((p3.toInt64) &&& (2147483647 : Int64)) / (own_absL (d.toInt64)) * (own_absL (d.toInt64)))), .second, .unset, .unset, .unset, .unset, .unset, .unset, .unset] [(.long ((p2 >>> ((15 : Int32) &&& 31)).toInt64))])
      refine own_via (fun _ k => XS.iload X11.here hx rfl (hb hby at_80) rfl k) ?_
      show own_Fin _ _ _ _ _ _ _ T11 (mkF m 82 #[.val (.int p1), .val (.int p2), .val (.int p3), .val (.long q4), .second, .val (.int p5), .val (.int p6), .val (.int d), .val (.long (own_absL (d.toInt64))), .second, .val (.int (p2 >>> ((15 : Int32) &&& 31))), .val (.long (((p3.toInt64) &&& (2147483647 : Int64)) - ((p3.toInt64) &&& (2147483647 : Int64)) / (own_absL (d.toInt64)) * (own_absL (d.toInt64)))), .second, .unset, .unset, .unset, .unset, .unset, .unset, .unset] [(.int d), (.long ((p2 >>> ((15 : Int32) &&& 31)).toInt64))])
      refine own_via (fun _ k => XS.i2l X11.here hx rfl (hb hby at_82) rfl k) ?_
      show own_Fin _ _ _ _ _ _ _ T11 (mkF m 83 #[.val (.int p1), .val (.int p2), .val (.int p3), .val (.long q4), .second, .val (.int p5), .val (.int p6), .val (.int d), .val (.long (own_absL (d.toInt64))), .second, .val (.int (p2 >>> ((15 : Int32) &&& 31))), .val (.long (((p3.toInt64) &&& (2147483647 : Int64)) - ((p3.toInt64) &&& (2147483647 : Int64)) / (own_absL (d.toInt64)) * (own_absL (d.toInt64)))), .second, .unset, .unset, .unset, .unset, .unset, .unset, .unset] [(.long (d.toInt64)), (.long ((p2 >>> ((15 : Int32) &&& 31)).toInt64))])
      refine own_via (fun _ k => XS.lmul X11.here hx rfl (hb hby at_83) rfl k) ?_
      show own_Fin _ _ _ _ _ _ _ T11 (mkF m 84 #[.val (.int p1), .val (.int p2), .val (.int p3), .val (.long q4), .second, .val (.int p5), .val (.int p6), .val (.int d), .val (.long (own_absL (d.toInt64))), .second, .val (.int (p2 >>> ((15 : Int32) &&& 31))), .val (.long (((p3.toInt64) &&& (2147483647 : Int64)) - ((p3.toInt64) &&& (2147483647 : Int64)) / (own_absL (d.toInt64)) * (own_absL (d.toInt64)))), .second, .unset, .unset, .unset, .unset, .unset, .unset, .unset] [(.long (((p2 >>> ((15 : Int32) &&& 31)).toInt64) * (d.toInt64)))])
      refine own_via (fun _ k => XS.lload X11.here hx rfl (hb hby at_84) rfl k) ?_
      show own_Fin _ _ _ _ _ _ _ T11 (mkF m 86 #[.val (.int p1), .val (.int p2), .val (.int p3), .val (.long q4), .second, .val (.int p5), .val (.int p6), .val (.int d), .val (.long (own_absL (d.toInt64))), .second, .val (.int (p2 >>> ((15 : Int32) &&& 31))), .val (.long (((p3.toInt64) &&& (2147483647 : Int64)) - ((p3.toInt64) &&& (2147483647 : Int64)) / (own_absL (d.toInt64)) * (own_absL (d.toInt64)))), .second, .unset, .unset, .unset, .unset, .unset, .unset, .unset] [(.long (((p3.toInt64) &&& (2147483647 : Int64)) - ((p3.toInt64) &&& (2147483647 : Int64)) / (own_absL (d.toInt64)) * (own_absL (d.toInt64)))), (.long (((p2 >>> ((15 : Int32) &&& 31)).toInt64) * (d.toInt64)))])
      refine own_via (fun _ k => XS.ladd X11.here hx rfl (hb hby at_86) rfl k) ?_
      show own_Fin _ _ _ _ _ _ _ T11 (mkF m 87 #[.val (.int p1), .val (.int p2), .val (.int p3), .val (.long q4), .second, .val (.int p5), .val (.int p6), .val (.int d), .val (.long (own_absL (d.toInt64))), .second, .val (.int (p2 >>> ((15 : Int32) &&& 31))), .val (.long (((p3.toInt64) &&& (2147483647 : Int64)) - ((p3.toInt64) &&& (2147483647 : Int64)) / (own_absL (d.toInt64)) * (own_absL (d.toInt64)))), .second, .unset, .unset, .unset, .unset, .unset, .unset, .unset] [(.long ((((p2 >>> ((15 : Int32) &&& 31)).toInt64) * (d.toInt64)) + (((p3.toInt64) &&& (2147483647 : Int64)) - ((p3.toInt64) &&& (2147483647 : Int64)) / (own_absL (d.toInt64)) * (own_absL (d.toInt64)))))])
      refine own_via (fun _ k => XS.lstore X11.here hx rfl (hb hby at_87) rfl (l' := #[.val (.int p1), .val (.int p2), .val (.int p3), .val (.long q4), .second, .val (.int p5), .val (.int p6), .val (.int d), .val (.long (own_absL (d.toInt64))), .second, .val (.int (p2 >>> ((15 : Int32) &&& 31))), .val (.long (((p3.toInt64) &&& (2147483647 : Int64)) - ((p3.toInt64) &&& (2147483647 : Int64)) / (own_absL (d.toInt64)) * (own_absL (d.toInt64)))), .second, .val (.long ((((p2 >>> ((15 : Int32) &&& 31)).toInt64) * (d.toInt64)) + (((p3.toInt64) &&& (2147483647 : Int64)) - ((p3.toInt64) &&& (2147483647 : Int64)) / (own_absL (d.toInt64)) * (own_absL (d.toInt64))))), .second, .unset, .unset, .unset, .unset, .unset]) rfl k) ?_
      show own_Fin _ _ _ _ _ _ _ T11 (mkF m 89 #[.val (.int p1), .val (.int p2), .val (.int p3), .val (.long q4), .second, .val (.int p5), .val (.int p6), .val (.int d), .val (.long (own_absL (d.toInt64))), .second, .val (.int (p2 >>> ((15 : Int32) &&& 31))), .val (.long (((p3.toInt64) &&& (2147483647 : Int64)) - ((p3.toInt64) &&& (2147483647 : Int64)) / (own_absL (d.toInt64)) * (own_absL (d.toInt64)))), .second, .val (.long ((((p2 >>> ((15 : Int32) &&& 31)).toInt64) * (d.toInt64)) + (((p3.toInt64) &&& (2147483647 : Int64)) - ((p3.toInt64) &&& (2147483647 : Int64)) / (own_absL (d.toInt64)) * (own_absL (d.toInt64))))), .second, .unset, .unset, .unset, .unset, .unset] [])
      obtain ⟨T12, h12, X12, e12, E12, A12, D12, -, st12⟩ := newO X11 hx hZ hown (hw _ (List.mem_of_getElem? (i := 0) rfl)) (hw _ (List.mem_of_getElem? (i := 1) rfl)) (hw _ (List.mem_of_getElem? (i := 2) rfl)) hh11 (g := (mkF m 89 #[.val (.int p1), .val (.int p2), .val (.int p3), .val (.long q4), .second, .val (.int p5), .val (.int p6), .val (.int d), .val (.long (own_absL (d.toInt64))), .second, .val (.int (p2 >>> ((15 : Int32) &&& 31))), .val (.long (((p3.toInt64) &&& (2147483647 : Int64)) - ((p3.toInt64) &&& (2147483647 : Int64)) / (own_absL (d.toInt64)) * (own_absL (d.toInt64)))), .second, .val (.long ((((p2 >>> ((15 : Int32) &&& 31)).toInt64) * (d.toInt64)) + (((p3.toInt64) &&& (2147483647 : Int64)) - ((p3.toInt64) &&& (2147483647 : Int64)) / (own_absL (d.toInt64)) * (own_absL (d.toInt64))))), .second, .unset, .unset, .unset, .unset, .unset] [])) rfl (hb hby at_89) (by decide) (by decide)
      obtain ⟨b12, g12⟩ : ∃ z, z = h0.size := ⟨_, rfl⟩
      rw [← g12] at A12 D12 st12
      have F13 : Fld Z h12 b12 "com/example/unhurried_retrieval/unhurriedretrieval/index/CollectionStatistics" "documentCount" "I" (.int (0 : Int32)) := D12 (Or.inr (hw _ (List.mem_of_getElem? (i := 15) rfl))) (ty := .int) (by decide)
      have F14 : Fld Z h12 b12 "com/example/unhurried_retrieval/unhurriedretrieval/index/CollectionStatistics" "tokenCount" "J" (.long (0 : Int64)) := D12 (Or.inr (hw _ (List.mem_of_getElem? (i := 17) rfl))) (ty := .long) (by decide)
      have F15 : Fld Z h12 b12 "com/example/unhurried_retrieval/unhurriedretrieval/index/CollectionStatistics" "termCount" "I" (.int (0 : Int32)) := D12 (Or.inr (hw _ (List.mem_of_getElem? (i := 19) rfl))) (ty := .int) (by decide)
      refine own_via (fun _ k => st12 _ k) ?_
      show own_Fin _ _ _ _ _ _ _ T12 (mkF m 92 #[.val (.int p1), .val (.int p2), .val (.int p3), .val (.long q4), .second, .val (.int p5), .val (.int p6), .val (.int d), .val (.long (own_absL (d.toInt64))), .second, .val (.int (p2 >>> ((15 : Int32) &&& 31))), .val (.long (((p3.toInt64) &&& (2147483647 : Int64)) - ((p3.toInt64) &&& (2147483647 : Int64)) / (own_absL (d.toInt64)) * (own_absL (d.toInt64)))), .second, .val (.long ((((p2 >>> ((15 : Int32) &&& 31)).toInt64) * (d.toInt64)) + (((p3.toInt64) &&& (2147483647 : Int64)) - ((p3.toInt64) &&& (2147483647 : Int64)) / (own_absL (d.toInt64)) * (own_absL (d.toInt64))))), .second, .unset, .unset, .unset, .unset, .unset] [(.ref b12)])
      refine own_via (fun _ k => XS.dup X12.here hx rfl (hb hby at_92) rfl rfl k) ?_
      show own_Fin _ _ _ _ _ _ _ T12 (mkF m 93 #[.val (.int p1), .val (.int p2), .val (.int p3), .val (.long q4), .second, .val (.int p5), .val (.int p6), .val (.int d), .val (.long (own_absL (d.toInt64))), .second, .val (.int (p2 >>> ((15 : Int32) &&& 31))), .val (.long (((p3.toInt64) &&& (2147483647 : Int64)) - ((p3.toInt64) &&& (2147483647 : Int64)) / (own_absL (d.toInt64)) * (own_absL (d.toInt64)))), .second, .val (.long ((((p2 >>> ((15 : Int32) &&& 31)).toInt64) * (d.toInt64)) + (((p3.toInt64) &&& (2147483647 : Int64)) - ((p3.toInt64) &&& (2147483647 : Int64)) / (own_absL (d.toInt64)) * (own_absL (d.toInt64))))), .second, .unset, .unset, .unset, .unset, .unset] [(.ref b12), (.ref b12)])
      refine own_via (fun _ k => XS.iload X12.here hx rfl (hb hby at_93) rfl k) ?_
      show own_Fin _ _ _ _ _ _ _ T12 (mkF m 95 #[.val (.int p1), .val (.int p2), .val (.int p3), .val (.long q4), .second, .val (.int p5), .val (.int p6), .val (.int d), .val (.long (own_absL (d.toInt64))), .second, .val (.int (p2 >>> ((15 : Int32) &&& 31))), .val (.long (((p3.toInt64) &&& (2147483647 : Int64)) - ((p3.toInt64) &&& (2147483647 : Int64)) / (own_absL (d.toInt64)) * (own_absL (d.toInt64)))), .second, .val (.long ((((p2 >>> ((15 : Int32) &&& 31)).toInt64) * (d.toInt64)) + (((p3.toInt64) &&& (2147483647 : Int64)) - ((p3.toInt64) &&& (2147483647 : Int64)) / (own_absL (d.toInt64)) * (own_absL (d.toInt64))))), .second, .unset, .unset, .unset, .unset, .unset] [(.int d), (.ref b12), (.ref b12)])
      refine own_via (fun _ k => XS.lload X12.here hx rfl (hb hby at_95) rfl k) ?_
      show own_Fin _ _ _ _ _ _ _ T12 (mkF m 97 #[.val (.int p1), .val (.int p2), .val (.int p3), .val (.long q4), .second, .val (.int p5), .val (.int p6), .val (.int d), .val (.long (own_absL (d.toInt64))), .second, .val (.int (p2 >>> ((15 : Int32) &&& 31))), .val (.long (((p3.toInt64) &&& (2147483647 : Int64)) - ((p3.toInt64) &&& (2147483647 : Int64)) / (own_absL (d.toInt64)) * (own_absL (d.toInt64)))), .second, .val (.long ((((p2 >>> ((15 : Int32) &&& 31)).toInt64) * (d.toInt64)) + (((p3.toInt64) &&& (2147483647 : Int64)) - ((p3.toInt64) &&& (2147483647 : Int64)) / (own_absL (d.toInt64)) * (own_absL (d.toInt64))))), .second, .unset, .unset, .unset, .unset, .unset] [(.long ((((p2 >>> ((15 : Int32) &&& 31)).toInt64) * (d.toInt64)) + (((p3.toInt64) &&& (2147483647 : Int64)) - ((p3.toInt64) &&& (2147483647 : Int64)) / (own_absL (d.toInt64)) * (own_absL (d.toInt64))))), (.int d), (.ref b12), (.ref b12)])
      refine own_via (fun _ k => XS.iload X12.here hx rfl (hb hby at_97) rfl k) ?_
      show own_Fin _ _ _ _ _ _ _ T12 (mkF m 99 #[.val (.int p1), .val (.int p2), .val (.int p3), .val (.long q4), .second, .val (.int p5), .val (.int p6), .val (.int d), .val (.long (own_absL (d.toInt64))), .second, .val (.int (p2 >>> ((15 : Int32) &&& 31))), .val (.long (((p3.toInt64) &&& (2147483647 : Int64)) - ((p3.toInt64) &&& (2147483647 : Int64)) / (own_absL (d.toInt64)) * (own_absL (d.toInt64)))), .second, .val (.long ((((p2 >>> ((15 : Int32) &&& 31)).toInt64) * (d.toInt64)) + (((p3.toInt64) &&& (2147483647 : Int64)) - ((p3.toInt64) &&& (2147483647 : Int64)) / (own_absL (d.toInt64)) * (own_absL (d.toInt64))))), .second, .unset, .unset, .unset, .unset, .unset] [(.int p5), (.long ((((p2 >>> ((15 : Int32) &&& 31)).toInt64) * (d.toInt64)) + (((p3.toInt64) &&& (2147483647 : Int64)) - ((p3.toInt64) &&& (2147483647 : Int64)) / (own_absL (d.toInt64)) * (own_absL (d.toInt64))))), (.int d), (.ref b12), (.ref b12)])
      have g17 : n0 ≤ b12 := Nat.le_trans Z0 (Nat.le_of_eq g12.symm)
      obtain ⟨_, _, ⟨T16, L16, k16, n16⟩, -, X16, ⟨Lc16, hQ16, l16, y16, z16⟩, st16⟩ := X12.specialBack hx (y := (⟨"com/example/unhurried_retrieval/unhurriedretrieval/index/CollectionStatistics", "<init>", "(IJI)V"⟩ : MethodName)) rfl hown (mvT hZ (hw _ (List.mem_of_getElem? (i := 3) rfl))) (mvT hZ (hw _ (List.mem_of_getElem? (i := 4) rfl))) (mvT hZ (hw _ (List.mem_of_getElem? (i := 5) rfl))) (by decide) (backOf (W := 1) (own_rm_csInit l Z a0 hw [] b12 d ((((p2 >>> ((15 : Int32) &&& 31)).toInt64) * (d.toInt64)) + (((p3.toInt64) &&& (2147483647 : Int64)) - ((p3.toInt64) &&& (2147483647 : Int64)) / (own_absL (d.toInt64)) * (own_absL (d.toInt64)))) p5 (.int (0 : Int32)) (.long (0 : Int64)) (.int (0 : Int32)) h12 n0 (Nat.le_trans Z0 E12.1) A12 F13 F14 F15 g17) hZ (hw _ (List.mem_of_getElem? (i := 5) rfl)) (hw _ (List.mem_of_getElem? (i := 2) rfl)) (by decide) (by decide)) (g := (mkF m 99 #[.val (.int p1), .val (.int p2), .val (.int p3), .val (.long q4), .second, .val (.int p5), .val (.int p6), .val (.int d), .val (.long (own_absL (d.toInt64))), .second, .val (.int (p2 >>> ((15 : Int32) &&& 31))), .val (.long (((p3.toInt64) &&& (2147483647 : Int64)) - ((p3.toInt64) &&& (2147483647 : Int64)) / (own_absL (d.toInt64)) * (own_absL (d.toInt64)))), .second, .val (.long ((((p2 >>> ((15 : Int32) &&& 31)).toInt64) * (d.toInt64)) + (((p3.toInt64) &&& (2147483647 : Int64)) - ((p3.toInt64) &&& (2147483647 : Int64)) / (own_absL (d.toInt64)) * (own_absL (d.toInt64))))), .second, .unset, .unset, .unset, .unset, .unset] [(.int p5), (.long ((((p2 >>> ((15 : Int32) &&& 31)).toInt64) * (d.toInt64)) + (((p3.toInt64) &&& (2147483647 : Int64)) - ((p3.toInt64) &&& (2147483647 : Int64)) / (own_absL (d.toInt64)) * (own_absL (d.toInt64))))), (.int d), (.ref b12), (.ref b12)])) rfl (by rw [hml]; rfl) (Steps.refl _) (a := b12) (argsL := [(.int d), (.long ((((p2 >>> ((15 : Int32) &&& 31)).toInt64) * (d.toInt64)) + (((p3.toInt64) &&& (2147483647 : Int64)) - ((p3.toInt64) &&& (2147483647 : Int64)) / (own_absL (d.toInt64)) * (own_absL (d.toInt64))))), (.int p5)]) (rest := [(.ref b12)]) (lenOf own_pd1 rfl) rfl (by show 2 * 0 + _ ≤ _; exact Nat.le_of_eq rfl) (hb hby at_99) (fun _ _ => ⟨rfl, e12, (by decide : 0 + 0 + 1 + 0 ≤ _), (by decide : 0 + 0 + 3 + 0 ≤ _)⟩)
      dsimp only [Pt.U, Pt.locs, Pt.cells, Pt.slots] at X16 l16 y16 z16 st16 hQ16
      subst l16 y16 z16
      obtain ⟨rfl, Nq16, K16, r18, r19, r20⟩ := hQ16
      have N16 := Fr.app N11 Nq16
      refine own_via (fun _ k => st16.trans k) ?_
      show own_Fin _ _ _ _ _ _ _ T16 (mkF m 102 #[.val (.int p1), .val (.int p2), .val (.int p3), .val (.long q4), .second, .val (.int p5), .val (.int p6), .val (.int d), .val (.long (own_absL (d.toInt64))), .second, .val (.int (p2 >>> ((15 : Int32) &&& 31))), .val (.long (((p3.toInt64) &&& (2147483647 : Int64)) - ((p3.toInt64) &&& (2147483647 : Int64)) / (own_absL (d.toInt64)) * (own_absL (d.toInt64)))), .second, .val (.long ((((p2 >>> ((15 : Int32) &&& 31)).toInt64) * (d.toInt64)) + (((p3.toInt64) &&& (2147483647 : Int64)) - ((p3.toInt64) &&& (2147483647 : Int64)) / (own_absL (d.toInt64)) * (own_absL (d.toInt64))))), .second, .unset, .unset, .unset, .unset, .unset] [(.ref b12)])
      refine own_via (fun _ k => XS.astore X16.here hx rfl (hb hby at_102) rfl rfl (l' := #[.val (.int p1), .val (.int p2), .val (.int p3), .val (.long q4), .second, .val (.int p5), .val (.int p6), .val (.int d), .val (.long (own_absL (d.toInt64))), .second, .val (.int (p2 >>> ((15 : Int32) &&& 31))), .val (.long (((p3.toInt64) &&& (2147483647 : Int64)) - ((p3.toInt64) &&& (2147483647 : Int64)) / (own_absL (d.toInt64)) * (own_absL (d.toInt64)))), .second, .val (.long ((((p2 >>> ((15 : Int32) &&& 31)).toInt64) * (d.toInt64)) + (((p3.toInt64) &&& (2147483647 : Int64)) - ((p3.toInt64) &&& (2147483647 : Int64)) / (own_absL (d.toInt64)) * (own_absL (d.toInt64))))), .second, .val (.ref b12), .unset, .unset, .unset, .unset]) rfl k) ?_
      show own_Fin _ _ _ _ _ _ _ T16 (mkF m 104 #[.val (.int p1), .val (.int p2), .val (.int p3), .val (.long q4), .second, .val (.int p5), .val (.int p6), .val (.int d), .val (.long (own_absL (d.toInt64))), .second, .val (.int (p2 >>> ((15 : Int32) &&& 31))), .val (.long (((p3.toInt64) &&& (2147483647 : Int64)) - ((p3.toInt64) &&& (2147483647 : Int64)) / (own_absL (d.toInt64)) * (own_absL (d.toInt64)))), .second, .val (.long ((((p2 >>> ((15 : Int32) &&& 31)).toInt64) * (d.toInt64)) + (((p3.toInt64) &&& (2147483647 : Int64)) - ((p3.toInt64) &&& (2147483647 : Int64)) / (own_absL (d.toInt64)) * (own_absL (d.toInt64))))), .second, .val (.ref b12), .unset, .unset, .unset, .unset] [])
      refine own_via (fun _ k => XS.aload X16.here hx rfl (hb hby at_104) rfl rfl k) ?_
      show own_Fin _ _ _ _ _ _ _ T16 (mkF m 106 #[.val (.int p1), .val (.int p2), .val (.int p3), .val (.long q4), .second, .val (.int p5), .val (.int p6), .val (.int d), .val (.long (own_absL (d.toInt64))), .second, .val (.int (p2 >>> ((15 : Int32) &&& 31))), .val (.long (((p3.toInt64) &&& (2147483647 : Int64)) - ((p3.toInt64) &&& (2147483647 : Int64)) / (own_absL (d.toInt64)) * (own_absL (d.toInt64)))), .second, .val (.long ((((p2 >>> ((15 : Int32) &&& 31)).toInt64) * (d.toInt64)) + (((p3.toInt64) &&& (2147483647 : Int64)) - ((p3.toInt64) &&& (2147483647 : Int64)) / (own_absL (d.toInt64)) * (own_absL (d.toInt64))))), .second, .val (.ref b12), .unset, .unset, .unset, .unset] [(.ref b12)])
      obtain ⟨cq21, kq21, q21a, q21b, q21c⟩ := isOf hZ rfl r18
      obtain ⟨_, _, ⟨T21, L21, k21, n21⟩, -, X21, ⟨Lc21, hQ21, l21, y21, z21⟩, st21⟩ := X16.virtualBack hx (y := (⟨"com/example/unhurried_retrieval/unhurriedretrieval/index/CollectionStatistics", "averageLength", "()D"⟩ : MethodName)) (z := (⟨"com/example/unhurried_retrieval/unhurriedretrieval/index/CollectionStatistics", "averageLength", "()D"⟩ : MethodName)) hown (mvT hZ (hw _ (List.mem_of_getElem? (i := 20) rfl))) (mvT hZ (hw _ (List.mem_of_getElem? (i := 21) rfl))) (notFace_of_selects (args := #[]) (mvT hZ (hw _ (List.mem_of_getElem? (i := 23) rfl)))) (mvT hZ (hw _ (List.mem_of_getElem? (i := 23) rfl))) (mvT hZ (hw _ (List.mem_of_getElem? (i := 22) rfl))) (by decide) (backOf (W := 0) (own_rm_avg l Z a0 hw [] b12 d ((((p2 >>> ((15 : Int32) &&& 31)).toInt64) * (d.toInt64)) + (((p3.toInt64) &&& (2147483647 : Int64)) - ((p3.toInt64) &&& (2147483647 : Int64)) / (own_absL (d.toInt64)) * (own_absL (d.toInt64)))) T16.heap n0 (Nat.le_trans Z0 (Nat.le_trans E12.1 K16.1)) r19 r20 hd (own_nnr p2 p3 hd)) hZ (hw _ (List.mem_of_getElem? (i := 24) rfl)) (hw _ (List.mem_of_getElem? (i := 2) rfl)) (by decide) (by decide)) q21a q21c (g := (mkF m 106 #[.val (.int p1), .val (.int p2), .val (.int p3), .val (.long q4), .second, .val (.int p5), .val (.int p6), .val (.int d), .val (.long (own_absL (d.toInt64))), .second, .val (.int (p2 >>> ((15 : Int32) &&& 31))), .val (.long (((p3.toInt64) &&& (2147483647 : Int64)) - ((p3.toInt64) &&& (2147483647 : Int64)) / (own_absL (d.toInt64)) * (own_absL (d.toInt64)))), .second, .val (.long ((((p2 >>> ((15 : Int32) &&& 31)).toInt64) * (d.toInt64)) + (((p3.toInt64) &&& (2147483647 : Int64)) - ((p3.toInt64) &&& (2147483647 : Int64)) / (own_absL (d.toInt64)) * (own_absL (d.toInt64))))), .second, .val (.ref b12), .unset, .unset, .unset, .unset] [(.ref b12)])) rfl (by rw [hml]; rfl) (Steps.refl _) (argsL := []) (rest := []) (lenOf own_pd2 rfl) rfl (by show 2 * 0 + _ ≤ _; exact Nat.le_of_eq rfl) (hb hby at_106) (fun _ _ => ⟨rfl, rfl, (by decide : 0 + 0 + 1 + 0 + 0 ≤ _), (by decide : 0 + 0 + 3 + 0 + 0 ≤ _)⟩)
      dsimp only [Pt.U, Pt.locs, Pt.cells, Pt.slots] at X21 l21 y21 z21 st21 hQ21
      subst l21 y21 z21
      obtain ⟨rfl, Nq21, hh21⟩ := hQ21
      have N21 := Fr.app N16 Nq21
      refine own_via (fun _ k => st21.trans k) ?_
      show own_Fin _ _ _ _ _ _ _ T21 (mkF m 109 #[.val (.int p1), .val (.int p2), .val (.int p3), .val (.long q4), .second, .val (.int p5), .val (.int p6), .val (.int d), .val (.long (own_absL (d.toInt64))), .second, .val (.int (p2 >>> ((15 : Int32) &&& 31))), .val (.long (((p3.toInt64) &&& (2147483647 : Int64)) - ((p3.toInt64) &&& (2147483647 : Int64)) / (own_absL (d.toInt64)) * (own_absL (d.toInt64)))), .second, .val (.long ((((p2 >>> ((15 : Int32) &&& 31)).toInt64) * (d.toInt64)) + (((p3.toInt64) &&& (2147483647 : Int64)) - ((p3.toInt64) &&& (2147483647 : Int64)) / (own_absL (d.toInt64)) * (own_absL (d.toInt64))))), .second, .val (.ref b12), .unset, .unset, .unset, .unset] [(.double (FP.ddiv (FP.l2d ((((p2 >>> ((15 : Int32) &&& 31)).toInt64) * (d.toInt64)) + (((p3.toInt64) &&& (2147483647 : Int64)) - ((p3.toInt64) &&& (2147483647 : Int64)) / (own_absL (d.toInt64)) * (own_absL (d.toInt64))))) (FP.i2d d)))])
      refine own_via (fun _ k => XS.dstore X21.here hx rfl (hb hby at_109) rfl (l' := #[.val (.int p1), .val (.int p2), .val (.int p3), .val (.long q4), .second, .val (.int p5), .val (.int p6), .val (.int d), .val (.long (own_absL (d.toInt64))), .second, .val (.int (p2 >>> ((15 : Int32) &&& 31))), .val (.long (((p3.toInt64) &&& (2147483647 : Int64)) - ((p3.toInt64) &&& (2147483647 : Int64)) / (own_absL (d.toInt64)) * (own_absL (d.toInt64)))), .second, .val (.long ((((p2 >>> ((15 : Int32) &&& 31)).toInt64) * (d.toInt64)) + (((p3.toInt64) &&& (2147483647 : Int64)) - ((p3.toInt64) &&& (2147483647 : Int64)) / (own_absL (d.toInt64)) * (own_absL (d.toInt64))))), .second, .val (.ref b12), .val (.double (FP.ddiv (FP.l2d ((((p2 >>> ((15 : Int32) &&& 31)).toInt64) * (d.toInt64)) + (((p3.toInt64) &&& (2147483647 : Int64)) - ((p3.toInt64) &&& (2147483647 : Int64)) / (own_absL (d.toInt64)) * (own_absL (d.toInt64))))) (FP.i2d d))), .second, .unset, .unset]) rfl k) ?_
      show own_Fin _ _ _ _ _ _ _ T21 (mkF m 111 #[.val (.int p1), .val (.int p2), .val (.int p3), .val (.long q4), .second, .val (.int p5), .val (.int p6), .val (.int d), .val (.long (own_absL (d.toInt64))), .second, .val (.int (p2 >>> ((15 : Int32) &&& 31))), .val (.long (((p3.toInt64) &&& (2147483647 : Int64)) - ((p3.toInt64) &&& (2147483647 : Int64)) / (own_absL (d.toInt64)) * (own_absL (d.toInt64)))), .second, .val (.long ((((p2 >>> ((15 : Int32) &&& 31)).toInt64) * (d.toInt64)) + (((p3.toInt64) &&& (2147483647 : Int64)) - ((p3.toInt64) &&& (2147483647 : Int64)) / (own_absL (d.toInt64)) * (own_absL (d.toInt64))))), .second, .val (.ref b12), .val (.double (FP.ddiv (FP.l2d ((((p2 >>> ((15 : Int32) &&& 31)).toInt64) * (d.toInt64)) + (((p3.toInt64) &&& (2147483647 : Int64)) - ((p3.toInt64) &&& (2147483647 : Int64)) / (own_absL (d.toInt64)) * (own_absL (d.toInt64))))) (FP.i2d d))), .second, .unset, .unset] [])
      refine own_via (fun _ k => XS.iload X21.here hx rfl (hb hby at_111) rfl k) ?_
      show own_Fin _ _ _ _ _ _ _ T21 (mkF m 113 #[.val (.int p1), .val (.int p2), .val (.int p3), .val (.long q4), .second, .val (.int p5), .val (.int p6), .val (.int d), .val (.long (own_absL (d.toInt64))), .second, .val (.int (p2 >>> ((15 : Int32) &&& 31))), .val (.long (((p3.toInt64) &&& (2147483647 : Int64)) - ((p3.toInt64) &&& (2147483647 : Int64)) / (own_absL (d.toInt64)) * (own_absL (d.toInt64)))), .second, .val (.long ((((p2 >>> ((15 : Int32) &&& 31)).toInt64) * (d.toInt64)) + (((p3.toInt64) &&& (2147483647 : Int64)) - ((p3.toInt64) &&& (2147483647 : Int64)) / (own_absL (d.toInt64)) * (own_absL (d.toInt64))))), .second, .val (.ref b12), .val (.double (FP.ddiv (FP.l2d ((((p2 >>> ((15 : Int32) &&& 31)).toInt64) * (d.toInt64)) + (((p3.toInt64) &&& (2147483647 : Int64)) - ((p3.toInt64) &&& (2147483647 : Int64)) / (own_absL (d.toInt64)) * (own_absL (d.toInt64))))) (FP.i2d d))), .second, .unset, .unset] [(.int (p2 >>> ((15 : Int32) &&& 31)))])
      refine own_via (fun _ k => XS.i2dS X21.here hx rfl (hb hby at_113) rfl rfl k) ?_
      show own_Fin _ _ _ _ _ _ _ T21 (mkF m 114 #[.val (.int p1), .val (.int p2), .val (.int p3), .val (.long q4), .second, .val (.int p5), .val (.int p6), .val (.int d), .val (.long (own_absL (d.toInt64))), .second, .val (.int (p2 >>> ((15 : Int32) &&& 31))), .val (.long (((p3.toInt64) &&& (2147483647 : Int64)) - ((p3.toInt64) &&& (2147483647 : Int64)) / (own_absL (d.toInt64)) * (own_absL (d.toInt64)))), .second, .val (.long ((((p2 >>> ((15 : Int32) &&& 31)).toInt64) * (d.toInt64)) + (((p3.toInt64) &&& (2147483647 : Int64)) - ((p3.toInt64) &&& (2147483647 : Int64)) / (own_absL (d.toInt64)) * (own_absL (d.toInt64))))), .second, .val (.ref b12), .val (.double (FP.ddiv (FP.l2d ((((p2 >>> ((15 : Int32) &&& 31)).toInt64) * (d.toInt64)) + (((p3.toInt64) &&& (2147483647 : Int64)) - ((p3.toInt64) &&& (2147483647 : Int64)) / (own_absL (d.toInt64)) * (own_absL (d.toInt64))))) (FP.i2d d))), .second, .unset, .unset] [(.double (FP.i2d (p2 >>> ((15 : Int32) &&& 31))))])
      refine own_via (fun _ k => XS.dstore X21.here hx rfl (hb hby at_114) rfl (l' := #[.val (.int p1), .val (.int p2), .val (.int p3), .val (.long q4), .second, .val (.int p5), .val (.int p6), .val (.int d), .val (.long (own_absL (d.toInt64))), .second, .val (.int (p2 >>> ((15 : Int32) &&& 31))), .val (.long (((p3.toInt64) &&& (2147483647 : Int64)) - ((p3.toInt64) &&& (2147483647 : Int64)) / (own_absL (d.toInt64)) * (own_absL (d.toInt64)))), .second, .val (.long ((((p2 >>> ((15 : Int32) &&& 31)).toInt64) * (d.toInt64)) + (((p3.toInt64) &&& (2147483647 : Int64)) - ((p3.toInt64) &&& (2147483647 : Int64)) / (own_absL (d.toInt64)) * (own_absL (d.toInt64))))), .second, .val (.ref b12), .val (.double (FP.ddiv (FP.l2d ((((p2 >>> ((15 : Int32) &&& 31)).toInt64) * (d.toInt64)) + (((p3.toInt64) &&& (2147483647 : Int64)) - ((p3.toInt64) &&& (2147483647 : Int64)) / (own_absL (d.toInt64)) * (own_absL (d.toInt64))))) (FP.i2d d))), .second, .val (.double (FP.i2d (p2 >>> ((15 : Int32) &&& 31)))), .second]) rfl k) ?_
      show own_Fin _ _ _ _ _ _ _ T21 (mkF m 116 #[.val (.int p1), .val (.int p2), .val (.int p3), .val (.long q4), .second, .val (.int p5), .val (.int p6), .val (.int d), .val (.long (own_absL (d.toInt64))), .second, .val (.int (p2 >>> ((15 : Int32) &&& 31))), .val (.long (((p3.toInt64) &&& (2147483647 : Int64)) - ((p3.toInt64) &&& (2147483647 : Int64)) / (own_absL (d.toInt64)) * (own_absL (d.toInt64)))), .second, .val (.long ((((p2 >>> ((15 : Int32) &&& 31)).toInt64) * (d.toInt64)) + (((p3.toInt64) &&& (2147483647 : Int64)) - ((p3.toInt64) &&& (2147483647 : Int64)) / (own_absL (d.toInt64)) * (own_absL (d.toInt64))))), .second, .val (.ref b12), .val (.double (FP.ddiv (FP.l2d ((((p2 >>> ((15 : Int32) &&& 31)).toInt64) * (d.toInt64)) + (((p3.toInt64) &&& (2147483647 : Int64)) - ((p3.toInt64) &&& (2147483647 : Int64)) / (own_absL (d.toInt64)) * (own_absL (d.toInt64))))) (FP.i2d d))), .second, .val (.double (FP.i2d (p2 >>> ((15 : Int32) &&& 31)))), .second] [])
      refine own_via (fun _ k => XS.lload X21.here hx rfl (hb hby at_116) rfl k) ?_
      show own_Fin _ _ _ _ _ _ _ T21 (mkF m 118 #[.val (.int p1), .val (.int p2), .val (.int p3), .val (.long q4), .second, .val (.int p5), .val (.int p6), .val (.int d), .val (.long (own_absL (d.toInt64))), .second, .val (.int (p2 >>> ((15 : Int32) &&& 31))), .val (.long (((p3.toInt64) &&& (2147483647 : Int64)) - ((p3.toInt64) &&& (2147483647 : Int64)) / (own_absL (d.toInt64)) * (own_absL (d.toInt64)))), .second, .val (.long ((((p2 >>> ((15 : Int32) &&& 31)).toInt64) * (d.toInt64)) + (((p3.toInt64) &&& (2147483647 : Int64)) - ((p3.toInt64) &&& (2147483647 : Int64)) / (own_absL (d.toInt64)) * (own_absL (d.toInt64))))), .second, .val (.ref b12), .val (.double (FP.ddiv (FP.l2d ((((p2 >>> ((15 : Int32) &&& 31)).toInt64) * (d.toInt64)) + (((p3.toInt64) &&& (2147483647 : Int64)) - ((p3.toInt64) &&& (2147483647 : Int64)) / (own_absL (d.toInt64)) * (own_absL (d.toInt64))))) (FP.i2d d))), .second, .val (.double (FP.i2d (p2 >>> ((15 : Int32) &&& 31)))), .second] [(.long (((p3.toInt64) &&& (2147483647 : Int64)) - ((p3.toInt64) &&& (2147483647 : Int64)) / (own_absL (d.toInt64)) * (own_absL (d.toInt64))))])
      refine own_via (fun _ k => XS.lconst X21.here hx rfl (hb hby at_118) k) ?_
      show own_Fin _ _ _ _ _ _ _ T21 (mkF m 119 #[.val (.int p1), .val (.int p2), .val (.int p3), .val (.long q4), .second, .val (.int p5), .val (.int p6), .val (.int d), .val (.long (own_absL (d.toInt64))), .second, .val (.int (p2 >>> ((15 : Int32) &&& 31))), .val (.long (((p3.toInt64) &&& (2147483647 : Int64)) - ((p3.toInt64) &&& (2147483647 : Int64)) / (own_absL (d.toInt64)) * (own_absL (d.toInt64)))), .second, .val (.long ((((p2 >>> ((15 : Int32) &&& 31)).toInt64) * (d.toInt64)) + (((p3.toInt64) &&& (2147483647 : Int64)) - ((p3.toInt64) &&& (2147483647 : Int64)) / (own_absL (d.toInt64)) * (own_absL (d.toInt64))))), .second, .val (.ref b12), .val (.double (FP.ddiv (FP.l2d ((((p2 >>> ((15 : Int32) &&& 31)).toInt64) * (d.toInt64)) + (((p3.toInt64) &&& (2147483647 : Int64)) - ((p3.toInt64) &&& (2147483647 : Int64)) / (own_absL (d.toInt64)) * (own_absL (d.toInt64))))) (FP.i2d d))), .second, .val (.double (FP.i2d (p2 >>> ((15 : Int32) &&& 31)))), .second] [(.long (0 : Int64)), (.long (((p3.toInt64) &&& (2147483647 : Int64)) - ((p3.toInt64) &&& (2147483647 : Int64)) / (own_absL (d.toInt64)) * (own_absL (d.toInt64))))])
      refine own_via (fun _ k => XS.lcmp X21.here hx rfl (hb hby at_119) rfl k) ?_
      show own_Fin _ _ _ _ _ _ _ T21 (mkF m 120 #[.val (.int p1), .val (.int p2), .val (.int p3), .val (.long q4), .second, .val (.int p5), .val (.int p6), .val (.int d), .val (.long (own_absL (d.toInt64))), .second, .val (.int (p2 >>> ((15 : Int32) &&& 31))), .val (.long (((p3.toInt64) &&& (2147483647 : Int64)) - ((p3.toInt64) &&& (2147483647 : Int64)) / (own_absL (d.toInt64)) * (own_absL (d.toInt64)))), .second, .val (.long ((((p2 >>> ((15 : Int32) &&& 31)).toInt64) * (d.toInt64)) + (((p3.toInt64) &&& (2147483647 : Int64)) - ((p3.toInt64) &&& (2147483647 : Int64)) / (own_absL (d.toInt64)) * (own_absL (d.toInt64))))), .second, .val (.ref b12), .val (.double (FP.ddiv (FP.l2d ((((p2 >>> ((15 : Int32) &&& 31)).toInt64) * (d.toInt64)) + (((p3.toInt64) &&& (2147483647 : Int64)) - ((p3.toInt64) &&& (2147483647 : Int64)) / (own_absL (d.toInt64)) * (own_absL (d.toInt64))))) (FP.i2d d))), .second, .val (.double (FP.i2d (p2 >>> ((15 : Int32) &&& 31)))), .second] [(.int (lcmpW (((p3.toInt64) &&& (2147483647 : Int64)) - ((p3.toInt64) &&& (2147483647 : Int64)) / (own_absL (d.toInt64)) * (own_absL (d.toInt64))) (0 : Int64)))])
      rcases Classical.em ((lcmpW (((p3.toInt64) &&& (2147483647 : Int64)) - ((p3.toInt64) &&& (2147483647 : Int64)) / (own_absL (d.toInt64)) * (own_absL (d.toInt64))) (0 : Int64)) = (0 : Int32)) with hr | hr
      · refine own_via (fun _ k => XS.ifNo X21.here hx rfl (hb hby at_120) rfl ((if0 _ _).trans (teq hr).2) k) ?_
        show own_Fin _ _ _ _ _ _ _ T21 (mkF m 123 #[.val (.int p1), .val (.int p2), .val (.int p3), .val (.long q4), .second, .val (.int p5), .val (.int p6), .val (.int d), .val (.long (own_absL (d.toInt64))), .second, .val (.int (p2 >>> ((15 : Int32) &&& 31))), .val (.long (((p3.toInt64) &&& (2147483647 : Int64)) - ((p3.toInt64) &&& (2147483647 : Int64)) / (own_absL (d.toInt64)) * (own_absL (d.toInt64)))), .second, .val (.long ((((p2 >>> ((15 : Int32) &&& 31)).toInt64) * (d.toInt64)) + (((p3.toInt64) &&& (2147483647 : Int64)) - ((p3.toInt64) &&& (2147483647 : Int64)) / (own_absL (d.toInt64)) * (own_absL (d.toInt64))))), .second, .val (.ref b12), .val (.double (FP.ddiv (FP.l2d ((((p2 >>> ((15 : Int32) &&& 31)).toInt64) * (d.toInt64)) + (((p3.toInt64) &&& (2147483647 : Int64)) - ((p3.toInt64) &&& (2147483647 : Int64)) / (own_absL (d.toInt64)) * (own_absL (d.toInt64))))) (FP.i2d d))), .second, .val (.double (FP.i2d (p2 >>> ((15 : Int32) &&& 31)))), .second] [])
        refine own_via (fun _ k => XS.dload X21.here hx rfl (hb hby at_123) rfl k) ?_
        show own_Fin _ _ _ _ _ _ _ T21 (mkF m 125 #[.val (.int p1), .val (.int p2), .val (.int p3), .val (.long q4), .second, .val (.int p5), .val (.int p6), .val (.int d), .val (.long (own_absL (d.toInt64))), .second, .val (.int (p2 >>> ((15 : Int32) &&& 31))), .val (.long (((p3.toInt64) &&& (2147483647 : Int64)) - ((p3.toInt64) &&& (2147483647 : Int64)) / (own_absL (d.toInt64)) * (own_absL (d.toInt64)))), .second, .val (.long ((((p2 >>> ((15 : Int32) &&& 31)).toInt64) * (d.toInt64)) + (((p3.toInt64) &&& (2147483647 : Int64)) - ((p3.toInt64) &&& (2147483647 : Int64)) / (own_absL (d.toInt64)) * (own_absL (d.toInt64))))), .second, .val (.ref b12), .val (.double (FP.ddiv (FP.l2d ((((p2 >>> ((15 : Int32) &&& 31)).toInt64) * (d.toInt64)) + (((p3.toInt64) &&& (2147483647 : Int64)) - ((p3.toInt64) &&& (2147483647 : Int64)) / (own_absL (d.toInt64)) * (own_absL (d.toInt64))))) (FP.i2d d))), .second, .val (.double (FP.i2d (p2 >>> ((15 : Int32) &&& 31)))), .second] [(.double (FP.ddiv (FP.l2d ((((p2 >>> ((15 : Int32) &&& 31)).toInt64) * (d.toInt64)) + (((p3.toInt64) &&& (2147483647 : Int64)) - ((p3.toInt64) &&& (2147483647 : Int64)) / (own_absL (d.toInt64)) * (own_absL (d.toInt64))))) (FP.i2d d)))])
        refine own_via (fun _ k => XS.dload X21.here hx rfl (hb hby at_125) rfl k) ?_
        show own_Fin _ _ _ _ _ _ _ T21 (mkF m 127 #[.val (.int p1), .val (.int p2), .val (.int p3), .val (.long q4), .second, .val (.int p5), .val (.int p6), .val (.int d), .val (.long (own_absL (d.toInt64))), .second, .val (.int (p2 >>> ((15 : Int32) &&& 31))), .val (.long (((p3.toInt64) &&& (2147483647 : Int64)) - ((p3.toInt64) &&& (2147483647 : Int64)) / (own_absL (d.toInt64)) * (own_absL (d.toInt64)))), .second, .val (.long ((((p2 >>> ((15 : Int32) &&& 31)).toInt64) * (d.toInt64)) + (((p3.toInt64) &&& (2147483647 : Int64)) - ((p3.toInt64) &&& (2147483647 : Int64)) / (own_absL (d.toInt64)) * (own_absL (d.toInt64))))), .second, .val (.ref b12), .val (.double (FP.ddiv (FP.l2d ((((p2 >>> ((15 : Int32) &&& 31)).toInt64) * (d.toInt64)) + (((p3.toInt64) &&& (2147483647 : Int64)) - ((p3.toInt64) &&& (2147483647 : Int64)) / (own_absL (d.toInt64)) * (own_absL (d.toInt64))))) (FP.i2d d))), .second, .val (.double (FP.i2d (p2 >>> ((15 : Int32) &&& 31)))), .second] [(.double (FP.i2d (p2 >>> ((15 : Int32) &&& 31)))), (.double (FP.ddiv (FP.l2d ((((p2 >>> ((15 : Int32) &&& 31)).toInt64) * (d.toInt64)) + (((p3.toInt64) &&& (2147483647 : Int64)) - ((p3.toInt64) &&& (2147483647 : Int64)) / (own_absL (d.toInt64)) * (own_absL (d.toInt64))))) (FP.i2d d)))])
        refine own_via (fun _ k => XS.dcmpS X21.here hx rfl (hb hby at_127) rfl rfl k) ?_
        show own_Fin _ _ _ _ _ _ _ T21 (mkF m 128 #[.val (.int p1), .val (.int p2), .val (.int p3), .val (.long q4), .second, .val (.int p5), .val (.int p6), .val (.int d), .val (.long (own_absL (d.toInt64))), .second, .val (.int (p2 >>> ((15 : Int32) &&& 31))), .val (.long (((p3.toInt64) &&& (2147483647 : Int64)) - ((p3.toInt64) &&& (2147483647 : Int64)) / (own_absL (d.toInt64)) * (own_absL (d.toInt64)))), .second, .val (.long ((((p2 >>> ((15 : Int32) &&& 31)).toInt64) * (d.toInt64)) + (((p3.toInt64) &&& (2147483647 : Int64)) - ((p3.toInt64) &&& (2147483647 : Int64)) / (own_absL (d.toInt64)) * (own_absL (d.toInt64))))), .second, .val (.ref b12), .val (.double (FP.ddiv (FP.l2d ((((p2 >>> ((15 : Int32) &&& 31)).toInt64) * (d.toInt64)) + (((p3.toInt64) &&& (2147483647 : Int64)) - ((p3.toInt64) &&& (2147483647 : Int64)) / (own_absL (d.toInt64)) * (own_absL (d.toInt64))))) (FP.i2d d))), .second, .val (.double (FP.i2d (p2 >>> ((15 : Int32) &&& 31)))), .second] [(.int (cmpValue (FP.dcmp (FP.ddiv (FP.l2d ((((p2 >>> ((15 : Int32) &&& 31)).toInt64) * (d.toInt64)) + (((p3.toInt64) &&& (2147483647 : Int64)) - ((p3.toInt64) &&& (2147483647 : Int64)) / (own_absL (d.toInt64)) * (own_absL (d.toInt64))))) (FP.i2d d)) (FP.i2d (p2 >>> ((15 : Int32) &&& 31)))) .l))])
        refine own_via (fun _ k => XS.ifNo X21.here hx rfl (hb hby at_128) rfl ((if0 _ _).trans (teq (own_r0 p2 p3 hd hr)).2) k) ?_
        show own_Fin _ _ _ _ _ _ _ T21 (mkF m 131 #[.val (.int p1), .val (.int p2), .val (.int p3), .val (.long q4), .second, .val (.int p5), .val (.int p6), .val (.int d), .val (.long (own_absL (d.toInt64))), .second, .val (.int (p2 >>> ((15 : Int32) &&& 31))), .val (.long (((p3.toInt64) &&& (2147483647 : Int64)) - ((p3.toInt64) &&& (2147483647 : Int64)) / (own_absL (d.toInt64)) * (own_absL (d.toInt64)))), .second, .val (.long ((((p2 >>> ((15 : Int32) &&& 31)).toInt64) * (d.toInt64)) + (((p3.toInt64) &&& (2147483647 : Int64)) - ((p3.toInt64) &&& (2147483647 : Int64)) / (own_absL (d.toInt64)) * (own_absL (d.toInt64))))), .second, .val (.ref b12), .val (.double (FP.ddiv (FP.l2d ((((p2 >>> ((15 : Int32) &&& 31)).toInt64) * (d.toInt64)) + (((p3.toInt64) &&& (2147483647 : Int64)) - ((p3.toInt64) &&& (2147483647 : Int64)) / (own_absL (d.toInt64)) * (own_absL (d.toInt64))))) (FP.i2d d))), .second, .val (.double (FP.i2d (p2 >>> ((15 : Int32) &&& 31)))), .second] [])
        refine own_via (fun _ k => XS.iconst X21.here hx rfl (hb hby at_131) k) ?_
        show own_Fin _ _ _ _ _ _ _ T21 (mkF m 132 #[.val (.int p1), .val (.int p2), .val (.int p3), .val (.long q4), .second, .val (.int p5), .val (.int p6), .val (.int d), .val (.long (own_absL (d.toInt64))), .second, .val (.int (p2 >>> ((15 : Int32) &&& 31))), .val (.long (((p3.toInt64) &&& (2147483647 : Int64)) - ((p3.toInt64) &&& (2147483647 : Int64)) / (own_absL (d.toInt64)) * (own_absL (d.toInt64)))), .second, .val (.long ((((p2 >>> ((15 : Int32) &&& 31)).toInt64) * (d.toInt64)) + (((p3.toInt64) &&& (2147483647 : Int64)) - ((p3.toInt64) &&& (2147483647 : Int64)) / (own_absL (d.toInt64)) * (own_absL (d.toInt64))))), .second, .val (.ref b12), .val (.double (FP.ddiv (FP.l2d ((((p2 >>> ((15 : Int32) &&& 31)).toInt64) * (d.toInt64)) + (((p3.toInt64) &&& (2147483647 : Int64)) - ((p3.toInt64) &&& (2147483647 : Int64)) / (own_absL (d.toInt64)) * (own_absL (d.toInt64))))) (FP.i2d d))), .second, .val (.double (FP.i2d (p2 >>> ((15 : Int32) &&& 31)))), .second] [(.int (1 : Int32))])
        refine own_via (fun _ k => XS.goto X21.here hx rfl (pc0 := 132) (pc' := 136) rfl (hb hby at_132) (by decide) (by decide) k) ?_
        show own_Fin _ _ _ _ _ _ _ T21 (mkF m 136 #[.val (.int p1), .val (.int p2), .val (.int p3), .val (.long q4), .second, .val (.int p5), .val (.int p6), .val (.int d), .val (.long (own_absL (d.toInt64))), .second, .val (.int (p2 >>> ((15 : Int32) &&& 31))), .val (.long (((p3.toInt64) &&& (2147483647 : Int64)) - ((p3.toInt64) &&& (2147483647 : Int64)) / (own_absL (d.toInt64)) * (own_absL (d.toInt64)))), .second, .val (.long ((((p2 >>> ((15 : Int32) &&& 31)).toInt64) * (d.toInt64)) + (((p3.toInt64) &&& (2147483647 : Int64)) - ((p3.toInt64) &&& (2147483647 : Int64)) / (own_absL (d.toInt64)) * (own_absL (d.toInt64))))), .second, .val (.ref b12), .val (.double (FP.ddiv (FP.l2d ((((p2 >>> ((15 : Int32) &&& 31)).toInt64) * (d.toInt64)) + (((p3.toInt64) &&& (2147483647 : Int64)) - ((p3.toInt64) &&& (2147483647 : Int64)) / (own_absL (d.toInt64)) * (own_absL (d.toInt64))))) (FP.i2d d))), .second, .val (.double (FP.i2d (p2 >>> ((15 : Int32) &&& 31)))), .second] [(.int (1 : Int32))])
        exact own_retN X21 hx (t := .boolean) Bd.returns Bd.notSynchronized (by simp) (hb hby at_136) hh21 rfl ⟨rfl, N21⟩ (by decide) (by decide)
      · refine own_via (fun _ k => XS.ifYes X21.here hx rfl (pc0 := 120) (pc' := 137) rfl (hb hby at_120) rfl ((if0 _ _).trans (feq hr).2) (by decide) (by decide) k) ?_
        show own_Fin _ _ _ _ _ _ _ T21 (mkF m 137 #[.val (.int p1), .val (.int p2), .val (.int p3), .val (.long q4), .second, .val (.int p5), .val (.int p6), .val (.int d), .val (.long (own_absL (d.toInt64))), .second, .val (.int (p2 >>> ((15 : Int32) &&& 31))), .val (.long (((p3.toInt64) &&& (2147483647 : Int64)) - ((p3.toInt64) &&& (2147483647 : Int64)) / (own_absL (d.toInt64)) * (own_absL (d.toInt64)))), .second, .val (.long ((((p2 >>> ((15 : Int32) &&& 31)).toInt64) * (d.toInt64)) + (((p3.toInt64) &&& (2147483647 : Int64)) - ((p3.toInt64) &&& (2147483647 : Int64)) / (own_absL (d.toInt64)) * (own_absL (d.toInt64))))), .second, .val (.ref b12), .val (.double (FP.ddiv (FP.l2d ((((p2 >>> ((15 : Int32) &&& 31)).toInt64) * (d.toInt64)) + (((p3.toInt64) &&& (2147483647 : Int64)) - ((p3.toInt64) &&& (2147483647 : Int64)) / (own_absL (d.toInt64)) * (own_absL (d.toInt64))))) (FP.i2d d))), .second, .val (.double (FP.i2d (p2 >>> ((15 : Int32) &&& 31)))), .second] [])
        refine own_via (fun _ k => XS.iload X21.here hx rfl (hb hby at_137) rfl k) ?_
        show own_Fin _ _ _ _ _ _ _ T21 (mkF m 139 #[.val (.int p1), .val (.int p2), .val (.int p3), .val (.long q4), .second, .val (.int p5), .val (.int p6), .val (.int d), .val (.long (own_absL (d.toInt64))), .second, .val (.int (p2 >>> ((15 : Int32) &&& 31))), .val (.long (((p3.toInt64) &&& (2147483647 : Int64)) - ((p3.toInt64) &&& (2147483647 : Int64)) / (own_absL (d.toInt64)) * (own_absL (d.toInt64)))), .second, .val (.long ((((p2 >>> ((15 : Int32) &&& 31)).toInt64) * (d.toInt64)) + (((p3.toInt64) &&& (2147483647 : Int64)) - ((p3.toInt64) &&& (2147483647 : Int64)) / (own_absL (d.toInt64)) * (own_absL (d.toInt64))))), .second, .val (.ref b12), .val (.double (FP.ddiv (FP.l2d ((((p2 >>> ((15 : Int32) &&& 31)).toInt64) * (d.toInt64)) + (((p3.toInt64) &&& (2147483647 : Int64)) - ((p3.toInt64) &&& (2147483647 : Int64)) / (own_absL (d.toInt64)) * (own_absL (d.toInt64))))) (FP.i2d d))), .second, .val (.double (FP.i2d (p2 >>> ((15 : Int32) &&& 31)))), .second] [(.int d)])
        rcases Classical.em ((0 : Int32) < d) with hp | hp
        · refine own_via (fun _ k => XS.ifNo X21.here hx rfl (hb hby at_139) rfl ((if0 _ _).trans (tlt hp).2.2.2) k) ?_
          show own_Fin _ _ _ _ _ _ _ T21 (mkF m 142 #[.val (.int p1), .val (.int p2), .val (.int p3), .val (.long q4), .second, .val (.int p5), .val (.int p6), .val (.int d), .val (.long (own_absL (d.toInt64))), .second, .val (.int (p2 >>> ((15 : Int32) &&& 31))), .val (.long (((p3.toInt64) &&& (2147483647 : Int64)) - ((p3.toInt64) &&& (2147483647 : Int64)) / (own_absL (d.toInt64)) * (own_absL (d.toInt64)))), .second, .val (.long ((((p2 >>> ((15 : Int32) &&& 31)).toInt64) * (d.toInt64)) + (((p3.toInt64) &&& (2147483647 : Int64)) - ((p3.toInt64) &&& (2147483647 : Int64)) / (own_absL (d.toInt64)) * (own_absL (d.toInt64))))), .second, .val (.ref b12), .val (.double (FP.ddiv (FP.l2d ((((p2 >>> ((15 : Int32) &&& 31)).toInt64) * (d.toInt64)) + (((p3.toInt64) &&& (2147483647 : Int64)) - ((p3.toInt64) &&& (2147483647 : Int64)) / (own_absL (d.toInt64)) * (own_absL (d.toInt64))))) (FP.i2d d))), .second, .val (.double (FP.i2d (p2 >>> ((15 : Int32) &&& 31)))), .second] [])
          refine own_via (fun _ k => XS.dload X21.here hx rfl (hb hby at_142) rfl k) ?_
          show own_Fin _ _ _ _ _ _ _ T21 (mkF m 144 #[.val (.int p1), .val (.int p2), .val (.int p3), .val (.long q4), .second, .val (.int p5), .val (.int p6), .val (.int d), .val (.long (own_absL (d.toInt64))), .second, .val (.int (p2 >>> ((15 : Int32) &&& 31))), .val (.long (((p3.toInt64) &&& (2147483647 : Int64)) - ((p3.toInt64) &&& (2147483647 : Int64)) / (own_absL (d.toInt64)) * (own_absL (d.toInt64)))), .second, .val (.long ((((p2 >>> ((15 : Int32) &&& 31)).toInt64) * (d.toInt64)) + (((p3.toInt64) &&& (2147483647 : Int64)) - ((p3.toInt64) &&& (2147483647 : Int64)) / (own_absL (d.toInt64)) * (own_absL (d.toInt64))))), .second, .val (.ref b12), .val (.double (FP.ddiv (FP.l2d ((((p2 >>> ((15 : Int32) &&& 31)).toInt64) * (d.toInt64)) + (((p3.toInt64) &&& (2147483647 : Int64)) - ((p3.toInt64) &&& (2147483647 : Int64)) / (own_absL (d.toInt64)) * (own_absL (d.toInt64))))) (FP.i2d d))), .second, .val (.double (FP.i2d (p2 >>> ((15 : Int32) &&& 31)))), .second] [(.double (FP.i2d (p2 >>> ((15 : Int32) &&& 31))))])
          refine own_via (fun _ k => XS.dload X21.here hx rfl (hb hby at_144) rfl k) ?_
          show own_Fin _ _ _ _ _ _ _ T21 (mkF m 146 #[.val (.int p1), .val (.int p2), .val (.int p3), .val (.long q4), .second, .val (.int p5), .val (.int p6), .val (.int d), .val (.long (own_absL (d.toInt64))), .second, .val (.int (p2 >>> ((15 : Int32) &&& 31))), .val (.long (((p3.toInt64) &&& (2147483647 : Int64)) - ((p3.toInt64) &&& (2147483647 : Int64)) / (own_absL (d.toInt64)) * (own_absL (d.toInt64)))), .second, .val (.long ((((p2 >>> ((15 : Int32) &&& 31)).toInt64) * (d.toInt64)) + (((p3.toInt64) &&& (2147483647 : Int64)) - ((p3.toInt64) &&& (2147483647 : Int64)) / (own_absL (d.toInt64)) * (own_absL (d.toInt64))))), .second, .val (.ref b12), .val (.double (FP.ddiv (FP.l2d ((((p2 >>> ((15 : Int32) &&& 31)).toInt64) * (d.toInt64)) + (((p3.toInt64) &&& (2147483647 : Int64)) - ((p3.toInt64) &&& (2147483647 : Int64)) / (own_absL (d.toInt64)) * (own_absL (d.toInt64))))) (FP.i2d d))), .second, .val (.double (FP.i2d (p2 >>> ((15 : Int32) &&& 31)))), .second] [(.double (FP.ddiv (FP.l2d ((((p2 >>> ((15 : Int32) &&& 31)).toInt64) * (d.toInt64)) + (((p3.toInt64) &&& (2147483647 : Int64)) - ((p3.toInt64) &&& (2147483647 : Int64)) / (own_absL (d.toInt64)) * (own_absL (d.toInt64))))) (FP.i2d d))), (.double (FP.i2d (p2 >>> ((15 : Int32) &&& 31))))])
          refine own_via (fun _ k => XS.dcmpS X21.here hx rfl (hb hby at_146) rfl rfl k) ?_
          show own_Fin _ _ _ _ _ _ _ T21 (mkF m 147 #[.val (.int p1), .val (.int p2), .val (.int p3), .val (.long q4), .second, .val (.int p5), .val (.int p6), .val (.int d), .val (.long (own_absL (d.toInt64))), .second, .val (.int (p2 >>> ((15 : Int32) &&& 31))), .val (.long (((p3.toInt64) &&& (2147483647 : Int64)) - ((p3.toInt64) &&& (2147483647 : Int64)) / (own_absL (d.toInt64)) * (own_absL (d.toInt64)))), .second, .val (.long ((((p2 >>> ((15 : Int32) &&& 31)).toInt64) * (d.toInt64)) + (((p3.toInt64) &&& (2147483647 : Int64)) - ((p3.toInt64) &&& (2147483647 : Int64)) / (own_absL (d.toInt64)) * (own_absL (d.toInt64))))), .second, .val (.ref b12), .val (.double (FP.ddiv (FP.l2d ((((p2 >>> ((15 : Int32) &&& 31)).toInt64) * (d.toInt64)) + (((p3.toInt64) &&& (2147483647 : Int64)) - ((p3.toInt64) &&& (2147483647 : Int64)) / (own_absL (d.toInt64)) * (own_absL (d.toInt64))))) (FP.i2d d))), .second, .val (.double (FP.i2d (p2 >>> ((15 : Int32) &&& 31)))), .second] [(.int (cmpValue (FP.dcmp (FP.i2d (p2 >>> ((15 : Int32) &&& 31))) (FP.ddiv (FP.l2d ((((p2 >>> ((15 : Int32) &&& 31)).toInt64) * (d.toInt64)) + (((p3.toInt64) &&& (2147483647 : Int64)) - ((p3.toInt64) &&& (2147483647 : Int64)) / (own_absL (d.toInt64)) * (own_absL (d.toInt64))))) (FP.i2d d))) .g))])
          refine own_via (fun _ k => XS.ifNo X21.here hx rfl (hb hby at_147) rfl ((if0 _ _).trans (tlt (own_a1 p2 p3 hd hr hp)).2.1) k) ?_
          show own_Fin _ _ _ _ _ _ _ T21 (mkF m 150 #[.val (.int p1), .val (.int p2), .val (.int p3), .val (.long q4), .second, .val (.int p5), .val (.int p6), .val (.int d), .val (.long (own_absL (d.toInt64))), .second, .val (.int (p2 >>> ((15 : Int32) &&& 31))), .val (.long (((p3.toInt64) &&& (2147483647 : Int64)) - ((p3.toInt64) &&& (2147483647 : Int64)) / (own_absL (d.toInt64)) * (own_absL (d.toInt64)))), .second, .val (.long ((((p2 >>> ((15 : Int32) &&& 31)).toInt64) * (d.toInt64)) + (((p3.toInt64) &&& (2147483647 : Int64)) - ((p3.toInt64) &&& (2147483647 : Int64)) / (own_absL (d.toInt64)) * (own_absL (d.toInt64))))), .second, .val (.ref b12), .val (.double (FP.ddiv (FP.l2d ((((p2 >>> ((15 : Int32) &&& 31)).toInt64) * (d.toInt64)) + (((p3.toInt64) &&& (2147483647 : Int64)) - ((p3.toInt64) &&& (2147483647 : Int64)) / (own_absL (d.toInt64)) * (own_absL (d.toInt64))))) (FP.i2d d))), .second, .val (.double (FP.i2d (p2 >>> ((15 : Int32) &&& 31)))), .second] [])
          refine own_via (fun _ k => XS.dload X21.here hx rfl (hb hby at_150) rfl k) ?_
          show own_Fin _ _ _ _ _ _ _ T21 (mkF m 152 #[.val (.int p1), .val (.int p2), .val (.int p3), .val (.long q4), .second, .val (.int p5), .val (.int p6), .val (.int d), .val (.long (own_absL (d.toInt64))), .second, .val (.int (p2 >>> ((15 : Int32) &&& 31))), .val (.long (((p3.toInt64) &&& (2147483647 : Int64)) - ((p3.toInt64) &&& (2147483647 : Int64)) / (own_absL (d.toInt64)) * (own_absL (d.toInt64)))), .second, .val (.long ((((p2 >>> ((15 : Int32) &&& 31)).toInt64) * (d.toInt64)) + (((p3.toInt64) &&& (2147483647 : Int64)) - ((p3.toInt64) &&& (2147483647 : Int64)) / (own_absL (d.toInt64)) * (own_absL (d.toInt64))))), .second, .val (.ref b12), .val (.double (FP.ddiv (FP.l2d ((((p2 >>> ((15 : Int32) &&& 31)).toInt64) * (d.toInt64)) + (((p3.toInt64) &&& (2147483647 : Int64)) - ((p3.toInt64) &&& (2147483647 : Int64)) / (own_absL (d.toInt64)) * (own_absL (d.toInt64))))) (FP.i2d d))), .second, .val (.double (FP.i2d (p2 >>> ((15 : Int32) &&& 31)))), .second] [(.double (FP.ddiv (FP.l2d ((((p2 >>> ((15 : Int32) &&& 31)).toInt64) * (d.toInt64)) + (((p3.toInt64) &&& (2147483647 : Int64)) - ((p3.toInt64) &&& (2147483647 : Int64)) / (own_absL (d.toInt64)) * (own_absL (d.toInt64))))) (FP.i2d d)))])
          refine own_via (fun _ k => XS.iload X21.here hx rfl (hb hby at_152) rfl k) ?_
          show own_Fin _ _ _ _ _ _ _ T21 (mkF m 154 #[.val (.int p1), .val (.int p2), .val (.int p3), .val (.long q4), .second, .val (.int p5), .val (.int p6), .val (.int d), .val (.long (own_absL (d.toInt64))), .second, .val (.int (p2 >>> ((15 : Int32) &&& 31))), .val (.long (((p3.toInt64) &&& (2147483647 : Int64)) - ((p3.toInt64) &&& (2147483647 : Int64)) / (own_absL (d.toInt64)) * (own_absL (d.toInt64)))), .second, .val (.long ((((p2 >>> ((15 : Int32) &&& 31)).toInt64) * (d.toInt64)) + (((p3.toInt64) &&& (2147483647 : Int64)) - ((p3.toInt64) &&& (2147483647 : Int64)) / (own_absL (d.toInt64)) * (own_absL (d.toInt64))))), .second, .val (.ref b12), .val (.double (FP.ddiv (FP.l2d ((((p2 >>> ((15 : Int32) &&& 31)).toInt64) * (d.toInt64)) + (((p3.toInt64) &&& (2147483647 : Int64)) - ((p3.toInt64) &&& (2147483647 : Int64)) / (own_absL (d.toInt64)) * (own_absL (d.toInt64))))) (FP.i2d d))), .second, .val (.double (FP.i2d (p2 >>> ((15 : Int32) &&& 31)))), .second] [(.int (p2 >>> ((15 : Int32) &&& 31))), (.double (FP.ddiv (FP.l2d ((((p2 >>> ((15 : Int32) &&& 31)).toInt64) * (d.toInt64)) + (((p3.toInt64) &&& (2147483647 : Int64)) - ((p3.toInt64) &&& (2147483647 : Int64)) / (own_absL (d.toInt64)) * (own_absL (d.toInt64))))) (FP.i2d d)))])
          refine own_via (fun _ k => XS.iconst X21.here hx rfl (hb hby at_154) k) ?_
          show own_Fin _ _ _ _ _ _ _ T21 (mkF m 155 #[.val (.int p1), .val (.int p2), .val (.int p3), .val (.long q4), .second, .val (.int p5), .val (.int p6), .val (.int d), .val (.long (own_absL (d.toInt64))), .second, .val (.int (p2 >>> ((15 : Int32) &&& 31))), .val (.long (((p3.toInt64) &&& (2147483647 : Int64)) - ((p3.toInt64) &&& (2147483647 : Int64)) / (own_absL (d.toInt64)) * (own_absL (d.toInt64)))), .second, .val (.long ((((p2 >>> ((15 : Int32) &&& 31)).toInt64) * (d.toInt64)) + (((p3.toInt64) &&& (2147483647 : Int64)) - ((p3.toInt64) &&& (2147483647 : Int64)) / (own_absL (d.toInt64)) * (own_absL (d.toInt64))))), .second, .val (.ref b12), .val (.double (FP.ddiv (FP.l2d ((((p2 >>> ((15 : Int32) &&& 31)).toInt64) * (d.toInt64)) + (((p3.toInt64) &&& (2147483647 : Int64)) - ((p3.toInt64) &&& (2147483647 : Int64)) / (own_absL (d.toInt64)) * (own_absL (d.toInt64))))) (FP.i2d d))), .second, .val (.double (FP.i2d (p2 >>> ((15 : Int32) &&& 31)))), .second] [(.int (1 : Int32)), (.int (p2 >>> ((15 : Int32) &&& 31))), (.double (FP.ddiv (FP.l2d ((((p2 >>> ((15 : Int32) &&& 31)).toInt64) * (d.toInt64)) + (((p3.toInt64) &&& (2147483647 : Int64)) - ((p3.toInt64) &&& (2147483647 : Int64)) / (own_absL (d.toInt64)) * (own_absL (d.toInt64))))) (FP.i2d d)))])
          refine own_via (fun _ k => XS.iadd X21.here hx rfl (hb hby at_155) rfl k) ?_
          show own_Fin _ _ _ _ _ _ _ T21 (mkF m 156 #[.val (.int p1), .val (.int p2), .val (.int p3), .val (.long q4), .second, .val (.int p5), .val (.int p6), .val (.int d), .val (.long (own_absL (d.toInt64))), .second, .val (.int (p2 >>> ((15 : Int32) &&& 31))), .val (.long (((p3.toInt64) &&& (2147483647 : Int64)) - ((p3.toInt64) &&& (2147483647 : Int64)) / (own_absL (d.toInt64)) * (own_absL (d.toInt64)))), .second, .val (.long ((((p2 >>> ((15 : Int32) &&& 31)).toInt64) * (d.toInt64)) + (((p3.toInt64) &&& (2147483647 : Int64)) - ((p3.toInt64) &&& (2147483647 : Int64)) / (own_absL (d.toInt64)) * (own_absL (d.toInt64))))), .second, .val (.ref b12), .val (.double (FP.ddiv (FP.l2d ((((p2 >>> ((15 : Int32) &&& 31)).toInt64) * (d.toInt64)) + (((p3.toInt64) &&& (2147483647 : Int64)) - ((p3.toInt64) &&& (2147483647 : Int64)) / (own_absL (d.toInt64)) * (own_absL (d.toInt64))))) (FP.i2d d))), .second, .val (.double (FP.i2d (p2 >>> ((15 : Int32) &&& 31)))), .second] [(.int ((p2 >>> ((15 : Int32) &&& 31)) + (1 : Int32))), (.double (FP.ddiv (FP.l2d ((((p2 >>> ((15 : Int32) &&& 31)).toInt64) * (d.toInt64)) + (((p3.toInt64) &&& (2147483647 : Int64)) - ((p3.toInt64) &&& (2147483647 : Int64)) / (own_absL (d.toInt64)) * (own_absL (d.toInt64))))) (FP.i2d d)))])
          refine own_via (fun _ k => XS.i2dS X21.here hx rfl (hb hby at_156) rfl rfl k) ?_
          show own_Fin _ _ _ _ _ _ _ T21 (mkF m 157 #[.val (.int p1), .val (.int p2), .val (.int p3), .val (.long q4), .second, .val (.int p5), .val (.int p6), .val (.int d), .val (.long (own_absL (d.toInt64))), .second, .val (.int (p2 >>> ((15 : Int32) &&& 31))), .val (.long (((p3.toInt64) &&& (2147483647 : Int64)) - ((p3.toInt64) &&& (2147483647 : Int64)) / (own_absL (d.toInt64)) * (own_absL (d.toInt64)))), .second, .val (.long ((((p2 >>> ((15 : Int32) &&& 31)).toInt64) * (d.toInt64)) + (((p3.toInt64) &&& (2147483647 : Int64)) - ((p3.toInt64) &&& (2147483647 : Int64)) / (own_absL (d.toInt64)) * (own_absL (d.toInt64))))), .second, .val (.ref b12), .val (.double (FP.ddiv (FP.l2d ((((p2 >>> ((15 : Int32) &&& 31)).toInt64) * (d.toInt64)) + (((p3.toInt64) &&& (2147483647 : Int64)) - ((p3.toInt64) &&& (2147483647 : Int64)) / (own_absL (d.toInt64)) * (own_absL (d.toInt64))))) (FP.i2d d))), .second, .val (.double (FP.i2d (p2 >>> ((15 : Int32) &&& 31)))), .second] [(.double (FP.i2d ((p2 >>> ((15 : Int32) &&& 31)) + (1 : Int32)))), (.double (FP.ddiv (FP.l2d ((((p2 >>> ((15 : Int32) &&& 31)).toInt64) * (d.toInt64)) + (((p3.toInt64) &&& (2147483647 : Int64)) - ((p3.toInt64) &&& (2147483647 : Int64)) / (own_absL (d.toInt64)) * (own_absL (d.toInt64))))) (FP.i2d d)))])
          refine own_via (fun _ k => XS.dcmpS X21.here hx rfl (hb hby at_157) rfl rfl k) ?_
          show own_Fin _ _ _ _ _ _ _ T21 (mkF m 158 #[.val (.int p1), .val (.int p2), .val (.int p3), .val (.long q4), .second, .val (.int p5), .val (.int p6), .val (.int d), .val (.long (own_absL (d.toInt64))), .second, .val (.int (p2 >>> ((15 : Int32) &&& 31))), .val (.long (((p3.toInt64) &&& (2147483647 : Int64)) - ((p3.toInt64) &&& (2147483647 : Int64)) / (own_absL (d.toInt64)) * (own_absL (d.toInt64)))), .second, .val (.long ((((p2 >>> ((15 : Int32) &&& 31)).toInt64) * (d.toInt64)) + (((p3.toInt64) &&& (2147483647 : Int64)) - ((p3.toInt64) &&& (2147483647 : Int64)) / (own_absL (d.toInt64)) * (own_absL (d.toInt64))))), .second, .val (.ref b12), .val (.double (FP.ddiv (FP.l2d ((((p2 >>> ((15 : Int32) &&& 31)).toInt64) * (d.toInt64)) + (((p3.toInt64) &&& (2147483647 : Int64)) - ((p3.toInt64) &&& (2147483647 : Int64)) / (own_absL (d.toInt64)) * (own_absL (d.toInt64))))) (FP.i2d d))), .second, .val (.double (FP.i2d (p2 >>> ((15 : Int32) &&& 31)))), .second] [(.int (cmpValue (FP.dcmp (FP.ddiv (FP.l2d ((((p2 >>> ((15 : Int32) &&& 31)).toInt64) * (d.toInt64)) + (((p3.toInt64) &&& (2147483647 : Int64)) - ((p3.toInt64) &&& (2147483647 : Int64)) / (own_absL (d.toInt64)) * (own_absL (d.toInt64))))) (FP.i2d d)) (FP.i2d ((p2 >>> ((15 : Int32) &&& 31)) + (1 : Int32)))) .g))])
          refine own_via (fun _ k => XS.ifNo X21.here hx rfl (hb hby at_158) rfl ((if0 _ _).trans (tlt (own_a2 p2 p3 hd hr hp)).2.1) k) ?_
          show own_Fin _ _ _ _ _ _ _ T21 (mkF m 161 #[.val (.int p1), .val (.int p2), .val (.int p3), .val (.long q4), .second, .val (.int p5), .val (.int p6), .val (.int d), .val (.long (own_absL (d.toInt64))), .second, .val (.int (p2 >>> ((15 : Int32) &&& 31))), .val (.long (((p3.toInt64) &&& (2147483647 : Int64)) - ((p3.toInt64) &&& (2147483647 : Int64)) / (own_absL (d.toInt64)) * (own_absL (d.toInt64)))), .second, .val (.long ((((p2 >>> ((15 : Int32) &&& 31)).toInt64) * (d.toInt64)) + (((p3.toInt64) &&& (2147483647 : Int64)) - ((p3.toInt64) &&& (2147483647 : Int64)) / (own_absL (d.toInt64)) * (own_absL (d.toInt64))))), .second, .val (.ref b12), .val (.double (FP.ddiv (FP.l2d ((((p2 >>> ((15 : Int32) &&& 31)).toInt64) * (d.toInt64)) + (((p3.toInt64) &&& (2147483647 : Int64)) - ((p3.toInt64) &&& (2147483647 : Int64)) / (own_absL (d.toInt64)) * (own_absL (d.toInt64))))) (FP.i2d d))), .second, .val (.double (FP.i2d (p2 >>> ((15 : Int32) &&& 31)))), .second] [])
          refine own_via (fun _ k => XS.iconst X21.here hx rfl (hb hby at_161) k) ?_
          show own_Fin _ _ _ _ _ _ _ T21 (mkF m 162 #[.val (.int p1), .val (.int p2), .val (.int p3), .val (.long q4), .second, .val (.int p5), .val (.int p6), .val (.int d), .val (.long (own_absL (d.toInt64))), .second, .val (.int (p2 >>> ((15 : Int32) &&& 31))), .val (.long (((p3.toInt64) &&& (2147483647 : Int64)) - ((p3.toInt64) &&& (2147483647 : Int64)) / (own_absL (d.toInt64)) * (own_absL (d.toInt64)))), .second, .val (.long ((((p2 >>> ((15 : Int32) &&& 31)).toInt64) * (d.toInt64)) + (((p3.toInt64) &&& (2147483647 : Int64)) - ((p3.toInt64) &&& (2147483647 : Int64)) / (own_absL (d.toInt64)) * (own_absL (d.toInt64))))), .second, .val (.ref b12), .val (.double (FP.ddiv (FP.l2d ((((p2 >>> ((15 : Int32) &&& 31)).toInt64) * (d.toInt64)) + (((p3.toInt64) &&& (2147483647 : Int64)) - ((p3.toInt64) &&& (2147483647 : Int64)) / (own_absL (d.toInt64)) * (own_absL (d.toInt64))))) (FP.i2d d))), .second, .val (.double (FP.i2d (p2 >>> ((15 : Int32) &&& 31)))), .second] [(.int (1 : Int32))])
          refine own_via (fun _ k => XS.goto X21.here hx rfl (pc0 := 162) (pc' := 166) rfl (hb hby at_162) (by decide) (by decide) k) ?_
          show own_Fin _ _ _ _ _ _ _ T21 (mkF m 166 #[.val (.int p1), .val (.int p2), .val (.int p3), .val (.long q4), .second, .val (.int p5), .val (.int p6), .val (.int d), .val (.long (own_absL (d.toInt64))), .second, .val (.int (p2 >>> ((15 : Int32) &&& 31))), .val (.long (((p3.toInt64) &&& (2147483647 : Int64)) - ((p3.toInt64) &&& (2147483647 : Int64)) / (own_absL (d.toInt64)) * (own_absL (d.toInt64)))), .second, .val (.long ((((p2 >>> ((15 : Int32) &&& 31)).toInt64) * (d.toInt64)) + (((p3.toInt64) &&& (2147483647 : Int64)) - ((p3.toInt64) &&& (2147483647 : Int64)) / (own_absL (d.toInt64)) * (own_absL (d.toInt64))))), .second, .val (.ref b12), .val (.double (FP.ddiv (FP.l2d ((((p2 >>> ((15 : Int32) &&& 31)).toInt64) * (d.toInt64)) + (((p3.toInt64) &&& (2147483647 : Int64)) - ((p3.toInt64) &&& (2147483647 : Int64)) / (own_absL (d.toInt64)) * (own_absL (d.toInt64))))) (FP.i2d d))), .second, .val (.double (FP.i2d (p2 >>> ((15 : Int32) &&& 31)))), .second] [(.int (1 : Int32))])
          exact own_retN X21 hx (t := .boolean) Bd.returns Bd.notSynchronized (by simp) (hb hby at_166) hh21 rfl ⟨rfl, N21⟩ (by decide) (by decide)
        · refine own_via (fun _ k => XS.ifYes X21.here hx rfl (pc0 := 139) (pc' := 167) rfl (hb hby at_139) rfl ((if0 _ _).trans (flt hp).2.2.2) (by decide) (by decide) k) ?_
          show own_Fin _ _ _ _ _ _ _ T21 (mkF m 167 #[.val (.int p1), .val (.int p2), .val (.int p3), .val (.long q4), .second, .val (.int p5), .val (.int p6), .val (.int d), .val (.long (own_absL (d.toInt64))), .second, .val (.int (p2 >>> ((15 : Int32) &&& 31))), .val (.long (((p3.toInt64) &&& (2147483647 : Int64)) - ((p3.toInt64) &&& (2147483647 : Int64)) / (own_absL (d.toInt64)) * (own_absL (d.toInt64)))), .second, .val (.long ((((p2 >>> ((15 : Int32) &&& 31)).toInt64) * (d.toInt64)) + (((p3.toInt64) &&& (2147483647 : Int64)) - ((p3.toInt64) &&& (2147483647 : Int64)) / (own_absL (d.toInt64)) * (own_absL (d.toInt64))))), .second, .val (.ref b12), .val (.double (FP.ddiv (FP.l2d ((((p2 >>> ((15 : Int32) &&& 31)).toInt64) * (d.toInt64)) + (((p3.toInt64) &&& (2147483647 : Int64)) - ((p3.toInt64) &&& (2147483647 : Int64)) / (own_absL (d.toInt64)) * (own_absL (d.toInt64))))) (FP.i2d d))), .second, .val (.double (FP.i2d (p2 >>> ((15 : Int32) &&& 31)))), .second] [])
          refine own_via (fun _ k => XS.iload X21.here hx rfl (hb hby at_167) rfl k) ?_
          show own_Fin _ _ _ _ _ _ _ T21 (mkF m 169 #[.val (.int p1), .val (.int p2), .val (.int p3), .val (.long q4), .second, .val (.int p5), .val (.int p6), .val (.int d), .val (.long (own_absL (d.toInt64))), .second, .val (.int (p2 >>> ((15 : Int32) &&& 31))), .val (.long (((p3.toInt64) &&& (2147483647 : Int64)) - ((p3.toInt64) &&& (2147483647 : Int64)) / (own_absL (d.toInt64)) * (own_absL (d.toInt64)))), .second, .val (.long ((((p2 >>> ((15 : Int32) &&& 31)).toInt64) * (d.toInt64)) + (((p3.toInt64) &&& (2147483647 : Int64)) - ((p3.toInt64) &&& (2147483647 : Int64)) / (own_absL (d.toInt64)) * (own_absL (d.toInt64))))), .second, .val (.ref b12), .val (.double (FP.ddiv (FP.l2d ((((p2 >>> ((15 : Int32) &&& 31)).toInt64) * (d.toInt64)) + (((p3.toInt64) &&& (2147483647 : Int64)) - ((p3.toInt64) &&& (2147483647 : Int64)) / (own_absL (d.toInt64)) * (own_absL (d.toInt64))))) (FP.i2d d))), .second, .val (.double (FP.i2d (p2 >>> ((15 : Int32) &&& 31)))), .second] [(.int (p2 >>> ((15 : Int32) &&& 31)))])
          refine own_via (fun _ k => XS.iconst X21.here hx rfl (hb hby at_169) k) ?_
          show own_Fin _ _ _ _ _ _ _ T21 (mkF m 170 #[.val (.int p1), .val (.int p2), .val (.int p3), .val (.long q4), .second, .val (.int p5), .val (.int p6), .val (.int d), .val (.long (own_absL (d.toInt64))), .second, .val (.int (p2 >>> ((15 : Int32) &&& 31))), .val (.long (((p3.toInt64) &&& (2147483647 : Int64)) - ((p3.toInt64) &&& (2147483647 : Int64)) / (own_absL (d.toInt64)) * (own_absL (d.toInt64)))), .second, .val (.long ((((p2 >>> ((15 : Int32) &&& 31)).toInt64) * (d.toInt64)) + (((p3.toInt64) &&& (2147483647 : Int64)) - ((p3.toInt64) &&& (2147483647 : Int64)) / (own_absL (d.toInt64)) * (own_absL (d.toInt64))))), .second, .val (.ref b12), .val (.double (FP.ddiv (FP.l2d ((((p2 >>> ((15 : Int32) &&& 31)).toInt64) * (d.toInt64)) + (((p3.toInt64) &&& (2147483647 : Int64)) - ((p3.toInt64) &&& (2147483647 : Int64)) / (own_absL (d.toInt64)) * (own_absL (d.toInt64))))) (FP.i2d d))), .second, .val (.double (FP.i2d (p2 >>> ((15 : Int32) &&& 31)))), .second] [(.int (1 : Int32)), (.int (p2 >>> ((15 : Int32) &&& 31)))])
          refine own_via (fun _ k => XS.isub X21.here hx rfl (hb hby at_170) rfl k) ?_
          show own_Fin _ _ _ _ _ _ _ T21 (mkF m 171 #[.val (.int p1), .val (.int p2), .val (.int p3), .val (.long q4), .second, .val (.int p5), .val (.int p6), .val (.int d), .val (.long (own_absL (d.toInt64))), .second, .val (.int (p2 >>> ((15 : Int32) &&& 31))), .val (.long (((p3.toInt64) &&& (2147483647 : Int64)) - ((p3.toInt64) &&& (2147483647 : Int64)) / (own_absL (d.toInt64)) * (own_absL (d.toInt64)))), .second, .val (.long ((((p2 >>> ((15 : Int32) &&& 31)).toInt64) * (d.toInt64)) + (((p3.toInt64) &&& (2147483647 : Int64)) - ((p3.toInt64) &&& (2147483647 : Int64)) / (own_absL (d.toInt64)) * (own_absL (d.toInt64))))), .second, .val (.ref b12), .val (.double (FP.ddiv (FP.l2d ((((p2 >>> ((15 : Int32) &&& 31)).toInt64) * (d.toInt64)) + (((p3.toInt64) &&& (2147483647 : Int64)) - ((p3.toInt64) &&& (2147483647 : Int64)) / (own_absL (d.toInt64)) * (own_absL (d.toInt64))))) (FP.i2d d))), .second, .val (.double (FP.i2d (p2 >>> ((15 : Int32) &&& 31)))), .second] [(.int ((p2 >>> ((15 : Int32) &&& 31)) - (1 : Int32)))])
          refine own_via (fun _ k => XS.i2dS X21.here hx rfl (hb hby at_171) rfl rfl k) ?_
          show own_Fin _ _ _ _ _ _ _ T21 (mkF m 172 #[.val (.int p1), .val (.int p2), .val (.int p3), .val (.long q4), .second, .val (.int p5), .val (.int p6), .val (.int d), .val (.long (own_absL (d.toInt64))), .second, .val (.int (p2 >>> ((15 : Int32) &&& 31))), .val (.long (((p3.toInt64) &&& (2147483647 : Int64)) - ((p3.toInt64) &&& (2147483647 : Int64)) / (own_absL (d.toInt64)) * (own_absL (d.toInt64)))), .second, .val (.long ((((p2 >>> ((15 : Int32) &&& 31)).toInt64) * (d.toInt64)) + (((p3.toInt64) &&& (2147483647 : Int64)) - ((p3.toInt64) &&& (2147483647 : Int64)) / (own_absL (d.toInt64)) * (own_absL (d.toInt64))))), .second, .val (.ref b12), .val (.double (FP.ddiv (FP.l2d ((((p2 >>> ((15 : Int32) &&& 31)).toInt64) * (d.toInt64)) + (((p3.toInt64) &&& (2147483647 : Int64)) - ((p3.toInt64) &&& (2147483647 : Int64)) / (own_absL (d.toInt64)) * (own_absL (d.toInt64))))) (FP.i2d d))), .second, .val (.double (FP.i2d (p2 >>> ((15 : Int32) &&& 31)))), .second] [(.double (FP.i2d ((p2 >>> ((15 : Int32) &&& 31)) - (1 : Int32))))])
          refine own_via (fun _ k => XS.dload X21.here hx rfl (hb hby at_172) rfl k) ?_
          show own_Fin _ _ _ _ _ _ _ T21 (mkF m 174 #[.val (.int p1), .val (.int p2), .val (.int p3), .val (.long q4), .second, .val (.int p5), .val (.int p6), .val (.int d), .val (.long (own_absL (d.toInt64))), .second, .val (.int (p2 >>> ((15 : Int32) &&& 31))), .val (.long (((p3.toInt64) &&& (2147483647 : Int64)) - ((p3.toInt64) &&& (2147483647 : Int64)) / (own_absL (d.toInt64)) * (own_absL (d.toInt64)))), .second, .val (.long ((((p2 >>> ((15 : Int32) &&& 31)).toInt64) * (d.toInt64)) + (((p3.toInt64) &&& (2147483647 : Int64)) - ((p3.toInt64) &&& (2147483647 : Int64)) / (own_absL (d.toInt64)) * (own_absL (d.toInt64))))), .second, .val (.ref b12), .val (.double (FP.ddiv (FP.l2d ((((p2 >>> ((15 : Int32) &&& 31)).toInt64) * (d.toInt64)) + (((p3.toInt64) &&& (2147483647 : Int64)) - ((p3.toInt64) &&& (2147483647 : Int64)) / (own_absL (d.toInt64)) * (own_absL (d.toInt64))))) (FP.i2d d))), .second, .val (.double (FP.i2d (p2 >>> ((15 : Int32) &&& 31)))), .second] [(.double (FP.ddiv (FP.l2d ((((p2 >>> ((15 : Int32) &&& 31)).toInt64) * (d.toInt64)) + (((p3.toInt64) &&& (2147483647 : Int64)) - ((p3.toInt64) &&& (2147483647 : Int64)) / (own_absL (d.toInt64)) * (own_absL (d.toInt64))))) (FP.i2d d))), (.double (FP.i2d ((p2 >>> ((15 : Int32) &&& 31)) - (1 : Int32))))])
          refine own_via (fun _ k => XS.dcmpS X21.here hx rfl (hb hby at_174) rfl rfl k) ?_
          show own_Fin _ _ _ _ _ _ _ T21 (mkF m 175 #[.val (.int p1), .val (.int p2), .val (.int p3), .val (.long q4), .second, .val (.int p5), .val (.int p6), .val (.int d), .val (.long (own_absL (d.toInt64))), .second, .val (.int (p2 >>> ((15 : Int32) &&& 31))), .val (.long (((p3.toInt64) &&& (2147483647 : Int64)) - ((p3.toInt64) &&& (2147483647 : Int64)) / (own_absL (d.toInt64)) * (own_absL (d.toInt64)))), .second, .val (.long ((((p2 >>> ((15 : Int32) &&& 31)).toInt64) * (d.toInt64)) + (((p3.toInt64) &&& (2147483647 : Int64)) - ((p3.toInt64) &&& (2147483647 : Int64)) / (own_absL (d.toInt64)) * (own_absL (d.toInt64))))), .second, .val (.ref b12), .val (.double (FP.ddiv (FP.l2d ((((p2 >>> ((15 : Int32) &&& 31)).toInt64) * (d.toInt64)) + (((p3.toInt64) &&& (2147483647 : Int64)) - ((p3.toInt64) &&& (2147483647 : Int64)) / (own_absL (d.toInt64)) * (own_absL (d.toInt64))))) (FP.i2d d))), .second, .val (.double (FP.i2d (p2 >>> ((15 : Int32) &&& 31)))), .second] [(.int (cmpValue (FP.dcmp (FP.i2d ((p2 >>> ((15 : Int32) &&& 31)) - (1 : Int32))) (FP.ddiv (FP.l2d ((((p2 >>> ((15 : Int32) &&& 31)).toInt64) * (d.toInt64)) + (((p3.toInt64) &&& (2147483647 : Int64)) - ((p3.toInt64) &&& (2147483647 : Int64)) / (own_absL (d.toInt64)) * (own_absL (d.toInt64))))) (FP.i2d d))) .g))])
          refine own_via (fun _ k => XS.ifNo X21.here hx rfl (hb hby at_175) rfl ((if0 _ _).trans (tlt (own_b1 p2 p3 hd hr hp)).2.1) k) ?_
          show own_Fin _ _ _ _ _ _ _ T21 (mkF m 178 #[.val (.int p1), .val (.int p2), .val (.int p3), .val (.long q4), .second, .val (.int p5), .val (.int p6), .val (.int d), .val (.long (own_absL (d.toInt64))), .second, .val (.int (p2 >>> ((15 : Int32) &&& 31))), .val (.long (((p3.toInt64) &&& (2147483647 : Int64)) - ((p3.toInt64) &&& (2147483647 : Int64)) / (own_absL (d.toInt64)) * (own_absL (d.toInt64)))), .second, .val (.long ((((p2 >>> ((15 : Int32) &&& 31)).toInt64) * (d.toInt64)) + (((p3.toInt64) &&& (2147483647 : Int64)) - ((p3.toInt64) &&& (2147483647 : Int64)) / (own_absL (d.toInt64)) * (own_absL (d.toInt64))))), .second, .val (.ref b12), .val (.double (FP.ddiv (FP.l2d ((((p2 >>> ((15 : Int32) &&& 31)).toInt64) * (d.toInt64)) + (((p3.toInt64) &&& (2147483647 : Int64)) - ((p3.toInt64) &&& (2147483647 : Int64)) / (own_absL (d.toInt64)) * (own_absL (d.toInt64))))) (FP.i2d d))), .second, .val (.double (FP.i2d (p2 >>> ((15 : Int32) &&& 31)))), .second] [])
          refine own_via (fun _ k => XS.dload X21.here hx rfl (hb hby at_178) rfl k) ?_
          show own_Fin _ _ _ _ _ _ _ T21 (mkF m 180 #[.val (.int p1), .val (.int p2), .val (.int p3), .val (.long q4), .second, .val (.int p5), .val (.int p6), .val (.int d), .val (.long (own_absL (d.toInt64))), .second, .val (.int (p2 >>> ((15 : Int32) &&& 31))), .val (.long (((p3.toInt64) &&& (2147483647 : Int64)) - ((p3.toInt64) &&& (2147483647 : Int64)) / (own_absL (d.toInt64)) * (own_absL (d.toInt64)))), .second, .val (.long ((((p2 >>> ((15 : Int32) &&& 31)).toInt64) * (d.toInt64)) + (((p3.toInt64) &&& (2147483647 : Int64)) - ((p3.toInt64) &&& (2147483647 : Int64)) / (own_absL (d.toInt64)) * (own_absL (d.toInt64))))), .second, .val (.ref b12), .val (.double (FP.ddiv (FP.l2d ((((p2 >>> ((15 : Int32) &&& 31)).toInt64) * (d.toInt64)) + (((p3.toInt64) &&& (2147483647 : Int64)) - ((p3.toInt64) &&& (2147483647 : Int64)) / (own_absL (d.toInt64)) * (own_absL (d.toInt64))))) (FP.i2d d))), .second, .val (.double (FP.i2d (p2 >>> ((15 : Int32) &&& 31)))), .second] [(.double (FP.ddiv (FP.l2d ((((p2 >>> ((15 : Int32) &&& 31)).toInt64) * (d.toInt64)) + (((p3.toInt64) &&& (2147483647 : Int64)) - ((p3.toInt64) &&& (2147483647 : Int64)) / (own_absL (d.toInt64)) * (own_absL (d.toInt64))))) (FP.i2d d)))])
          refine own_via (fun _ k => XS.dload X21.here hx rfl (hb hby at_180) rfl k) ?_
          show own_Fin _ _ _ _ _ _ _ T21 (mkF m 182 #[.val (.int p1), .val (.int p2), .val (.int p3), .val (.long q4), .second, .val (.int p5), .val (.int p6), .val (.int d), .val (.long (own_absL (d.toInt64))), .second, .val (.int (p2 >>> ((15 : Int32) &&& 31))), .val (.long (((p3.toInt64) &&& (2147483647 : Int64)) - ((p3.toInt64) &&& (2147483647 : Int64)) / (own_absL (d.toInt64)) * (own_absL (d.toInt64)))), .second, .val (.long ((((p2 >>> ((15 : Int32) &&& 31)).toInt64) * (d.toInt64)) + (((p3.toInt64) &&& (2147483647 : Int64)) - ((p3.toInt64) &&& (2147483647 : Int64)) / (own_absL (d.toInt64)) * (own_absL (d.toInt64))))), .second, .val (.ref b12), .val (.double (FP.ddiv (FP.l2d ((((p2 >>> ((15 : Int32) &&& 31)).toInt64) * (d.toInt64)) + (((p3.toInt64) &&& (2147483647 : Int64)) - ((p3.toInt64) &&& (2147483647 : Int64)) / (own_absL (d.toInt64)) * (own_absL (d.toInt64))))) (FP.i2d d))), .second, .val (.double (FP.i2d (p2 >>> ((15 : Int32) &&& 31)))), .second] [(.double (FP.i2d (p2 >>> ((15 : Int32) &&& 31)))), (.double (FP.ddiv (FP.l2d ((((p2 >>> ((15 : Int32) &&& 31)).toInt64) * (d.toInt64)) + (((p3.toInt64) &&& (2147483647 : Int64)) - ((p3.toInt64) &&& (2147483647 : Int64)) / (own_absL (d.toInt64)) * (own_absL (d.toInt64))))) (FP.i2d d)))])
          refine own_via (fun _ k => XS.dcmpS X21.here hx rfl (hb hby at_182) rfl rfl k) ?_
          show own_Fin _ _ _ _ _ _ _ T21 (mkF m 183 #[.val (.int p1), .val (.int p2), .val (.int p3), .val (.long q4), .second, .val (.int p5), .val (.int p6), .val (.int d), .val (.long (own_absL (d.toInt64))), .second, .val (.int (p2 >>> ((15 : Int32) &&& 31))), .val (.long (((p3.toInt64) &&& (2147483647 : Int64)) - ((p3.toInt64) &&& (2147483647 : Int64)) / (own_absL (d.toInt64)) * (own_absL (d.toInt64)))), .second, .val (.long ((((p2 >>> ((15 : Int32) &&& 31)).toInt64) * (d.toInt64)) + (((p3.toInt64) &&& (2147483647 : Int64)) - ((p3.toInt64) &&& (2147483647 : Int64)) / (own_absL (d.toInt64)) * (own_absL (d.toInt64))))), .second, .val (.ref b12), .val (.double (FP.ddiv (FP.l2d ((((p2 >>> ((15 : Int32) &&& 31)).toInt64) * (d.toInt64)) + (((p3.toInt64) &&& (2147483647 : Int64)) - ((p3.toInt64) &&& (2147483647 : Int64)) / (own_absL (d.toInt64)) * (own_absL (d.toInt64))))) (FP.i2d d))), .second, .val (.double (FP.i2d (p2 >>> ((15 : Int32) &&& 31)))), .second] [(.int (cmpValue (FP.dcmp (FP.ddiv (FP.l2d ((((p2 >>> ((15 : Int32) &&& 31)).toInt64) * (d.toInt64)) + (((p3.toInt64) &&& (2147483647 : Int64)) - ((p3.toInt64) &&& (2147483647 : Int64)) / (own_absL (d.toInt64)) * (own_absL (d.toInt64))))) (FP.i2d d)) (FP.i2d (p2 >>> ((15 : Int32) &&& 31)))) .g))])
          refine own_via (fun _ k => XS.ifNo X21.here hx rfl (hb hby at_183) rfl ((if0 _ _).trans (tlt (own_b2 p2 p3 hd hr hp)).2.1) k) ?_
          show own_Fin _ _ _ _ _ _ _ T21 (mkF m 186 #[.val (.int p1), .val (.int p2), .val (.int p3), .val (.long q4), .second, .val (.int p5), .val (.int p6), .val (.int d), .val (.long (own_absL (d.toInt64))), .second, .val (.int (p2 >>> ((15 : Int32) &&& 31))), .val (.long (((p3.toInt64) &&& (2147483647 : Int64)) - ((p3.toInt64) &&& (2147483647 : Int64)) / (own_absL (d.toInt64)) * (own_absL (d.toInt64)))), .second, .val (.long ((((p2 >>> ((15 : Int32) &&& 31)).toInt64) * (d.toInt64)) + (((p3.toInt64) &&& (2147483647 : Int64)) - ((p3.toInt64) &&& (2147483647 : Int64)) / (own_absL (d.toInt64)) * (own_absL (d.toInt64))))), .second, .val (.ref b12), .val (.double (FP.ddiv (FP.l2d ((((p2 >>> ((15 : Int32) &&& 31)).toInt64) * (d.toInt64)) + (((p3.toInt64) &&& (2147483647 : Int64)) - ((p3.toInt64) &&& (2147483647 : Int64)) / (own_absL (d.toInt64)) * (own_absL (d.toInt64))))) (FP.i2d d))), .second, .val (.double (FP.i2d (p2 >>> ((15 : Int32) &&& 31)))), .second] [])
          refine own_via (fun _ k => XS.iconst X21.here hx rfl (hb hby at_186) k) ?_
          show own_Fin _ _ _ _ _ _ _ T21 (mkF m 187 #[.val (.int p1), .val (.int p2), .val (.int p3), .val (.long q4), .second, .val (.int p5), .val (.int p6), .val (.int d), .val (.long (own_absL (d.toInt64))), .second, .val (.int (p2 >>> ((15 : Int32) &&& 31))), .val (.long (((p3.toInt64) &&& (2147483647 : Int64)) - ((p3.toInt64) &&& (2147483647 : Int64)) / (own_absL (d.toInt64)) * (own_absL (d.toInt64)))), .second, .val (.long ((((p2 >>> ((15 : Int32) &&& 31)).toInt64) * (d.toInt64)) + (((p3.toInt64) &&& (2147483647 : Int64)) - ((p3.toInt64) &&& (2147483647 : Int64)) / (own_absL (d.toInt64)) * (own_absL (d.toInt64))))), .second, .val (.ref b12), .val (.double (FP.ddiv (FP.l2d ((((p2 >>> ((15 : Int32) &&& 31)).toInt64) * (d.toInt64)) + (((p3.toInt64) &&& (2147483647 : Int64)) - ((p3.toInt64) &&& (2147483647 : Int64)) / (own_absL (d.toInt64)) * (own_absL (d.toInt64))))) (FP.i2d d))), .second, .val (.double (FP.i2d (p2 >>> ((15 : Int32) &&& 31)))), .second] [(.int (1 : Int32))])
          refine own_via (fun _ k => XS.goto X21.here hx rfl (pc0 := 187) (pc' := 191) rfl (hb hby at_187) (by decide) (by decide) k) ?_
          show own_Fin _ _ _ _ _ _ _ T21 (mkF m 191 #[.val (.int p1), .val (.int p2), .val (.int p3), .val (.long q4), .second, .val (.int p5), .val (.int p6), .val (.int d), .val (.long (own_absL (d.toInt64))), .second, .val (.int (p2 >>> ((15 : Int32) &&& 31))), .val (.long (((p3.toInt64) &&& (2147483647 : Int64)) - ((p3.toInt64) &&& (2147483647 : Int64)) / (own_absL (d.toInt64)) * (own_absL (d.toInt64)))), .second, .val (.long ((((p2 >>> ((15 : Int32) &&& 31)).toInt64) * (d.toInt64)) + (((p3.toInt64) &&& (2147483647 : Int64)) - ((p3.toInt64) &&& (2147483647 : Int64)) / (own_absL (d.toInt64)) * (own_absL (d.toInt64))))), .second, .val (.ref b12), .val (.double (FP.ddiv (FP.l2d ((((p2 >>> ((15 : Int32) &&& 31)).toInt64) * (d.toInt64)) + (((p3.toInt64) &&& (2147483647 : Int64)) - ((p3.toInt64) &&& (2147483647 : Int64)) / (own_absL (d.toInt64)) * (own_absL (d.toInt64))))) (FP.i2d d))), .second, .val (.double (FP.i2d (p2 >>> ((15 : Int32) &&& 31)))), .second] [(.int (1 : Int32))])
          exact own_retN X21 hx (t := .boolean) Bd.returns Bd.notSynchronized (by simp) (hb hby at_191) hh21 rfl ⟨rfl, N21⟩ (by decide) (by decide)
  refine own_via (fun _ k => XS.iload X0.here hx rfl (hb hby at_0) rfl k) ?_
  show own_Fin _ _ _ _ _ _ _ s₁ (mkF m 2 #[.val (.int p1), .val (.int p2), .val (.int p3), .val (.long q4), .second, .val (.int p5), .val (.int p6), .unset, .unset, .unset, .unset, .unset, .unset, .unset, .unset, .unset, .unset, .unset, .unset, .unset] [(.int p6)])
  refine own_via (fun _ k => XS.iconst X0.here hx rfl (hb hby at_2) k) ?_
  show own_Fin _ _ _ _ _ _ _ s₁ (mkF m 3 #[.val (.int p1), .val (.int p2), .val (.int p3), .val (.long q4), .second, .val (.int p5), .val (.int p6), .unset, .unset, .unset, .unset, .unset, .unset, .unset, .unset, .unset, .unset, .unset, .unset, .unset] [(.int (3 : Int32)), (.int p6)])
  refine own_via (fun _ k => XS.iand X0.here hx rfl (hb hby at_3) rfl k) ?_
  show own_Fin _ _ _ _ _ _ _ s₁ (mkF m 4 #[.val (.int p1), .val (.int p2), .val (.int p3), .val (.long q4), .second, .val (.int p5), .val (.int p6), .unset, .unset, .unset, .unset, .unset, .unset, .unset, .unset, .unset, .unset, .unset, .unset, .unset] [(.int (p6 &&& (3 : Int32)))])
  rcases Classical.em ((p6 &&& (3 : Int32)) = (0 : Int32)) with h0 | h0
  · refine own_via (fun _ k => XS.ifNo X0.here hx rfl (hb hby at_4) rfl ((if0 _ _).trans (teq h0).2) k) ?_
    show own_Fin _ _ _ _ _ _ _ s₁ (mkF m 7 #[.val (.int p1), .val (.int p2), .val (.int p3), .val (.long q4), .second, .val (.int p5), .val (.int p6), .unset, .unset, .unset, .unset, .unset, .unset, .unset, .unset, .unset, .unset, .unset, .unset, .unset] [])
    refine own_via (fun _ k => XS.iconst X0.here hx rfl (hb hby at_7) k) ?_
    show own_Fin _ _ _ _ _ _ _ s₁ (mkF m 8 #[.val (.int p1), .val (.int p2), .val (.int p3), .val (.long q4), .second, .val (.int p5), .val (.int p6), .unset, .unset, .unset, .unset, .unset, .unset, .unset, .unset, .unset, .unset, .unset, .unset, .unset] [(.int (0 : Int32))])
    refine own_via (fun _ k => XS.goto X0.here hx rfl (pc0 := 8) (pc' := 12) rfl (hb hby at_8) (by decide) (by decide) k) ?_
    show own_Fin _ _ _ _ _ _ _ s₁ (mkF m 12 #[.val (.int p1), .val (.int p2), .val (.int p3), .val (.long q4), .second, .val (.int p5), .val (.int p6), .unset, .unset, .unset, .unset, .unset, .unset, .unset, .unset, .unset, .unset, .unset, .unset, .unset] [(.int (0 : Int32))])
    refine own_via (fun _ k => XS.istore X0.here hx rfl (hb hby at_12) rfl (l' := #[.val (.int p1), .val (.int p2), .val (.int p3), .val (.long q4), .second, .val (.int p5), .val (.int p6), .val (.int (0 : Int32)), .unset, .unset, .unset, .unset, .unset, .unset, .unset, .unset, .unset, .unset, .unset, .unset]) rfl k) ?_
    show own_Fin _ _ _ _ _ _ _ s₁ (mkF m 14 #[.val (.int p1), .val (.int p2), .val (.int p3), .val (.long q4), .second, .val (.int p5), .val (.int p6), .val (.int (0 : Int32)), .unset, .unset, .unset, .unset, .unset, .unset, .unset, .unset, .unset, .unset, .unset, .unset] [])
    exact seg _
  · refine own_via (fun _ k => XS.ifYes X0.here hx rfl (pc0 := 4) (pc' := 11) rfl (hb hby at_4) rfl ((if0 _ _).trans (feq h0).2) (by decide) (by decide) k) ?_
    show own_Fin _ _ _ _ _ _ _ s₁ (mkF m 11 #[.val (.int p1), .val (.int p2), .val (.int p3), .val (.long q4), .second, .val (.int p5), .val (.int p6), .unset, .unset, .unset, .unset, .unset, .unset, .unset, .unset, .unset, .unset, .unset, .unset, .unset] [])
    refine own_via (fun _ k => XS.iloadN X0.here hx rfl (hb hby at_11) rfl k) ?_
    show own_Fin _ _ _ _ _ _ _ s₁ (mkF m 12 #[.val (.int p1), .val (.int p2), .val (.int p3), .val (.long q4), .second, .val (.int p5), .val (.int p6), .unset, .unset, .unset, .unset, .unset, .unset, .unset, .unset, .unset, .unset, .unset, .unset, .unset] [(.int p1)])
    refine own_via (fun _ k => XS.istore X0.here hx rfl (hb hby at_12) rfl (l' := #[.val (.int p1), .val (.int p2), .val (.int p3), .val (.long q4), .second, .val (.int p5), .val (.int p6), .val (.int p1), .unset, .unset, .unset, .unset, .unset, .unset, .unset, .unset, .unset, .unset, .unset, .unset]) rfl k) ?_
    show own_Fin _ _ _ _ _ _ _ s₁ (mkF m 14 #[.val (.int p1), .val (.int p2), .val (.int p3), .val (.long q4), .second, .val (.int p5), .val (.int p6), .val (.int p1), .unset, .unset, .unset, .unset, .unset, .unset, .unset, .unset, .unset, .unset, .unset, .unset] [])
    exact seg _
set_option maxRecDepth 65536 in
set_option maxHeartbeats 40000000 in
theorem comes_1 {Post : Tables → Env → Array Value → State → Outcome → State → Prop} (hpost : ∀ tb e args s v u, (limb_1_1.after args s (.returned v) u = true ∧ limb_1_2.after args s (.returned v) u = true ∧ True) → FrameEnd s (.returned v) u (Jvm.fieldLocs frame_1_writes args s ++ Jvm.arrayLocs frame_1_arrays args s ++ Jvm.staticLocs frame_1_statics s) 16 128 → Post tb e args s (.returned v) u) :
    ArmFor flags0 classFile x code maxLocals ret World_1 tables_1 room_1 Calls_1 rest_1 Pre_1 Post := by
  intro l hfl _ _ p e ha hc hk s m args below hf hA hF happ hP
  obtain ⟨hcalls, hrest, hpre⟩ := hP
  obtain ⟨-, -, -, hnamed, -, -, -, hat⟩ := (Spec.applies_iff hf).mp happ
  obtain ⟨hg, hn⟩ := and_e (Cond.before_iff.mp (show (Jvm.Cond.and given_1 narrow_1).before args s = true from hpre))
  obtain ⟨g0, k0⟩ := and_e hg
  obtain ⟨g1, k1⟩ := and_e k0
  obtain ⟨g2, k2⟩ := and_e k1
  obtain ⟨g3, k3⟩ := and_e k2
  obtain ⟨g4, k4⟩ := and_e k3
  obtain ⟨g5, k5⟩ := and_e k4
  have g6 := k5
  obtain ⟨w0, w1, w2, w3, w4, w5, rfl⟩ : ∃ w0 w1 w2 w3 w4 w5 : Value, args = #[w0, w1, w2, w3, w4, w5] := by
    have hs : args.size = 6 := by simpa [Cond.value, given_1] using g0
    obtain ⟨L⟩ := args
    match L, hs with
    | [w0, w1, w2, w3, w4, w5], _ => exact ⟨w0, w1, w2, w3, w4, w5, rfl⟩
  have hw := fun d (hd : d ∈ tables_1) => atoms_spec (ws := Jvm.Cond.code x code maxLocals ret :: tables_1) hat d (List.mem_cons_of_mem _ hd)
  have hfit : Fit s := fun {y c} hc i hi => by
    obtain ⟨ha, rfl⟩ := Array.getElem?_eq_some_iff.mp hc
    have q := List.all_eq_true.mp ((Array.all_eq_true_iff_forall_mem.mp hF) _ (Array.getElem_mem ha)) i (List.mem_range.mpr hi)
    simpa [Array.getElem?_eq_getElem hi] using q
  obtain ⟨i0, ei0⟩ := is_v g1
  obtain rfl : w0 = (.int i0) := Option.some.inj ei0
  obtain ⟨i1, ei1⟩ := is_v g2
  obtain rfl : w1 = (.int i1) := Option.some.inj ei1
  obtain ⟨i2, ei2⟩ := is_v g3
  obtain rfl : w2 = (.int i2) := Option.some.inj ei2
  obtain ⟨i3, ei3⟩ := isL_v g4
  obtain rfl : w3 = (.long i3) := Option.some.inj ei3
  obtain ⟨i4, ei4⟩ := is_v g5
  obtain rfl : w4 = (.int i4) := Option.some.inj ei4
  obtain ⟨i5, ei5⟩ := is_v g6
  obtain rfl : w5 = (.int i5) := Option.some.inj ei5
  obtain ⟨n, o, h1, h2, h3, _, L, rfl, ⟨rfl, N⟩, hq⟩ := own_rm_law l s _ hw tables_1 i0 i1 i2 i3 i4 i5 s.heap s.heap.size (Nat.le_refl _)  p e ha hc hk s m _ below hf ((Spec.applies_iff_loose hf).mp happ).1 ⟨rfl, State.Warmed39.refl s, rfl⟩ trivial
  refine ⟨n, _, h1, h2, h3, hpost _ _ _ _ _ _ ⟨Cond.after_iff.mpr rfl, Cond.after_iff.mpr (eq_i res_at (Term.int_eval (1)) rfl), trivial⟩ ⟨hq.1, hq.2.1, (hq.2.2.sift fun y hy => Or.inr (N y hy)).mono (by decide) (by decide)⟩⟩
theorem main_1_1 : Claimed_1_1 := comes_1 fun _ _ _ _ _ _ h hF => ⟨h.1, hF⟩
theorem main_1_2 : Claimed_1_2 := comes_1 fun _ _ _ _ _ _ h hF => ⟨h.2.1, hF⟩
end Jvm.Pilot.@@N@@
namespace Jvm.Pilot.@@N@@
open Jvm Jvm.ClassFile Sem Op Lib Jvm.Free Jvm.Stand Jvm.Pilot.@@N@@.Jvm.D
/-! MADE BY PROGRAM (witnessworld.py) out of the Statement's table words and the real class files: 11 classes; the members and pool entries that the words name. The judged class is class 1, her method 1. -/
namespace start1
open Jvm.ClassFile
def u (s : String) : CpInfo := .utf8 (stringToUtf16 s)
/-- a pool by its gaps: so many unusable entries, then the entry; so many at the end -/
def gap : Nat → List CpInfo → List CpInfo
  | 0, r => r
  | n + 1, r => .unusable :: gap n r
def poolList (es : List (Nat × CpInfo)) (last : Nat) : List CpInfo := es.foldr (fun e r => gap e.1 (e.2 :: r)) (gap last [])
def pool (es : List (Nat × CpInfo)) (last : Nat) : Array CpInfo := ⟨poolList es last⟩
def fileOf (pool : Array CpInfo) (this : Nat) (attrs : Array Attribute := #[]) (ms : Array MethodInfo := #[]) (fl : Nat := 33) (sup : Nat := 0) (ifs : Array Nat := #[]) (fds : Array FieldInfo := #[]) : ClassFile where
  minorVersion := 0
  majorVersion := 65
  constantPool := pool
  accessFlags := fl
  thisClass := this
  superClass := sup
  interfaces := ifs
  fields := fds
  methods := ms
  attributes := attrs
def plain (name : String) (sup : Option ClassId) : Class where
  name := name
  kind := .ordinary
  loader := none
  accessFlags := 33
  super := sup
  interfaces := #[]
  cf := none
  fields := #[]
  methods := #[]
  instanceTypes := #[]
  staticTypes := #[]
  resolved := #[]
  callSites := []
  init := .initialized
  statics := none
  mirror := none

def pool0 : Array CpInfo := pool [(5, u "<init>"), (0, u "()V"), (1, .class_ 10), (1, u "java/lang/Object")] 113

def k0c0 : Code := { maxStack := 0, maxLocals := 1, code := object_method_1_code, exceptionTable := #[], attributes := #[] }
def k0m0 : Method := { name := "<init>", desc := "()V", sig := { parameters := [], returnType := none }, accessFlags := 1, code := some k0c0 }
/-- java/lang/Object -/
def k0 : Class := { plain "java/lang/Object" none with
  accessFlags := 33
  interfaces := #[]
  cf := some (fileOf pool0 8 #[] #[{ accessFlags := 1, nameIndex := 5, descriptorIndex := 6, attributes := #[] }] 33 0 #[] #[])
  fields := #[]
  methods := #[k0m0]
  instanceTypes := #[]
  staticTypes := #[]
  resolved := Array.replicate 124 none
  statics := none }

def pool1 : Array CpInfo := pool [(2, .class_ 4), (1, u "java/lang/Object"), (0, u "<init>"), (0, u "()V"), (0, .class_ 8), (0, u "com/example/unhurried_retrieval/unhurriedretrieval/index/CollectionStatistics"), (0, .methodref 7 10), (0, .nameAndType 5 11), (0, u "(IJI)V"), (0, .methodref 7 13), (0, .nameAndType 14 15), (0, u "averageLength"), (0, u "()D"), (0, .methodref 17 18), (0, .class_ 19), (0, .nameAndType 20 21), (0, u "java/lang/Math"), (0, u "abs"), (0, u "(J)J"), (0, .long 2147483647), (1, .class_ 25), (0, u "com/example/unhurried_retrieval/unhurriedretrieval/index/CollectionStatisticsAverageLengthPinLaw"), (2, u "law"), (0, u "(IIIJII)Z")] 3

def k1m0 : Method := { name := "<init>", desc := "()V", sig := { parameters := [], returnType := none }, accessFlags := 1, code := none }
def k1c1 : Code := { maxStack := 6, maxLocals := 20, code := code, exceptionTable := #[], attributes := #[] }
def k1m1 : Method := { name := "law", desc := "(IIIJII)Z", sig := { parameters := [.int, .int, .int, .long, .int, .int], returnType := some .boolean }, accessFlags := 9, code := some k1c1 }
/-- com/example/unhurried_retrieval/unhurriedretrieval/index/CollectionStatisticsAverageLengthPinLaw -/
def k1 : Class := { plain "com/example/unhurried_retrieval/unhurriedretrieval/index/CollectionStatisticsAverageLengthPinLaw" (some 0) with
  accessFlags := 49
  interfaces := #[]
  cf := some (fileOf pool1 24 #[] #[{ accessFlags := 1, nameIndex := 5, descriptorIndex := 6, attributes := #[] }, { accessFlags := 9, nameIndex := 28, descriptorIndex := 29, attributes := #[] }] 49 2 #[] #[])
  fields := #[]
  methods := #[k1m0, k1m1]
  instanceTypes := #[]
  staticTypes := #[]
  resolved := Array.replicate 33 none
  statics := none }

def pool2 : Array CpInfo := pool [(1, .methodref 2 3), (0, .class_ 4), (0, .nameAndType 5 6), (0, u "java/lang/Object"), (0, u "<init>"), (0, u "()V"), (0, .class_ 8), (0, u "java/lang/Record")] 13

def k2c0 : Code := { maxStack := 1, maxLocals := 1, code := jdk_30_method_1_code, exceptionTable := #[], attributes := #[] }
def k2m0 : Method := { name := "<init>", desc := "()V", sig := { parameters := [], returnType := none }, accessFlags := 4, code := some k2c0 }
/-- java/lang/Record -/
def k2 : Class := { plain "java/lang/Record" (some 0) with
  accessFlags := 1057
  interfaces := #[]
  cf := some (fileOf pool2 7 #[] #[{ accessFlags := 4, nameIndex := 5, descriptorIndex := 6, attributes := #[] }] 1057 2 #[] #[])
  fields := #[]
  methods := #[k2m0]
  instanceTypes := #[]
  staticTypes := #[]
  resolved := Array.replicate 22 none
  statics := none }

def pool3 : Array CpInfo := pool [(1, .methodref 2 3), (0, .class_ 4), (0, .nameAndType 5 6), (0, u "java/lang/Record"), (0, u "<init>"), (0, u "()V"), (0, .fieldref 8 9), (0, .class_ 10), (0, .nameAndType 11 12), (0, u "com/example/unhurried_retrieval/unhurriedretrieval/index/CollectionStatistics"), (0, u "documentCount"), (0, u "I"), (0, .fieldref 8 14), (0, .nameAndType 15 16), (0, u "tokenCount"), (0, u "J"), (0, .fieldref 8 18), (0, .nameAndType 19 12), (0, u "termCount"), (12, u "(IJI)V"), (3, u "averageLength"), (0, u "()D")] 27

def k3c0 : Code := { maxStack := 3, maxLocals := 5, code := prog_9_method_1_code, exceptionTable := #[], attributes := #[] }
def k3m0 : Method := { name := "<init>", desc := "(IJI)V", sig := { parameters := [.int, .long, .int], returnType := none }, accessFlags := 1, code := some k3c0 }
def k3c1 : Code := { maxStack := 4, maxLocals := 1, code := prog_9_method_2_code, exceptionTable := #[], attributes := #[] }
def k3m1 : Method := { name := "averageLength", desc := "()D", sig := { parameters := [], returnType := some .double }, accessFlags := 1, code := some k3c1 }
/-- com/example/unhurried_retrieval/unhurriedretrieval/index/CollectionStatistics -/
def k3 : Class := { plain "com/example/unhurried_retrieval/unhurriedretrieval/index/CollectionStatistics" (some 2) with
  accessFlags := 49
  interfaces := #[]
  cf := some (fileOf pool3 8 #[] #[{ accessFlags := 1, nameIndex := 5, descriptorIndex := 32, attributes := #[] }, { accessFlags := 1, nameIndex := 36, descriptorIndex := 37, attributes := #[] }] 49 2 #[] #[{ accessFlags := 18, nameIndex := 11, descriptorIndex := 12, attributes := #[] }, { accessFlags := 18, nameIndex := 15, descriptorIndex := 16, attributes := #[] }, { accessFlags := 18, nameIndex := 19, descriptorIndex := 12, attributes := #[] }])
  fields := #[{ name := "documentCount", type := .int, accessFlags := 18, slot := 0, constantValue := 0 }, { name := "tokenCount", type := .long, accessFlags := 18, slot := 1, constantValue := 0 }, { name := "termCount", type := .int, accessFlags := 18, slot := 2, constantValue := 0 }]
  methods := #[k3m0, k3m1]
  instanceTypes := #[.int, .long, .int]
  staticTypes := #[]
  resolved := Array.replicate 65 none
  statics := none }

def pool4 : Array CpInfo := pool [(1, .class_ 2), (0, u "java/lang/Math"), (1, .class_ 6), (1, u "java/lang/Object"), (0, u "<init>"), (0, u "()V"), (89, .class_ 100), (1, u "java/lang/Math$RandomNumberGeneratorHolder"), (23, u "abs"), (0, u "(J)J"), (46, u "negativeZeroFloatBits"), (0, u "J"), (2, u "negativeZeroDoubleBits"), (68, u "$assertionsDisabled"), (0, u "Z"), (91, u "twoToTheDoubleScaleDown"), (0, u "D"), (4, u "twoToTheDoubleScaleUp"), (9, u "E"), (3, u "PI"), (2, u "TAU"), (2, u "DEGREES_TO_RADIANS"), (0, u "RADIANS_TO_DEGREES")] 94

def k4m0 : Method := { name := "<init>", desc := "()V", sig := { parameters := [], returnType := none }, accessFlags := 2, code := none }
def k4c1 : Code := { maxStack := 4, maxLocals := 2, code := jdk_29_method_61_code, exceptionTable := #[], attributes := #[] }
def k4m1 : Method := { name := "abs", desc := "(J)J", sig := { parameters := [.long], returnType := some .long }, accessFlags := 9, code := some k4c1 }
/-- java/lang/Math -/
def k4 : Class := { plain "java/lang/Math" (some 0) with
  accessFlags := 49
  interfaces := #[]
  cf := some (fileOf pool4 1 #[.nestMembers #[98]] #[{ accessFlags := 2, nameIndex := 7, descriptorIndex := 8, attributes := #[] }, { accessFlags := 9, nameIndex := 124, descriptorIndex := 125, attributes := #[] }] 49 4 #[] #[{ accessFlags := 25, nameIndex := 354, descriptorIndex := 339, attributes := #[] }, { accessFlags := 25, nameIndex := 358, descriptorIndex := 339, attributes := #[] }, { accessFlags := 25, nameIndex := 361, descriptorIndex := 339, attributes := #[] }, { accessFlags := 26, nameIndex := 364, descriptorIndex := 339, attributes := #[] }, { accessFlags := 26, nameIndex := 365, descriptorIndex := 339, attributes := #[] }, { accessFlags := 26, nameIndex := 172, descriptorIndex := 173, attributes := #[] }, { accessFlags := 26, nameIndex := 176, descriptorIndex := 173, attributes := #[] }, { accessFlags := 8, nameIndex := 344, descriptorIndex := 339, attributes := #[] }, { accessFlags := 8, nameIndex := 338, descriptorIndex := 339, attributes := #[] }, { accessFlags := 4120, nameIndex := 245, descriptorIndex := 246, attributes := #[] }])
  fields := #[{ name := "E", type := .double, accessFlags := 25, slot := 0, constantValue := 0 }, { name := "PI", type := .double, accessFlags := 25, slot := 1, constantValue := 0 }, { name := "TAU", type := .double, accessFlags := 25, slot := 2, constantValue := 0 }, { name := "DEGREES_TO_RADIANS", type := .double, accessFlags := 26, slot := 3, constantValue := 0 }, { name := "RADIANS_TO_DEGREES", type := .double, accessFlags := 26, slot := 4, constantValue := 0 }, { name := "negativeZeroFloatBits", type := .long, accessFlags := 26, slot := 5, constantValue := 0 }, { name := "negativeZeroDoubleBits", type := .long, accessFlags := 26, slot := 6, constantValue := 0 }, { name := "twoToTheDoubleScaleUp", type := .double, accessFlags := 8, slot := 7, constantValue := 0 }, { name := "twoToTheDoubleScaleDown", type := .double, accessFlags := 8, slot := 8, constantValue := 0 }, { name := "$assertionsDisabled", type := .boolean, accessFlags := 4120, slot := 9, constantValue := 0 }]
  methods := #[k4m0, k4m1]
  instanceTypes := #[]
  staticTypes := #[.double, .double, .double, .double, .double, .long, .long, .double, .double, .boolean]
  resolved := Array.replicate 460 none
  statics := none }

def pool5 : Array CpInfo := pool [(1, u "java/lang/Cloneable"), (0, .class_ 1), (0, u "java/lang/Object"), (0, .class_ 3)] 3

/-- java/lang/Cloneable -/
def k5 : Class := { plain "java/lang/Cloneable" (some 0) with
  accessFlags := 1537
  interfaces := #[]
  cf := some (fileOf pool5 2 #[] #[] 1537 4 #[] #[])
  fields := #[]
  methods := #[]
  instanceTypes := #[]
  staticTypes := #[]
  resolved := Array.replicate 8 none
  statics := none }

def pool6 : Array CpInfo := pool [(1, u "java/io/Serializable"), (0, .class_ 1), (0, u "java/lang/Object"), (0, .class_ 3)] 3

/-- java/io/Serializable -/
def k6 : Class := { plain "java/io/Serializable" (some 0) with
  accessFlags := 1537
  interfaces := #[]
  cf := some (fileOf pool6 2 #[] #[] 1537 4 #[] #[])
  fields := #[]
  methods := #[]
  instanceTypes := #[]
  staticTypes := #[]
  resolved := Array.replicate 8 none
  statics := none }

/-- the primitive byte -/
def k7 : Class := { plain "byte" none with kind := .primitive 'B', accessFlags := 0x411 }
/-- [B -/
def k8 : Class := { plain "[B" (some 0) with kind := .array 7 .byte, interfaces := #[5, 6], accessFlags := 1041 }

/-- the primitive int -/
def k9 : Class := { plain "int" none with kind := .primitive 'I', accessFlags := 0x411 }
/-- [I -/
def k10 : Class := { plain "[I" (some 0) with kind := .array 9 .int, interfaces := #[5, 6], accessFlags := 1041 }

def heap : Heap := #[]
def classes : Array Class := #[k0, k1, k2, k3, k4, k5, k6, k7, k8, k9, k10]
def interned : List (Array UInt16 × Addr) := []
def slotsUsed : Nat := 0
def theMethod : MethodId := ⟨1, 1⟩
def args0 : Array Value := #[.int 5, .int 9, .int 3, .long 4, .int 2, .int 8]
def aboutOver (below : List Frame) : State where
  vm := { classes := classes, interned := interned.toArray }
  heap := heap
  slotsUsed := slotsUsed
  threads := #[{ frames := .invoking theMethod args0 :: below }]
def below0 : List Frame := [.native { method := ⟨0, 0⟩, args := #[] }]
def about1 : State := aboutOver below0
def p0 : Program := .bare "" "" ""
def e0 : Env := launch0.env 0 0 0
theorem w_frames : about1.frames = Frame.invoking theMethod args0 :: below0 := rfl
set_option maxRecDepth 65536 in
theorem w_args : argsFit about1.vm theMethod args0 = true := by decide +kernel
set_option maxRecDepth 65536 in
theorem w_heap : heapFits about1 = true := by decide +kernel
set_option maxRecDepth 65536 in
theorem w_runnable : about1.curStatus? = some .runnable := by decide +kernel
set_option maxRecDepth 65536 in
theorem w_alone : about1.alone = true := by decide +kernel
set_option maxRecDepth 65536 in
theorem w_named : about1.methodNamed? x = some theMethod := by decide +kernel
set_option maxRecDepth 65536 in
theorem w_hears : about1.hears theMethod below0 = true := by decide +kernel
set_option maxRecDepth 65536 in
theorem w_ripe : about1.ripe theMethod args0 below0 = true := by decide +kernel
theorem w_running : about1.status = .running := rfl
set_option maxRecDepth 65536 in
theorem w_room : about1.hasRoom e0.platform room_1 = true :=
  launch0.hasRoom_least _ room_1 (by decide +kernel) (by decide +kernel) (by decide +kernel) (by decide +kernel) (by decide +kernel) (by decide +kernel)
theorem allAtoms_all (ts : List Jvm.Cond) (a : Array Jvm.Value) (st : Jvm.State) : (allAtoms ts).before a st = ts.all (fun c => c.before a st) := by
  induction ts with
  | nil => rfl
  | cons c t ih =>
    show (Jvm.Cond.and c (allAtoms t)).before a st = _
    rw [Jvm.Cond.before_and, ih, List.all_cons]
def words1 : List Jvm.Cond := Jvm.Cond.code x code maxLocals ret :: tables_1
/-- a 'code' word, met by the world's own term for the bytes: nothing is compared byte by byte -/
theorem code_word {y : MethodName} {bytes : ByteArray} {mx : Nat} {rt : Option FieldType} {a : Array Value} {s : State} {m : MethodId} {meth : Method} {c : Code} (h1 : s.methodNamed? y = some m) (h2 : s.vm.method? m = some meth) (h3 : meth.code = some c) (h4 : c.code = bytes)
    (h5 : (c.maxLocals == mx && c.exceptionTable.isEmpty && decide (c.maxStack ≤ mostOperands) && decide (meth.sig.returnType = rt) && !meth.locks && decide (parseMethodDescriptor y.desc = some meth.sig)) = true) : (Jvm.Cond.code y bytes mx rt).before a s = true := by
  simp only [Bool.and_eq_true, beq_iff_eq, Bool.not_eq_true', decide_eq_true_eq] at h5
  obtain ⟨⟨⟨⟨⟨g1, g2⟩, g3⟩, g4⟩, g5⟩, g6⟩ := h5
  simp [Cond.before, Cond.holds, Cond.value, h1, h2, h3, h4, g1, g2, g3, g4, g5, g6]
def isCode : Jvm.Cond → Bool
  | .code _ _ _ _ => true
  | _ => false
theorem all_split {L : List Jvm.Cond} {P : Jvm.Cond → Bool} (h1 : L.all (fun c => isCode c || P c) = true) (h2 : ∀ c ∈ L.filter isCode, P c = true) : L.all P = true := by
  refine List.all_eq_true.mpr fun c hc => ?_
  have h := List.all_eq_true.mp h1 c hc
  rcases Bool.eq_false_or_eq_true (isCode c) with hi | hi
  · exact h2 c (List.mem_filter.mpr ⟨hc, hi⟩)
  · simpa [hi] using h
set_option maxRecDepth 65536 in
theorem w_c0 : (Jvm.Cond.code x code maxLocals ret).before args0 about1 = true := code_word (m := ⟨1, 1⟩) (meth := k1m1) (c := k1c1) (by decide +kernel) rfl rfl rfl (by decide +kernel)
set_option maxRecDepth 65536 in
theorem w_c1 : (Jvm.Cond.code ({ cls := "com/example/unhurried_retrieval/unhurriedretrieval/index/CollectionStatistics", name := "<init>", desc := "(IJI)V" } : Jvm.MethodName) prog_9_method_1_code (5 : Nat) (Option.none : Option Jvm.ClassFile.FieldType)).before args0 about1 = true := code_word (m := ⟨3, 0⟩) (meth := k3m0) (c := k3c0) (by decide +kernel) rfl rfl rfl (by decide +kernel)
set_option maxRecDepth 65536 in
theorem w_c2 : (Jvm.Cond.code ({ cls := "java/lang/Record", name := "<init>", desc := "()V" } : Jvm.MethodName) jdk_30_method_1_code (1 : Nat) (Option.none : Option Jvm.ClassFile.FieldType)).before args0 about1 = true := code_word (m := ⟨2, 0⟩) (meth := k2m0) (c := k2c0) (by decide +kernel) rfl rfl rfl (by decide +kernel)
set_option maxRecDepth 65536 in
theorem w_c3 : (Jvm.Cond.code ({ cls := "java/lang/Object", name := "<init>", desc := "()V" } : Jvm.MethodName) object_method_1_code (1 : Nat) (Option.none : Option Jvm.ClassFile.FieldType)).before args0 about1 = true := code_word (m := ⟨0, 0⟩) (meth := k0m0) (c := k0c0) (by decide +kernel) rfl rfl rfl (by decide +kernel)
set_option maxRecDepth 65536 in
theorem w_c4 : (Jvm.Cond.code ({ cls := "com/example/unhurried_retrieval/unhurriedretrieval/index/CollectionStatistics", name := "averageLength", desc := "()D" } : Jvm.MethodName) prog_9_method_2_code (1 : Nat) (Option.some Jvm.ClassFile.FieldType.double)).before args0 about1 = true := code_word (m := ⟨3, 1⟩) (meth := k3m1) (c := k3c1) (by decide +kernel) rfl rfl rfl (by decide +kernel)
set_option maxRecDepth 65536 in
theorem w_c5 : (Jvm.Cond.code ({ cls := "java/lang/Math", name := "abs", desc := "(J)J" } : Jvm.MethodName) jdk_29_method_61_code (2 : Nat) (Option.some Jvm.ClassFile.FieldType.long)).before args0 about1 = true := code_word (m := ⟨4, 1⟩) (meth := k4m1) (c := k4c1) (by decide +kernel) rfl rfl rfl (by decide +kernel)
def codes1 : List Jvm.Cond := [Jvm.Cond.code x code maxLocals ret, Jvm.Cond.code ({ cls := "com/example/unhurried_retrieval/unhurriedretrieval/index/CollectionStatistics", name := "<init>", desc := "(IJI)V" } : Jvm.MethodName) prog_9_method_1_code (5 : Nat) (Option.none : Option Jvm.ClassFile.FieldType), Jvm.Cond.code ({ cls := "java/lang/Record", name := "<init>", desc := "()V" } : Jvm.MethodName) jdk_30_method_1_code (1 : Nat) (Option.none : Option Jvm.ClassFile.FieldType), Jvm.Cond.code ({ cls := "java/lang/Object", name := "<init>", desc := "()V" } : Jvm.MethodName) object_method_1_code (1 : Nat) (Option.none : Option Jvm.ClassFile.FieldType), Jvm.Cond.code ({ cls := "com/example/unhurried_retrieval/unhurriedretrieval/index/CollectionStatistics", name := "averageLength", desc := "()D" } : Jvm.MethodName) prog_9_method_2_code (1 : Nat) (Option.some Jvm.ClassFile.FieldType.double), Jvm.Cond.code ({ cls := "java/lang/Math", name := "abs", desc := "(J)J" } : Jvm.MethodName) jdk_29_method_61_code (2 : Nat) (Option.some Jvm.ClassFile.FieldType.long)]
set_option maxRecDepth 65536 in
theorem codes_eq : words1.filter isCode = codes1 := rfl
theorem w_codes : ∀ c ∈ words1.filter isCode, c.before args0 about1 = true := by
  rw [codes_eq]
  intro c hc
  simp only [codes1, List.mem_cons, List.not_mem_nil, or_false] at hc
  rcases hc with rfl | rfl | rfl | rfl | rfl | rfl
  · exact w_c0
  · exact w_c1
  · exact w_c2
  · exact w_c3
  · exact w_c4
  · exact w_c5
set_option maxRecDepth 65536 in
theorem w_t1 : (words1.take 24).all (fun c => isCode c || c.before args0 about1) = true := by decide +kernel
set_option maxRecDepth 65536 in
theorem w_t2 : (words1.drop 24).all (fun c => isCode c || c.before args0 about1) = true := by decide +kernel
theorem w_tables : (allAtoms (Jvm.Cond.code x code maxLocals ret :: tables_1)).before args0 about1 = true := by
  rw [allAtoms_all]
  show words1.all (fun c => c.before args0 about1) = true
  refine all_split ?_ w_codes
  rw [← List.take_append_drop 24 words1, List.all_append, w_t1, w_t2]
  rfl
set_option maxRecDepth 65536 in
theorem w_case : (Jvm.Cond.and given_1 narrow_1).before args0 about1 = true := by decide +kernel
theorem w_applies : (headSpec (Jvm.Cond.code x code maxLocals ret :: tables_1) room_1).applies x e0.platform about1 = true :=
  (Spec.applies_iff w_frames).mpr ⟨w_running, w_runnable, w_alone, w_named, w_hears, w_ripe, w_room, w_tables⟩
theorem atStart : AtStart classFile x code maxLocals ret World_1 tables_1 room_1 Calls_1 rest_1 Pre_1 launch0 p0 e0 about1 theMethod args0 below0 :=
  ⟨lists_1, trivial, launch0.admits_env _ _ _, launch0.least_env, fairChoices_fair.cas, fairChoices_fair.clock, w_frames, w_args, w_heap, w_applies, trivial, trivial, w_case⟩
end start1
theorem witness_1 : WitnessClaimed_1 := ⟨start1.p0, start1.e0, start1.about1, start1.theMethod, start1.args0, start1.below0, start1.atStart⟩
end Jvm.Pilot.@@N@@
