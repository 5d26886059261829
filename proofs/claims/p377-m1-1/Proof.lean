import JvmDerived
import JvmDerived.Pilot.@@N@@Statement
import JvmDerived.Pilot.@@N@@Code
set_option linter.unusedVariables false
set_option linter.unusedSimpArgs false
namespace Jvm.Pilot.@@N@@
open Jvm Jvm.ClassFile Sem Op Lib Jvm.Free Jvm.Stand Jvm.LawKit Jvm.RoadKit Bundle Jvm.Pilot.@@N@@.Jvm.D

section OwnKit
variable {p : Program} {l : Launch} {e : Env} {R : Room} {s : State} {m : MethodId} {args : Array Value} {below : List Frame} {meth : Method} {c : Code} {T : State} {locs : List Loc} {cells slots : Nat} {Q : Option Value → Heap → List Loc → Prop} {kc kn : Nat} {h : Heap}
/-- from T, with the frame g on top, the body comes to its end, and the end is as Q says -/
def own_Fin (p : Program) (e : Env) (s : State) (below : List Frame) (Q : Option Value → Heap → List Loc → Prop) (kc kn : Nat) (T : State) (g : JFrame) : Prop :=
  ∃ s₂ o, Steps p.tables e below (T.setTop g) s₂ ∧ s₂.status = .running ∧ Ended s₂ below o ∧ ∃ v L, o = .returned v ∧ Q v s₂.heap L ∧ FrameEnd s o s₂ L kc kn
theorem own_via {T' : State} {g g' : JFrame} (k : ∀ t, Steps p.tables e below (T'.setTop g') t → Steps p.tables e below (T.setTop g) t) (hf : own_Fin p e s below Q kc kn T' g') : own_Fin p e s below Q kc kn T g := by
  obtain ⟨s2, o, h1, r⟩ := hf
  exact ⟨s2, o, k _ h1, r⟩
theorem own_ret0 (X : Stand p l e R s m args below meth c T locs cells slots) (hx : p.tables.exec = Jvm.exec) (hret : meth.sig.returnType = none) (hlk : meth.locks = false) {pc : Nat} {Ls : Array Slot} (hd : decode c.code pc = .ok (.return_, 1)) (eT : T.heap = h) (hq : Q none h locs) (hc : cells ≤ kc) (hs : slots ≤ kn) : own_Fin p e s below Q kc kn T (mkF m pc Ls []) := by
  obtain ⟨fs, hr, hrun, hended, hW, hsame⟩ := X.leave (v := none) (fun _ => rfl) hlk
  exact ⟨_, _, X.returnOut hx hret hd hr, hrun, hended, none, locs, rfl, by subst eT; exact hq, ⟨_, rfl⟩, hW, hsame.mono hc hs⟩
theorem own_retN (X : Stand p l e R s m args below meth c T locs cells slots) (hx : p.tables.exec = Jvm.exec) {t : FieldType} (hret : meth.sig.returnType = some t) (hlk : meth.locks = false) (ht : t = .boolean ∨ t = .byte ∨ t = .char ∨ t = .short) {pc : Nat} {Ls : Array Slot} {z r : Int32} {rest : List Value} (hd : decode c.code pc = .ok (.ireturn, 1)) (eT : T.heap = h) (hv : nar t z = r) (hq : Q (some (.int r)) h locs) (hc : cells ≤ kc) (hs : slots ≤ kn) : own_Fin p e s below Q kc kn T (mkF m pc Ls (.int z :: rest)) := by
  obtain ⟨fs, hr, hrun, hended, hW, hsame⟩ := X.leave (v := some (.int (nar t z))) (fun h => by rw [hret] at h; cases h) hlk
  exact ⟨_, _, retN X hx hret ht hd hr, hrun, hended, _, locs, rfl, by subst eT; rw [hv]; exact hq, ⟨_, rfl⟩, hW, hsame.mono hc hs⟩
theorem own_retI (X : Stand p l e R s m args below meth c T locs cells slots) (hx : p.tables.exec = Jvm.exec) (hret : meth.sig.returnType = some .int) (hlk : meth.locks = false) {pc : Nat} {Ls : Array Slot} {z r : Int32} {rest : List Value} (hd : decode c.code pc = .ok (.ireturn, 1)) (eT : T.heap = h) (hv : z = r) (hq : Q (some (.int r)) h locs) (hc : cells ≤ kc) (hs : slots ≤ kn) : own_Fin p e s below Q kc kn T (mkF m pc Ls (.int z :: rest)) := by
  subst hv
  obtain ⟨fs, hr, hrun, hended, hW, hsame⟩ := X.leave (v := some (.int z)) (fun h => by rw [hret] at h; cases h) hlk
  exact ⟨_, _, retOut X hx hret rfl (Or.inl ⟨rfl, Or.inl rfl, z, rfl⟩) hd hr, hrun, hended, _, locs, rfl, by subst eT; exact hq, ⟨_, rfl⟩, hW, hsame.mono hc hs⟩
theorem own_retJ (X : Stand p l e R s m args below meth c T locs cells slots) (hx : p.tables.exec = Jvm.exec) (hret : meth.sig.returnType = some .long) (hlk : meth.locks = false) {pc : Nat} {Ls : Array Slot} {z r : Int64} {rest : List Value} (hd : decode c.code pc = .ok (.lreturn, 1)) (eT : T.heap = h) (hv : z = r) (hq : Q (some (.long r)) h locs) (hc : cells ≤ kc) (hs : slots ≤ kn) : own_Fin p e s below Q kc kn T (mkF m pc Ls (.long z :: rest)) := by
  subst hv
  obtain ⟨fs, hr, hrun, hended, hW, hsame⟩ := X.leave (v := some (.long z)) (fun h => by rw [hret] at h; cases h) hlk
  exact ⟨_, _, retOut X hx hret rfl (Or.inr (Or.inl ⟨rfl, rfl, z, rfl⟩)) hd hr, hrun, hended, _, locs, rfl, by subst eT; exact hq, ⟨_, rfl⟩, hW, hsame.mono hc hs⟩
theorem own_retD (X : Stand p l e R s m args below meth c T locs cells slots) (hx : p.tables.exec = Jvm.exec) (hret : meth.sig.returnType = some .double) (hlk : meth.locks = false) {pc : Nat} {Ls : Array Slot} {z r : UInt64} {rest : List Value} (hd : decode c.code pc = .ok (.dreturn, 1)) (eT : T.heap = h) (hv : z = r) (hq : Q (some (.double r)) h locs) (hc : cells ≤ kc) (hs : slots ≤ kn) : own_Fin p e s below Q kc kn T (mkF m pc Ls (.double z :: rest)) := by
  subst hv
  obtain ⟨fs, hr, hrun, hended, hW, hsame⟩ := X.leave (v := some (.double z)) (fun h => by rw [hret] at h; cases h) hlk
  exact ⟨_, _, retOut X hx hret rfl (Or.inr (Or.inr (Or.inl ⟨rfl, rfl, z, rfl⟩))) hd hr, hrun, hended, _, locs, rfl, by subst eT; exact hq, ⟨_, rfl⟩, hW, hsame.mono hc hs⟩
theorem own_retA (X : Stand p l e R s m args below meth c T locs cells slots) (hx : p.tables.exec = Jvm.exec) {t : FieldType} (hret : meth.sig.returnType = some t) (hlk : meth.locks = false) (ht : t.isReference = true) {pc : Nat} {Ls : Array Slot} {w : Value} {rest : List Value} (hw : w.isRef = true) (hd : decode c.code pc = .ok (.areturn, 1)) (eT : T.heap = h) (hq : Q (some w) h locs) (hc : cells ≤ kc) (hs : slots ≤ kn) : own_Fin p e s below Q kc kn T (mkF m pc Ls (w :: rest)) := by
  obtain ⟨fs, hr, hrun, hended, hW, hsame⟩ := X.leave (v := some w) (fun h => by rw [hret] at h; cases h) hlk
  have hn : narrow t w = w := by
    cases t <;> first | (cases ht; done) | rfl
  exact ⟨_, _, retOut X hx hret hn (Or.inr (Or.inr (Or.inr (Or.inr ⟨rfl, ht, hw⟩)))) hd hr, hrun, hended, _, locs, rfl, by subst eT; exact hq, ⟨_, rfl⟩, hW, hsame.mono hc hs⟩
end OwnKit
section OwnFp
open Jvm.FP Jvm.FP.Core
/-- a quotient of whole magnitudes, rounded, stays on its side of a double -/
theorem own_rr_le {s : Bool} {A B : Nat} {V : Datum} (hB : 0 < B) (hV : FP.Core.fits b64 V) (hn : V ≠ .nan) (h : signed s (A * one64) ≤ zval b64 V * (B : Int)) : zval b64 (roundRatio b64 s A B 0) ≤ zval b64 V := by
  have eu : inUnits A 0 b64.qmin = A * one64 := by
    show A * 2 ^ (0 - b64.qmin).toNat = _
    rw [show (0 - b64.qmin) = -b64.qmin by omega, pow_qmin64]
  have e1 : 2 ^ (b64.qmin - b64.qmin).toNat = 1 := by rw [Int.sub_self]; rfl
  have hle := zmag_roundRatio_le good_b64 (s := s) (A := A) (e := 0) (e0 := b64.qmin) hB hV hn (Int.le_refl _) (by decide +kernel)
  have hge := zmag_roundRatio_ge good_b64 (s := s) (A := A) (e := 0) (e0 := b64.qmin) hB hV (Int.le_refl _) (by decide +kernel)
  rw [e1, Nat.mul_one, eu] at hle hge
  unfold zval at h ⊢
  rw [sgn_roundRatio]
  rw [← signed_mul] at h
  have hz : zmag b64 V * B = 0 → zmag b64 V = 0 := fun q => by
    rcases Nat.mul_eq_zero.mp q with q | q
    · exact q
    · omega
  generalize A * one64 = x at *
  generalize zmag b64 V * B = y at *
  generalize sgn V = t at *
  cases s <;> cases t <;> simp only [signed, if_true, Bool.false_eq_true, if_false] at h ⊢
  · have := hle (by omega); omega
  · have := hle (by omega); have := hz (by omega); omega
  · omega
  · have := hge (by omega); omega
theorem own_quot {a b : UInt64} (ha : DFin a) (hb : DFin b) (hz : zval b64 (val64 b) ≠ 0) : val64 (Core.ddiv a b) = roundRatio b64 (sgn (val64 a) != sgn (val64 b)) (zmag b64 (val64 a)) (zmag b64 (val64 b)) 0 := by
  have fa := val64_fits a
  have fb := val64_fits b
  obtain ⟨s, c, q, ea⟩ := ha
  obtain ⟨t, d, r, eb⟩ := hb
  rw [val64_ddiv]
  rw [eb] at hz
  rw [ea] at fa ⊢
  rw [eb] at fb ⊢
  have hd : d ≠ 0 := fun z => hz (by rw [z]; simp [zval, zmag, inUnits, signed])
  show (if d = 0 then _ else roundRatio b64 (s != t) c d (q - r)) = _
  rw [if_neg hd]
  have hqa : b64.qmin ≤ q := fa.2.1
  have hqb : b64.qmin ≤ r := fb.2.1
  have p1 := Nat.two_pow_pos (r - b64.qmin).toNat
  refine roundRatio_congr (by omega) (Nat.mul_pos (by omega) p1) ?_
  show c * (d * 2 ^ (r - b64.qmin).toNat) * 2 ^ (q - r - 0).toNat = c * 2 ^ (q - b64.qmin).toNat * d * 2 ^ (0 - (q - r)).toNat
  have e : 2 ^ (r - b64.qmin).toNat * 2 ^ (q - r - 0).toNat = 2 ^ (q - b64.qmin).toNat * 2 ^ (0 - (q - r)).toNat := by
    rw [← Nat.pow_add, ← Nat.pow_add]
    congr 1
    omega
  calc c * (d * 2 ^ (r - b64.qmin).toNat) * 2 ^ (q - r - 0).toNat = c * d * (2 ^ (r - b64.qmin).toNat * 2 ^ (q - r - 0).toNat) := by ac_rfl
    _ = c * d * (2 ^ (q - b64.qmin).toNat * 2 ^ (0 - (q - r)).toNat) := by rw [e]
    _ = c * 2 ^ (q - b64.qmin).toNat * d * 2 ^ (0 - (q - r)).toNat := by ac_rfl
/-- x / y ≤ V, with y positive -/
theorem own_div_le {a b V : UInt64} (ha : DFin a) (hb : DFin b) (hV : val64 V ≠ .nan) (hp : 0 < zval b64 (val64 b)) (h : zval b64 (val64 a) * (one64 : Int) ≤ zval b64 (val64 V) * zval b64 (val64 b)) : zval b64 (val64 (Core.ddiv a b)) ≤ zval b64 (val64 V) := by
  rw [own_quot ha hb (by omega)]
  obtain ⟨e1, e2⟩ := signed_pos (show 0 < signed (sgn (val64 b)) (zmag b64 (val64 b)) from hp)
  have es : sgn (val64 b) = false := by
    cases hs : sgn (val64 b)
    · rfl
    · rw [hs] at e1; simp only [signed, if_true] at e1; omega
  have ez : zval b64 (val64 b) = (zmag b64 (val64 b) : Int) := e1
  refine own_rr_le e2 (val64_fits V) hV ?_
  rw [es, ← ez, signed_mul]
  have : (sgn (val64 a) != false) = sgn (val64 a) := by cases sgn (val64 a) <;> rfl
  rw [this]
  exact h
theorem own_div_ge {a b V : UInt64} (ha : DFin a) (hb : DFin b) (hV : val64 V ≠ .nan) (hp : 0 < zval b64 (val64 b)) (h : zval b64 (val64 V) * zval b64 (val64 b) ≤ zval b64 (val64 a) * (one64 : Int)) : zval b64 (val64 V) ≤ zval b64 (val64 (Core.ddiv a b)) := by
  have ha' : DFin (Core.dneg a) := by
    obtain ⟨s, c, q, e⟩ := ha
    exact ⟨!s, c, q, by rw [Core.val64_dneg, e]; rfl⟩
  have hV' : val64 (Core.dneg V) ≠ .nan := by rw [Core.val64_dneg]; exact negate_ne_nan hV
  have q := own_div_le (V := Core.dneg V) ha' hb hV' hp (by
    rw [Core.val64_dneg, Core.val64_dneg, zval_negate, zval_negate, Int.neg_mul, Int.neg_mul]
    omega)
  rw [ddiv_dneg, Core.val64_dneg, Core.val64_dneg, zval_negate, zval_negate] at q
  omega
/-- the sign of the divisor turned along with the dividend's -/
theorem own_div_flip {a b : UInt64} (ha : DFin a) (hb : DFin b) (hz : zval b64 (val64 b) ≠ 0) : val64 (Core.ddiv (Core.dneg a) (Core.dneg b)) = val64 (Core.ddiv a b) := by
  have ha' : DFin (Core.dneg a) := by
    obtain ⟨s, c, q, e⟩ := ha
    exact ⟨!s, c, q, by rw [Core.val64_dneg, e]; rfl⟩
  have hb' : DFin (Core.dneg b) := by
    obtain ⟨s, c, q, e⟩ := hb
    exact ⟨!s, c, q, by rw [Core.val64_dneg, e]; rfl⟩
  have en : ∀ d : Datum, zmag b64 (negate d) = zmag b64 d := fun d => by cases d <;> rfl
  rw [own_quot ha hb hz, own_quot ha' hb' (by rw [Core.val64_dneg, zval_negate]; omega), Core.val64_dneg, Core.val64_dneg, en, en]
  obtain ⟨s, c, q, e⟩ := ha
  obtain ⟨t, d, r, e'⟩ := hb
  rw [e, e']
  show roundRatio b64 ((!s) != (!t)) _ _ 0 = roundRatio b64 (s != t) _ _ 0
  cases s <;> cases t <;> rfl
theorem own_divn_le {a b V : UInt64} (ha : DFin a) (hb : DFin b) (hV : val64 V ≠ .nan) (hp : zval b64 (val64 b) < 0) (h : zval b64 (val64 V) * zval b64 (val64 b) ≤ zval b64 (val64 a) * (one64 : Int)) : zval b64 (val64 (Core.ddiv a b)) ≤ zval b64 (val64 V) := by
  rw [← own_div_flip ha hb (by omega)]
  have ha' : DFin (Core.dneg a) := by
    obtain ⟨s, c, q, e⟩ := ha
    exact ⟨!s, c, q, by rw [Core.val64_dneg, e]; rfl⟩
  have hb' : DFin (Core.dneg b) := by
    obtain ⟨s, c, q, e⟩ := hb
    exact ⟨!s, c, q, by rw [Core.val64_dneg, e]; rfl⟩
  refine own_div_le ha' hb' hV (by rw [Core.val64_dneg, zval_negate]; omega) ?_
  rw [Core.val64_dneg, Core.val64_dneg, zval_negate, zval_negate, Int.neg_mul, Int.mul_neg]
  omega
theorem own_divn_ge {a b V : UInt64} (ha : DFin a) (hb : DFin b) (hV : val64 V ≠ .nan) (hp : zval b64 (val64 b) < 0) (h : zval b64 (val64 a) * (one64 : Int) ≤ zval b64 (val64 V) * zval b64 (val64 b)) : zval b64 (val64 V) ≤ zval b64 (val64 (Core.ddiv a b)) := by
  rw [← own_div_flip ha hb (by omega)]
  have ha' : DFin (Core.dneg a) := by
    obtain ⟨s, c, q, e⟩ := ha
    exact ⟨!s, c, q, by rw [Core.val64_dneg, e]; rfl⟩
  have hb' : DFin (Core.dneg b) := by
    obtain ⟨s, c, q, e⟩ := hb
    exact ⟨!s, c, q, by rw [Core.val64_dneg, e]; rfl⟩
  refine own_div_ge ha' hb' hV (by rw [Core.val64_dneg, zval_negate]; omega) ?_
  rw [Core.val64_dneg, Core.val64_dneg, zval_negate, zval_negate, Int.neg_mul, Int.mul_neg]
  omega
/-- an exact quotient -/
theorem own_div_eq {a b V : UInt64} (ha : DFin a) (hb : DFin b) (hV : val64 V ≠ .nan) (hz : zval b64 (val64 b) ≠ 0) (h : zval b64 (val64 a) * (one64 : Int) = zval b64 (val64 V) * zval b64 (val64 b)) : zval b64 (val64 (Core.ddiv a b)) = zval b64 (val64 V) := by
  rcases Int.lt_or_gt_of_ne hz with q | q
  · exact Int.le_antisymm (own_divn_le ha hb hV q (Int.le_of_eq h.symm)) (own_divn_ge ha hb hV q (Int.le_of_eq h))
  · exact Int.le_antisymm (own_div_le ha hb hV q (Int.le_of_eq h)) (own_div_ge ha hb hV q (Int.le_of_eq h.symm))
/-- a double that is n * 2^q -/
theorem own_repr (n : Int) (q : Int) (hn : n.natAbs < 2 ^ 53) (h1 : -1074 ≤ q) (h2 : q ≤ 971) : ∃ V : UInt64, val64 V ≠ .nan ∧ DFin V ∧ zval b64 (val64 V) = n * ((2 ^ (q + 1074).toNat : Nat) : Int) := by
  have hq1 : b64.qmin ≤ q := by rw [qmin_b64]; exact h1
  have hq2 : q ≤ b64.qmax := by rw [show b64.qmax = 971 by decide +kernel]; exact h2
  obtain ⟨c', q', e, eu⟩ := round_exact good_b64 (decide (n < 0)) (c := n.natAbs) (q := q) (by show n.natAbs < 2 ^ 53; exact hn) hq1 hq2
  have ev : val64 (of64 (round b64 (.fin (decide (n < 0)) n.natAbs q))) = .fin (decide (n < 0)) c' q' := by
    rw [val64_of64 (round_fits good_b64 _), e]
  refine ⟨_, ?_, ⟨_, _, _, ev⟩, ?_⟩
  · rw [ev]; exact Datum.noConfusion
  · rw [ev]
    show signed (decide (n < 0)) (inUnits c' q' b64.qmin) = _
    rw [eu]
    show signed (decide (n < 0)) (n.natAbs * 2 ^ (q - b64.qmin).toNat) = _
    rw [signed_mul, show q - b64.qmin = q + 1074 by rw [qmin_b64]; omega]
    congr 1
    unfold signed
    by_cases z : n < 0 <;> simp [z] <;> omega
theorem own_one64 (k : Nat) (hk : k ≤ 1074) : one64 = 2 ^ k * 2 ^ (1074 - k) := by
  unfold one64
  rw [← Nat.pow_add]
  congr 1
  omega
/-- a long that has at most 53 digits and some noughts is a double exactly -/
theorem own_l2d (n : Int64) (N : Int) (k : Nat) (hk : k ≤ 900) (hN : N.natAbs < 2 ^ 53) (e : n.toInt = N * ((2 ^ k : Nat) : Int)) : zval b64 (val64 (Core.l2d n)) = n.toInt * (one64 : Int) := by
  obtain ⟨V, v1, -, v3⟩ := own_repr N (k : Int) hN (by omega) (by omega)
  have ez : zval b64 (val64 V) = n.toInt * (one64 : Int) := by
    rw [v3, e, show ((k : Int) + 1074).toNat = k + 1074 by omega, Nat.pow_add, Int.mul_assoc, ← Int.natCast_mul]
    rfl
  exact Int.le_antisymm (ez ▸ l2d_zval_le v1 (Int.le_of_eq ez.symm)) (ez ▸ l2d_zval_ge v1 (Int.le_of_eq ez))
theorem own_i2d (n : Int32) : zval b64 (val64 (Core.i2d n)) = n.toInt * (one64 : Int) := DInt_zval (i2d_int n)
theorem own_dadd_eq {a b V : UInt64} (ha : DFin a) (hb : DFin b) (hV : val64 V ≠ .nan) (h : zval b64 (val64 a) + zval b64 (val64 b) = zval b64 (val64 V)) : zval b64 (val64 (Core.dadd a b)) = zval b64 (val64 V) := by
  rw [val64_dadd]
  exact Int.le_antisymm (sum_le good_b64 ha hb (val64_fits _) (val64_fits _) (val64_fits _) hV (Int.le_of_eq h)) (sum_ge good_b64 ha hb (val64_fits _) (val64_fits _) (val64_fits _) hV (Int.le_of_eq h.symm))
theorem own_div_fin {a b V : UInt64} (hn : val64 (Core.ddiv a b) ≠ .nan) (hV : DFin V) (h : zval b64 (val64 (Core.ddiv a b)) = zval b64 (val64 V)) : DFin (Core.ddiv a b) := by
  have hv := hV.zval_lt
  have e : zmag b64 (val64 (Core.ddiv a b)) = zmag b64 (val64 V) := by
    have := congrArg Int.natAbs h
    unfold zval at this
    rw [natAbs_signed, natAbs_signed] at this
    exact this
  rw [← e] at hv
  unfold DFin
  cases hc : val64 (Core.ddiv a b) with
  | nan => exact absurd hc hn
  | inf s => rw [hc] at hv; exact absurd hv (Nat.lt_irrefl _)
  | fin s c q => exact ⟨s, c, q, rfl⟩
theorem own_nn {x : UInt64} : Jvm.Free.Fl.NoNaN64 x ↔ val64 x ≠ .nan := Jvm.Free.Fl.val64_no
/-- the quotient of two finite doubles is a number where the divisor isn't nought -/
theorem own_div_nn {a b : UInt64} (ha : DFin a) (hb : DFin b) (hz : zval b64 (val64 b) ≠ 0) : val64 (Core.ddiv a b) ≠ .nan := by
  rw [own_quot ha hb hz]; exact roundRatio_ne_nan _ _ _ _ _
theorem own_cmp_eq {x y : UInt64} (hx : val64 x ≠ .nan) (hy : val64 y ≠ .nan) (h : zval b64 (val64 x) = zval b64 (val64 y)) (o : CmpOp) : cmpValue (FP.dcmp x y) o = 0 := by
  rw [show FP.dcmp x y = some .eq from dcmp_eq.mpr ⟨hx, hy, h⟩]; rfl
theorem own_cmp_lt {x y : UInt64} (hx : val64 x ≠ .nan) (hy : val64 y ≠ .nan) (h : zval b64 (val64 x) < zval b64 (val64 y)) (o : CmpOp) : cmpValue (FP.dcmp x y) o = -1 := by
  rw [show FP.dcmp x y = some .lt from dcmp_lt.mpr ⟨hx, hy, h⟩]; rfl
theorem own_cmp_gt {x y : UInt64} (hx : val64 x ≠ .nan) (hy : val64 y ≠ .nan) (h : zval b64 (val64 y) < zval b64 (val64 x)) (o : CmpOp) : cmpValue (FP.dcmp x y) o = 1 := by
  rw [show FP.dcmp x y = some .gt from dcmp_gt.mpr ⟨hx, hy, h⟩]; rfl
end OwnFp
theorem own_scale {a b M : Int} (h : a ≤ b) (hM : 0 ≤ M) : a * M ≤ b * M := Int.mul_le_mul_of_nonneg_right h hM
theorem own_sc_le {x y m c P O : Int} (e : O = c * P) (hP : 0 ≤ P) (hO : 0 ≤ O) (k : x * c ≤ m * y) : x * O * O ≤ m * P * (y * O) := by
  have k2 := own_scale (own_scale k hP) hO
  calc x * O * O = x * c * P * O := by rw [Int.mul_assoc x c P, ← e]
    _ ≤ m * y * P * O := k2
    _ = m * P * (y * O) := by ac_rfl
theorem own_sc_ge {x y m c P O : Int} (e : O = c * P) (hP : 0 ≤ P) (hO : 0 ≤ O) (k : m * y ≤ x * c) : m * P * (y * O) ≤ x * O * O := by
  have k2 := own_scale (own_scale k hP) hO
  calc m * P * (y * O) = m * y * P * O := by ac_rfl
    _ ≤ x * c * P * O := k2
    _ = x * O * O := by rw [Int.mul_assoc x c P, ← e]
theorem own_sc_ge1 {x y c P O : Int} (e : O = c * P) (hP : 0 ≤ P) (hO : 0 ≤ O) (k : y ≤ x * c) : P * (y * O) ≤ x * O * O := by
  have q := own_sc_ge (x := x) (y := y) (m := 1) e hP hO (by rw [Int.one_mul]; exact k)
  rwa [Int.one_mul] at q
theorem own_sc_xy {x y O : Int} (hO : 0 ≤ O) (k : x ≤ x * y) : x * O * O ≤ x * O * (y * O) := by
  have k2 := own_scale (own_scale k hO) hO
  calc x * O * O ≤ x * y * O * O := k2
    _ = x * O * (y * O) := by ac_rfl
theorem own_sc_eq {k q O : Int} : k * q * O * O = k * O * (q * O) := by ac_rfl

abbrev own_cc (q1 : Int64) : Int64 := ((q1 &&& (4503599627370495 : Int64)) + (1 : Int64))
abbrev own_kk (q3 : Int64) : Int64 := (q3 &&& (65535 : Int64))
abbrev own_qq (q4 : Int64) : Int64 := ((q4 &&& (268435455 : Int64)) + (1 : Int64))
theorem own_eq64 {a : Int64} {b : Int} (h : (a.toInt - b) % 18446744073709551616 = 0) (h3 : -9223372036854775808 ≤ b) (h4 : b < 9223372036854775808) : a.toInt = b := by
  have r := rng64 a
  omega
theorem own_cc_rng (q1 : Int64) : 1 ≤ (own_cc q1).toInt ∧ (own_cc q1).toInt ≤ 4503599627370496 := by
  have e := c_maskL q1 (4503599627370495 : Int64) 52 (by decide) (by decide)
  have e2 : (own_cc q1).toInt = q1.toInt % 4503599627370496 + 1 := own_eq64 (by have := c_ladd (q1 &&& (4503599627370495 : Int64)) (1 : Int64); rw [e] at this; exact this) (by omega) (by omega)
  omega
theorem own_kk_rng (q3 : Int64) : 0 ≤ (own_kk q3).toInt ∧ (own_kk q3).toInt ≤ 65535 := by
  have e := c_maskL q3 (65535 : Int64) 16 (by decide) (by decide)
  have e2 : (own_kk q3).toInt = q3.toInt % 65536 := e
  omega
theorem own_qq_rng (q4 : Int64) : 1 ≤ (own_qq q4).toInt ∧ (own_qq q4).toInt ≤ 268435456 := by
  have e := c_maskL q4 (268435455 : Int64) 28 (by decide) (by decide)
  have e2 : (own_qq q4).toInt = q4.toInt % 268435456 + 1 := own_eq64 (by have := c_ladd (q4 &&& (268435455 : Int64)) (1 : Int64); rw [e] at this; exact this) (by omega) (by omega)
  omega
theorem own_kq (q3 q4 : Int64) : (own_kk q3 * own_qq q4).toInt = (own_kk q3).toInt * (own_qq q4).toInt ∧ 0 ≤ (own_kk q3).toInt * (own_qq q4).toInt ∧ (own_kk q3).toInt * (own_qq q4).toInt ≤ 65535 * 268435456 := by
  obtain ⟨a1, a2⟩ := own_kk_rng q3
  obtain ⟨b1, b2⟩ := own_qq_rng q4
  have h1 : 0 ≤ (own_kk q3).toInt * (own_qq q4).toInt := Int.mul_nonneg a1 (by omega)
  have h2 : (own_kk q3).toInt * (own_qq q4).toInt ≤ 65535 * 268435456 := Int.mul_le_mul a2 b2 (by omega) (by decide)
  exact ⟨own_eq64 (c_lmul (own_kk q3) (own_qq q4)) (by omega) (by omega), h1, h2⟩
open Jvm.FP.Core in
theorem own_z {n : Int64} (h1 : 0 ≤ n.toInt) (h2 : n.toInt ≤ 4503599627370496) : zval b64 (val64 (FP.l2d n)) = n.toInt * (one64 : Int) := own_l2d _ n.toInt 0 (by omega) (by omega) (by simp)
open Jvm.FP.Core in
theorem own_zpos {n : Int64} (h1 : 1 ≤ n.toInt) (h2 : n.toInt ≤ 4503599627370496) : 0 < zval b64 (val64 (FP.l2d n)) := by
  rw [own_z (by omega) h2]
  have := one64_pos
  exact Int.mul_pos (by omega) (by omega)
open Jvm.FP.Core in
theorem own_nnr (q1 q2 : Int64) : Jvm.Free.Fl.NoNaN64 (FP.ddiv (FP.l2d (own_cc q1)) (FP.l2d (own_cc q2))) := own_nn.mpr (own_div_nn (l2d_fin _) (l2d_fin _) (by have := own_zpos (own_cc_rng q2).1 (own_cc_rng q2).2; omega))
open Jvm.FP.Core in
theorem own_nne (q3 q4 : Int64) : Jvm.Free.Fl.NoNaN64 (FP.ddiv (FP.l2d (own_kk q3 * own_qq q4)) (FP.l2d (own_qq q4))) := own_nn.mpr (own_div_nn (l2d_fin _) (l2d_fin _) (by have := own_zpos (n := own_qq q4) (own_qq_rng q4).1 (by have := (own_qq_rng q4).2; omega); omega))
open Jvm.FP.Core in
theorem own_one : zval b64 (val64 FP.dconst1) = (one64 : Int) ∧ val64 FP.dconst1 ≠ .nan := by
  have h : DInt 1 FP.dconst1 := dint_one
  exact ⟨by rw [DInt_zval h, Int.one_mul], DInt_ne_nan h⟩
open Jvm.FP.Core in
theorem own_one53 : (one64 : Int) = 9007199254740992 * ((2 ^ 1021 : Nat) : Int) := by decide +kernel
open Jvm.FP.Core in
theorem own_one52 : (one64 : Int) = 4503599627370496 * ((2 ^ 1022 : Nat) : Int) := by decide +kernel
open Jvm.FP.Core in
theorem own_onei (k : Nat) (hk : k ≤ 1074) : (one64 : Int) = ((2 ^ k : Nat) : Int) * ((2 ^ (1074 - k) : Nat) : Int) := by rw [own_one64 k hk, Int.natCast_mul]
open Jvm.FP.Core in
theorem own_zless : zval b64 (val64 4607182418800017407) = (9007199254740991 : Int) * ((2 ^ 1021 : Nat) : Int) := by decide +kernel
open Jvm.FP.Core in
theorem own_zmore : zval b64 (val64 4607182418800017409) = (4503599627370497 : Int) * ((2 ^ 1022 : Nat) : Int) := by decide +kernel
open Jvm.FP.Core in
theorem own_ztiny : zval b64 (val64 4372995238176751616) = ((2 ^ 1022 : Nat) : Int) := by decide +kernel
open Jvm.FP.Core in
theorem own_ne {x : UInt64} (h : x.toNat % 2 ^ 63 ≤ 9218868437227405312) : val64 x ≠ .nan := (ne_nan x).mpr h
theorem own_lcl {a b : Int64} (h : lcmpW a b < (0 : Int32)) : a.toInt < b.toInt := Int64.lt_iff_toInt_lt.mp ((lw_lt a b).mp h)
open Jvm.FP.Core in
theorem own_lt (q1 q2 : Int64) (hc : lcmpW (own_cc q1) (own_cc q2) < (0 : Int32)) : cmpValue (FP.dcmp (FP.ddiv (FP.l2d (own_cc q1)) (FP.l2d (own_cc q2))) FP.dconst1) .g < (0 : Int32) := by
  have h := own_lcl hc
  obtain ⟨a1, a2⟩ := own_cc_rng q1
  obtain ⟨b1, b2⟩ := own_cc_rng q2
  have hV : val64 4607182418800017407 ≠ .nan := own_ne (by decide)
  have q := own_div_le (V := 4607182418800017407) (l2d_fin (own_cc q1)) (l2d_fin (own_cc q2)) hV (own_zpos b1 b2) (by
    rw [own_z (by omega) a2, own_z (by omega) b2, own_zless]
    exact own_sc_le own_one53 (Int.natCast_nonneg _) (Int.natCast_nonneg _) (by omega))
  have l : zval b64 (val64 4607182418800017407) < zval b64 (val64 FP.dconst1) := by
    rw [own_zless, own_one.1, own_one53]
    exact Int.mul_lt_mul_of_pos_right (by decide) (Int.natCast_pos.mpr (Nat.two_pow_pos _))
  rw [own_cmp_lt (own_nn.mp (own_nnr q1 q2)) own_one.2 (Int.lt_of_le_of_lt q l)]
  decide
open Jvm.FP.Core in
theorem own_eq (q1 q2 : Int64) (hd : lcmpW (own_cc q1) (own_cc q2) = (0 : Int32)) : cmpValue (FP.dcmp (FP.ddiv (FP.l2d (own_cc q1)) (FP.l2d (own_cc q2))) FP.dconst1) .l = (0 : Int32) := by
  have h : own_cc q1 = own_cc q2 := (lw_eq _ _).mp hd
  obtain ⟨b1, b2⟩ := own_cc_rng q2
  refine own_cmp_eq (own_nn.mp (own_nnr q1 q2)) own_one.2 ?_ .l
  refine own_div_eq (l2d_fin _) (l2d_fin _) own_one.2 (by have := own_zpos b1 b2; omega) ?_
  rw [show FP.l2d (own_cc q1) = FP.l2d (own_cc q2) by rw [h], own_one.1]
  exact Int.mul_comm _ _
open Jvm.FP.Core in
theorem own_gt (q1 q2 : Int64) (hc : ¬ lcmpW (own_cc q1) (own_cc q2) < (0 : Int32)) (hd : ¬ lcmpW (own_cc q1) (own_cc q2) = (0 : Int32)) : (0 : Int32) < cmpValue (FP.dcmp (FP.ddiv (FP.l2d (own_cc q1)) (FP.l2d (own_cc q2))) FP.dconst1) .l := by
  have h : (own_cc q2).toInt < (own_cc q1).toInt := by
    have h1 : ¬ (own_cc q1).toInt < (own_cc q2).toInt := fun z => hc ((lw_lt _ _).mpr (Int64.lt_iff_toInt_lt.mpr z))
    have h2 : ¬ (own_cc q1).toInt = (own_cc q2).toInt := fun z => hd ((lw_eq _ _).mpr (Int64.toInt_inj.mp z))
    omega
  obtain ⟨a1, a2⟩ := own_cc_rng q1
  obtain ⟨b1, b2⟩ := own_cc_rng q2
  have hV : val64 4607182418800017409 ≠ .nan := own_ne (by decide)
  have q := own_div_ge (V := 4607182418800017409) (l2d_fin (own_cc q1)) (l2d_fin (own_cc q2)) hV (own_zpos b1 b2) (by
    rw [own_z (by omega) a2, own_z (by omega) b2, own_zmore]
    exact own_sc_ge own_one52 (Int.natCast_nonneg _) (Int.natCast_nonneg _) (by omega))
  have l : zval b64 (val64 FP.dconst1) < zval b64 (val64 4607182418800017409) := by
    rw [own_zmore, own_one.1, own_one52]
    exact Int.mul_lt_mul_of_pos_right (by decide) (Int.natCast_pos.mpr (Nat.two_pow_pos _))
  rw [own_cmp_gt (own_nn.mp (own_nnr q1 q2)) own_one.2 (Int.lt_of_lt_of_le l q)]
  decide
open Jvm.FP.Core in
theorem own_pos (q1 q2 : Int64) : (0 : Int32) < cmpValue (FP.dcmp (FP.ddiv (FP.l2d (own_cc q1)) (FP.l2d (own_cc q2))) FP.dconst0) .l := by
  obtain ⟨a1, a2⟩ := own_cc_rng q1
  obtain ⟨b1, b2⟩ := own_cc_rng q2
  have hV : val64 4372995238176751616 ≠ .nan := own_ne (by decide)
  have q := own_div_ge (V := 4372995238176751616) (l2d_fin (own_cc q1)) (l2d_fin (own_cc q2)) hV (own_zpos b1 b2) (by
    rw [own_z (by omega) a2, own_z (by omega) b2, own_ztiny]
    exact own_sc_ge1 own_one52 (Int.natCast_nonneg _) (Int.natCast_nonneg _) (by omega))
  have l : zval b64 (val64 FP.dconst0) < zval b64 (val64 4372995238176751616) := by
    rw [own_ztiny, show val64 FP.dconst0 = val64 0 from rfl, zval64_zero]
    exact Int.natCast_pos.mpr (Nat.two_pow_pos _)
  rw [own_cmp_gt (own_nn.mp (own_nnr q1 q2)) (own_ne (by decide)) (Int.lt_of_lt_of_le l q)]
  decide
open Jvm.FP.Core in
theorem own_le (q1 q2 : Int64) : ¬ (0 : Int32) < cmpValue (FP.dcmp (FP.ddiv (FP.l2d (own_cc q1)) (FP.l2d (own_cc q2))) (FP.l2d (own_cc q1))) .g := by
  obtain ⟨a1, a2⟩ := own_cc_rng q1
  obtain ⟨b1, b2⟩ := own_cc_rng q2
  have hV : val64 (FP.l2d (own_cc q1)) ≠ .nan := (l2d_fin (own_cc q1)).ne_nan
  have q := own_div_le (V := FP.l2d (own_cc q1)) (l2d_fin (own_cc q1)) (l2d_fin (own_cc q2)) hV (own_zpos b1 b2) (by
    rw [own_z (by omega) a2, own_z (by omega) b2]
    have k : (own_cc q1).toInt * 1 ≤ (own_cc q1).toInt * (own_cc q2).toInt := Int.mul_le_mul_of_nonneg_left b1 (by omega)
    rw [Int.mul_one] at k
    exact own_sc_xy (Int.natCast_nonneg _) k)
  have hn := own_nn.mp (own_nnr q1 q2)
  rcases Int.lt_or_eq_of_le q with z | z
  · rw [own_cmp_lt hn hV z]; decide
  · rw [own_cmp_eq hn hV z]; decide
open Jvm.FP.Core in
theorem own_whole (q3 q4 : Int64) : cmpValue (FP.dcmp (FP.ddiv (FP.l2d (own_kk q3 * own_qq q4)) (FP.l2d (own_qq q4))) (FP.l2d (own_kk q3))) .l = (0 : Int32) := by
  obtain ⟨a1, a2⟩ := own_kk_rng q3
  obtain ⟨b1, b2⟩ := own_qq_rng q4
  obtain ⟨e, e1, e2⟩ := own_kq q3 q4
  have hV : val64 (FP.l2d (own_kk q3)) ≠ .nan := (l2d_fin (own_kk q3)).ne_nan
  refine own_cmp_eq (own_nn.mp (own_nne q3 q4)) hV ?_ .l
  refine own_div_eq (l2d_fin _) (l2d_fin _) hV (by have := own_zpos (n := own_qq q4) b1 (by omega); omega) ?_
  rw [own_z (n := own_kk q3 * own_qq q4) (by omega) (by omega), own_z (n := own_qq q4) (by omega) (by omega), own_z (n := own_kk q3) (by omega) (by omega), e]
  exact own_sc_eq
theorem own_d_prog_124_1_0 : decode prog_124_method_1_code 0 = .ok (.aload_n 0, 1) := by decide +kernel
theorem own_d_prog_124_1_1 : decode prog_124_method_1_code 1 = .ok (.invokespecial 1, 3) := by decide +kernel
theorem own_d_prog_124_1_4 : decode prog_124_method_1_code 4 = .ok (.aload_n 0, 1) := by decide +kernel
theorem own_d_prog_124_1_5 : decode prog_124_method_1_code 5 = .ok (.lload_n 1, 1) := by decide +kernel
theorem own_d_prog_124_1_6 : decode prog_124_method_1_code 6 = .ok (.putfield 7, 3) := by decide +kernel
theorem own_d_prog_124_1_9 : decode prog_124_method_1_code 9 = .ok (.aload_n 0, 1) := by decide +kernel
theorem own_d_prog_124_1_10 : decode prog_124_method_1_code 10 = .ok (.lload_n 3, 1) := by decide +kernel
theorem own_d_prog_124_1_11 : decode prog_124_method_1_code 11 = .ok (.putfield 13, 3) := by decide +kernel
theorem own_d_prog_124_1_14 : decode prog_124_method_1_code 14 = .ok (.return_, 1) := by decide +kernel
theorem own_pn0 : plainName "com/example/dependency_container/dependencycontainer/benchmark/StartupBenchmark$Run" = true := by first | (simp [plainName, overriddenIn]; done) | decide +kernel
theorem own_ef_runInit (m : MethodId) (a1 : Addr) (q2 : Int64) (q3 : Int64) : entryFrame m #[(.ref a1), (.long q2), (.long q3)] 5 = mkF m 0 #[.val (.ref a1), .val (.long q2), .second, .val (.long q3), .second] [] := by (first | (simp [entryFrame, mkF, argsToLocals, Value.category]; done) | rfl)
def own_Q_runInit (Z : State) (a1 : Addr) (q2 : Int64) (q3 : Int64) (u1 : Value) (u2 : Value) (h0 : Heap) (n0 : Nat) (v : Option Value) (h : Heap) (L : List Loc) : Prop := (v = none) ∧ (Fr n0 L) ∧ (Keep h0 h [a1]) ∧ (Exa Z h a1 "com/example/dependency_container/dependencycontainer/benchmark/StartupBenchmark$Run") ∧ (Fld Z h a1 "com/example/dependency_container/dependencycontainer/benchmark/StartupBenchmark$Run" "wallNanos" "J" (.long q2)) ∧ (Fld Z h a1 "com/example/dependency_container/dependencycontainer/benchmark/StartupBenchmark$Run" "peakKilobytes" "J" (.long q3))
set_option maxRecDepth 65536 in
set_option maxHeartbeats 40000000 in
theorem own_rm_runInit (l : Launch) (Z : State) (a0 : Array Value) (hw : ∀ d ∈ tables_1, d.before a0 Z = true) (ws : List Jvm.Cond) (a1 : Addr) (q2 : Int64) (q3 : Int64) (u1 : Value) (u2 : Value) (h0 : Heap) (n0 : Nat) (Z0 : n0 ≤ h0.size) (E1 : Exa Z h0 a1 "com/example/dependency_container/dependencycontainer/benchmark/StartupBenchmark$Run") (F1 : Fld Z h0 a1 "com/example/dependency_container/dependencycontainer/benchmark/StartupBenchmark$Run" "wallNanos" "J" u1) (F2 : Fld Z h0 a1 "com/example/dependency_container/dependencycontainer/benchmark/StartupBenchmark$Run" "peakKilobytes" "J" u2) (g1 : n0 ≤ a1) :
    MetFree l (⟨"com/example/dependency_container/dependencycontainer/benchmark/StartupBenchmark$Run", "<init>", "(JJ)V"⟩ : MethodName) (head1 (Jvm.Cond.code (⟨"com/example/dependency_container/dependencycontainer/benchmark/StartupBenchmark$Run", "<init>", "(JJ)V"⟩ : MethodName) prog_124_method_1_code 5 none :: ws) ({ frames := 1, cells := 0, slots := 0, locals := 12 } : Room)) (fun a U => a = #[(.ref a1), (.long q2), (.long q3)] ∧ Z.Warmed39 U.vm ∧ U.heap = h0) (fun _ _ _ _ _ => True) (fun _ U o U' => ∃ v L, o = .returned v ∧ own_Q_runInit Z a1 q2 q3 u1 u2 h0 n0 v U'.heap L ∧ FrameEnd U o U' L ({ frames := 1, cells := 0, slots := 0, locals := 12 } : Room).cells ({ frames := 1, cells := 0, slots := 0, locals := 12 } : Room).slots) := by
  refine MetFree.of_bodySF (plainFor_of_name own_pn0) hisR ?_
  intro p e s m args below meth cde s₁ Bd hml0 hP hK
  obtain ⟨rfl, hZ, hh⟩ := hP
  have hx := Bd.exec
  have hby := Bd.bytes
  have hml : cde.maxLocals = 5 := hml0
  have hown : s.vm.findClass "com/example/dependency_container/dependencycontainer/benchmark/StartupBenchmark$Run" = some m.cls := findClass_of_methodNamed Bd.named
  have hnm := (name_of_methodNamed Bd.named Bd.method).1
  have X0 : Stand p l e ({ frames := 1, cells := 0, slots := 0, locals := 12 } : Room) s m #[(.ref a1), (.long q2), (.long q3)] below meth cde s₁ [] 0 0 := Stand.of_body Bd
  have e0 : s₁.heap = h0 := by rw [← hh, Bd.state]; rfl
  have N0 := Fr.nil n0
  show own_Fin p e s below (own_Q_runInit Z a1 q2 q3 u1 u2 h0 n0) ({ frames := 1, cells := 0, slots := 0, locals := 12 } : Room).cells ({ frames := 1, cells := 0, slots := 0, locals := 12 } : Room).slots s₁ (entryFrame m #[(.ref a1), (.long q2), (.long q3)] 5)
  rw [own_ef_runInit m a1 q2 q3]
  refine own_via (fun _ k => XS.aloadN X0.here hx rfl (hb hby own_d_prog_124_1_0) rfl rfl k) ?_
  show own_Fin _ _ _ _ _ _ _ s₁ (mkF m 1 #[.val (.ref a1), .val (.long q2), .second, .val (.long q3), .second] [(.ref a1)])
  obtain ⟨T1, X1, e1, st1⟩ := initO X0 hx hZ hown (hw _ (List.mem_of_getElem? (i := 12) rfl)) (hw _ (List.mem_of_getElem? (i := 13) rfl)) (hw _ (List.mem_of_getElem? (i := 14) rfl)) e0 (g := (mkF m 1 #[.val (.ref a1), .val (.long q2), .second, .val (.long q3), .second] [(.ref a1)])) rfl (by rw [hml]; rfl) rfl (hb hby own_d_prog_124_1_1) (by decide) (W := 0) (by show 2 * 0 + _ ≤ _; exact Nat.le_of_eq rfl) (by decide)
  refine own_via (fun _ k => st1 _ k) ?_
  show own_Fin _ _ _ _ _ _ _ T1 (mkF m 4 #[.val (.ref a1), .val (.long q2), .second, .val (.long q3), .second] [])
  refine own_via (fun _ k => XS.aloadN X1.here hx rfl (hb hby own_d_prog_124_1_4) rfl rfl k) ?_
  show own_Fin _ _ _ _ _ _ _ T1 (mkF m 5 #[.val (.ref a1), .val (.long q2), .second, .val (.long q3), .second] [(.ref a1)])
  refine own_via (fun _ k => XS.lloadN X1.here hx rfl (hb hby own_d_prog_124_1_5) rfl k) ?_
  show own_Fin _ _ _ _ _ _ _ T1 (mkF m 6 #[.val (.ref a1), .val (.long q2), .second, .val (.long q3), .second] [(.long q2), (.ref a1)])
  obtain ⟨T2, h2, X2, e2, W2, st2⟩ := putF X1 hx hZ hown (host := "") (Or.inl (hw _ (List.mem_of_getElem? (i := 15) rfl))) Via.refl e1 F1 E1 (Or.inr ⟨(hw _ (List.mem_of_getElem? (i := 16) rfl)), rfl, hnm⟩) (hw _ (List.mem_of_getElem? (i := 7) rfl)) (ty := .long) (by decide) rfl rfl (g := (mkF m 6 #[.val (.ref a1), .val (.long q2), .second, .val (.long q3), .second] [(.long q2), (.ref a1)])) rfl rfl (hb hby own_d_prog_124_1_6)
  have Fw2 := F1.same W2
  have N2 := Fr.snoc X2 N0 g1
  refine own_via (fun _ k => st2 _ k) ?_
  show own_Fin _ _ _ _ _ _ _ T2 (mkF m 9 #[.val (.ref a1), .val (.long q2), .second, .val (.long q3), .second] [])
  refine own_via (fun _ k => XS.aloadN X2.here hx rfl (hb hby own_d_prog_124_1_9) rfl rfl k) ?_
  show own_Fin _ _ _ _ _ _ _ T2 (mkF m 10 #[.val (.ref a1), .val (.long q2), .second, .val (.long q3), .second] [(.ref a1)])
  refine own_via (fun _ k => XS.lloadN X2.here hx rfl (hb hby own_d_prog_124_1_10) rfl k) ?_
  show own_Fin _ _ _ _ _ _ _ T2 (mkF m 11 #[.val (.ref a1), .val (.long q2), .second, .val (.long q3), .second] [(.long q3), (.ref a1)])
  have f4 := (F2.other W2 (Or.inr (slot_ne (Or.inr (hw _ (List.mem_of_getElem? (i := 18) rfl))) (Or.inr (hw _ (List.mem_of_getElem? (i := 16) rfl))) (by decide) (t := .long) (t' := .long) (by decide) (by decide))))
  obtain ⟨T3, h3, X3, e3, W3, st3⟩ := putF X2 hx hZ hown (host := "") (Or.inl (hw _ (List.mem_of_getElem? (i := 17) rfl))) Via.refl e2 f4 (E1.wr W2) (Or.inr ⟨(hw _ (List.mem_of_getElem? (i := 18) rfl)), rfl, hnm⟩) (hw _ (List.mem_of_getElem? (i := 7) rfl)) (ty := .long) (by decide) rfl rfl (g := (mkF m 11 #[.val (.ref a1), .val (.long q2), .second, .val (.long q3), .second] [(.long q3), (.ref a1)])) rfl rfl (hb hby own_d_prog_124_1_11)
  have Fw3 := f4.same W3
  have N3 := Fr.snoc X3 N2 g1
  refine own_via (fun _ k => st3 _ k) ?_
  show own_Fin _ _ _ _ _ _ _ T3 (mkF m 14 #[.val (.ref a1), .val (.long q2), .second, .val (.long q3), .second] [])
  have f5 := (Fw2.other W3 (Or.inr (slot_ne (Or.inr (hw _ (List.mem_of_getElem? (i := 16) rfl))) (Or.inr (hw _ (List.mem_of_getElem? (i := 18) rfl))) (by decide) (t := .long) (t' := .long) (by decide) (by decide))))
  exact own_ret0 X3 hx Bd.returns Bd.notSynchronized (hb hby own_d_prog_124_1_14) e3 ⟨rfl, N3, (((Keep.refl h0 [a1]).wr W2 (Or.inl (List.mem_of_getElem? (i := 0) rfl))).wr W3 (Or.inl (List.mem_of_getElem? (i := 0) rfl))), ((E1.wr W2).wr W3), f5, Fw3⟩ (by decide) (by decide)
theorem own_d_prog_123_1_0 : decode prog_123_method_1_code 0 = .ok (.aload_n 0, 1) := by decide +kernel
theorem own_d_prog_123_1_1 : decode prog_123_method_1_code 1 = .ok (.invokespecial 1, 3) := by decide +kernel
theorem own_d_prog_123_1_4 : decode prog_123_method_1_code 4 = .ok (.aload_n 0, 1) := by decide +kernel
theorem own_d_prog_123_1_5 : decode prog_123_method_1_code 5 = .ok (.aload_n 1, 1) := by decide +kernel
theorem own_d_prog_123_1_6 : decode prog_123_method_1_code 6 = .ok (.putfield 7, 3) := by decide +kernel
theorem own_d_prog_123_1_9 : decode prog_123_method_1_code 9 = .ok (.aload_n 0, 1) := by decide +kernel
theorem own_d_prog_123_1_10 : decode prog_123_method_1_code 10 = .ok (.aload_n 2, 1) := by decide +kernel
theorem own_d_prog_123_1_11 : decode prog_123_method_1_code 11 = .ok (.putfield 13, 3) := by decide +kernel
theorem own_d_prog_123_1_14 : decode prog_123_method_1_code 14 = .ok (.return_, 1) := by decide +kernel
theorem own_pn1 : plainName "com/example/dependency_container/dependencycontainer/benchmark/StartupBenchmark$Pair" = true := by first | (simp [plainName, overriddenIn]; done) | decide +kernel
theorem own_ef_pairInit (m : MethodId) (a1 : Addr) (a2 : Addr) (a3 : Addr) : entryFrame m #[(.ref a1), (.ref a2), (.ref a3)] 3 = mkF m 0 #[.val (.ref a1), .val (.ref a2), .val (.ref a3)] [] := by (first | (simp [entryFrame, mkF, argsToLocals, Value.category]; done) | rfl)
def own_Q_pairInit (Z : State) (a1 : Addr) (a2 : Addr) (a3 : Addr) (u1 : Value) (u2 : Value) (h0 : Heap) (n0 : Nat) (v : Option Value) (h : Heap) (L : List Loc) : Prop := (v = none) ∧ (Fr n0 L) ∧ (Keep h0 h [a1]) ∧ (Exa Z h a1 "com/example/dependency_container/dependencycontainer/benchmark/StartupBenchmark$Pair") ∧ (Fld Z h a1 "com/example/dependency_container/dependencycontainer/benchmark/StartupBenchmark$Pair" "container" "Lcom/example/dependency_container/dependencycontainer/benchmark/StartupBenchmark$Run;" (.ref a2)) ∧ (Fld Z h a1 "com/example/dependency_container/dependencycontainer/benchmark/StartupBenchmark$Pair" "parse" "Lcom/example/dependency_container/dependencycontainer/benchmark/StartupBenchmark$Run;" (.ref a3))
set_option maxRecDepth 65536 in
set_option maxHeartbeats 40000000 in
theorem own_rm_pairInit (l : Launch) (Z : State) (a0 : Array Value) (hw : ∀ d ∈ tables_1, d.before a0 Z = true) (ws : List Jvm.Cond) (a1 : Addr) (a2 : Addr) (a3 : Addr) (u1 : Value) (u2 : Value) (h0 : Heap) (n0 : Nat) (Z0 : n0 ≤ h0.size) (E1 : Exa Z h0 a1 "com/example/dependency_container/dependencycontainer/benchmark/StartupBenchmark$Pair") (F1 : Fld Z h0 a1 "com/example/dependency_container/dependencycontainer/benchmark/StartupBenchmark$Pair" "container" "Lcom/example/dependency_container/dependencycontainer/benchmark/StartupBenchmark$Run;" u1) (F2 : Fld Z h0 a1 "com/example/dependency_container/dependencycontainer/benchmark/StartupBenchmark$Pair" "parse" "Lcom/example/dependency_container/dependencycontainer/benchmark/StartupBenchmark$Run;" u2) (g1 : n0 ≤ a1) :
    MetFree l (⟨"com/example/dependency_container/dependencycontainer/benchmark/StartupBenchmark$Pair", "<init>", "(Lcom/example/dependency_container/dependencycontainer/benchmark/StartupBenchmark$Run;Lcom/example/dependency_container/dependencycontainer/benchmark/StartupBenchmark$Run;)V"⟩ : MethodName) (head1 (Jvm.Cond.code (⟨"com/example/dependency_container/dependencycontainer/benchmark/StartupBenchmark$Pair", "<init>", "(Lcom/example/dependency_container/dependencycontainer/benchmark/StartupBenchmark$Run;Lcom/example/dependency_container/dependencycontainer/benchmark/StartupBenchmark$Run;)V"⟩ : MethodName) prog_123_method_1_code 3 none :: ws) ({ frames := 1, cells := 0, slots := 0, locals := 12 } : Room)) (fun a U => a = #[(.ref a1), (.ref a2), (.ref a3)] ∧ Z.Warmed39 U.vm ∧ U.heap = h0) (fun _ _ _ _ _ => True) (fun _ U o U' => ∃ v L, o = .returned v ∧ own_Q_pairInit Z a1 a2 a3 u1 u2 h0 n0 v U'.heap L ∧ FrameEnd U o U' L ({ frames := 1, cells := 0, slots := 0, locals := 12 } : Room).cells ({ frames := 1, cells := 0, slots := 0, locals := 12 } : Room).slots) := by
  refine MetFree.of_bodySF (plainFor_of_name own_pn1) hisR ?_
  intro p e s m args below meth cde s₁ Bd hml0 hP hK
  obtain ⟨rfl, hZ, hh⟩ := hP
  have hx := Bd.exec
  have hby := Bd.bytes
  have hml : cde.maxLocals = 3 := hml0
  have hown : s.vm.findClass "com/example/dependency_container/dependencycontainer/benchmark/StartupBenchmark$Pair" = some m.cls := findClass_of_methodNamed Bd.named
  have hnm := (name_of_methodNamed Bd.named Bd.method).1
  have X0 : Stand p l e ({ frames := 1, cells := 0, slots := 0, locals := 12 } : Room) s m #[(.ref a1), (.ref a2), (.ref a3)] below meth cde s₁ [] 0 0 := Stand.of_body Bd
  have e0 : s₁.heap = h0 := by rw [← hh, Bd.state]; rfl
  have N0 := Fr.nil n0
  show own_Fin p e s below (own_Q_pairInit Z a1 a2 a3 u1 u2 h0 n0) ({ frames := 1, cells := 0, slots := 0, locals := 12 } : Room).cells ({ frames := 1, cells := 0, slots := 0, locals := 12 } : Room).slots s₁ (entryFrame m #[(.ref a1), (.ref a2), (.ref a3)] 3)
  rw [own_ef_pairInit m a1 a2 a3]
  refine own_via (fun _ k => XS.aloadN X0.here hx rfl (hb hby own_d_prog_123_1_0) rfl rfl k) ?_
  show own_Fin _ _ _ _ _ _ _ s₁ (mkF m 1 #[.val (.ref a1), .val (.ref a2), .val (.ref a3)] [(.ref a1)])
  obtain ⟨T1, X1, e1, st1⟩ := initO X0 hx hZ hown (hw _ (List.mem_of_getElem? (i := 22) rfl)) (hw _ (List.mem_of_getElem? (i := 13) rfl)) (hw _ (List.mem_of_getElem? (i := 14) rfl)) e0 (g := (mkF m 1 #[.val (.ref a1), .val (.ref a2), .val (.ref a3)] [(.ref a1)])) rfl (by rw [hml]; rfl) rfl (hb hby own_d_prog_123_1_1) (by decide) (W := 0) (by show 2 * 0 + _ ≤ _; exact Nat.le_of_eq rfl) (by decide)
  refine own_via (fun _ k => st1 _ k) ?_
  show own_Fin _ _ _ _ _ _ _ T1 (mkF m 4 #[.val (.ref a1), .val (.ref a2), .val (.ref a3)] [])
  refine own_via (fun _ k => XS.aloadN X1.here hx rfl (hb hby own_d_prog_123_1_4) rfl rfl k) ?_
  show own_Fin _ _ _ _ _ _ _ T1 (mkF m 5 #[.val (.ref a1), .val (.ref a2), .val (.ref a3)] [(.ref a1)])
  refine own_via (fun _ k => XS.aloadN X1.here hx rfl (hb hby own_d_prog_123_1_5) rfl rfl k) ?_
  show own_Fin _ _ _ _ _ _ _ T1 (mkF m 6 #[.val (.ref a1), .val (.ref a2), .val (.ref a3)] [(.ref a2), (.ref a1)])
  obtain ⟨T2, h2, X2, e2, W2, st2⟩ := putF X1 hx hZ hown (host := "") (Or.inl (hw _ (List.mem_of_getElem? (i := 23) rfl))) Via.refl e1 F1 E1 (Or.inr ⟨(hw _ (List.mem_of_getElem? (i := 24) rfl)), rfl, hnm⟩) (hw _ (List.mem_of_getElem? (i := 4) rfl)) (ty := (.object "com/example/dependency_container/dependencycontainer/benchmark/StartupBenchmark$Run")) (by decide) rfl rfl (g := (mkF m 6 #[.val (.ref a1), .val (.ref a2), .val (.ref a3)] [(.ref a2), (.ref a1)])) rfl rfl (hb hby own_d_prog_123_1_6)
  have Fw2 := F1.same W2
  have N2 := Fr.snoc X2 N0 g1
  refine own_via (fun _ k => st2 _ k) ?_
  show own_Fin _ _ _ _ _ _ _ T2 (mkF m 9 #[.val (.ref a1), .val (.ref a2), .val (.ref a3)] [])
  refine own_via (fun _ k => XS.aloadN X2.here hx rfl (hb hby own_d_prog_123_1_9) rfl rfl k) ?_
  show own_Fin _ _ _ _ _ _ _ T2 (mkF m 10 #[.val (.ref a1), .val (.ref a2), .val (.ref a3)] [(.ref a1)])
  refine own_via (fun _ k => XS.aloadN X2.here hx rfl (hb hby own_d_prog_123_1_10) rfl rfl k) ?_
  show own_Fin _ _ _ _ _ _ _ T2 (mkF m 11 #[.val (.ref a1), .val (.ref a2), .val (.ref a3)] [(.ref a3), (.ref a1)])
  have f4 := (F2.other W2 (Or.inr (slot_ne (Or.inr (hw _ (List.mem_of_getElem? (i := 26) rfl))) (Or.inr (hw _ (List.mem_of_getElem? (i := 24) rfl))) (by decide) (t := (.object "com/example/dependency_container/dependencycontainer/benchmark/StartupBenchmark$Run")) (t' := (.object "com/example/dependency_container/dependencycontainer/benchmark/StartupBenchmark$Run")) (by decide) (by decide))))
  obtain ⟨T3, h3, X3, e3, W3, st3⟩ := putF X2 hx hZ hown (host := "") (Or.inl (hw _ (List.mem_of_getElem? (i := 25) rfl))) Via.refl e2 f4 (E1.wr W2) (Or.inr ⟨(hw _ (List.mem_of_getElem? (i := 26) rfl)), rfl, hnm⟩) (hw _ (List.mem_of_getElem? (i := 4) rfl)) (ty := (.object "com/example/dependency_container/dependencycontainer/benchmark/StartupBenchmark$Run")) (by decide) rfl rfl (g := (mkF m 11 #[.val (.ref a1), .val (.ref a2), .val (.ref a3)] [(.ref a3), (.ref a1)])) rfl rfl (hb hby own_d_prog_123_1_11)
  have Fw3 := f4.same W3
  have N3 := Fr.snoc X3 N2 g1
  refine own_via (fun _ k => st3 _ k) ?_
  show own_Fin _ _ _ _ _ _ _ T3 (mkF m 14 #[.val (.ref a1), .val (.ref a2), .val (.ref a3)] [])
  have f5 := (Fw2.other W3 (Or.inr (slot_ne (Or.inr (hw _ (List.mem_of_getElem? (i := 24) rfl))) (Or.inr (hw _ (List.mem_of_getElem? (i := 26) rfl))) (by decide) (t := (.object "com/example/dependency_container/dependencycontainer/benchmark/StartupBenchmark$Run")) (t' := (.object "com/example/dependency_container/dependencycontainer/benchmark/StartupBenchmark$Run")) (by decide) (by decide))))
  exact own_ret0 X3 hx Bd.returns Bd.notSynchronized (hb hby own_d_prog_123_1_14) e3 ⟨rfl, N3, (((Keep.refl h0 [a1]).wr W2 (Or.inl (List.mem_of_getElem? (i := 0) rfl))).wr W3 (Or.inl (List.mem_of_getElem? (i := 0) rfl))), ((E1.wr W2).wr W3), f5, Fw3⟩ (by decide) (by decide)
theorem own_d_prog_123_3_0 : decode prog_123_method_3_code 0 = .ok (.aload_n 0, 1) := by decide +kernel
theorem own_d_prog_123_3_1 : decode prog_123_method_3_code 1 = .ok (.getfield 7, 3) := by decide +kernel
theorem own_d_prog_123_3_4 : decode prog_123_method_3_code 4 = .ok (.getfield 22, 3) := by decide +kernel
theorem own_d_prog_123_3_7 : decode prog_123_method_3_code 7 = .ok (.l2d, 1) := by decide +kernel
theorem own_d_prog_123_3_8 : decode prog_123_method_3_code 8 = .ok (.aload_n 0, 1) := by decide +kernel
theorem own_d_prog_123_3_9 : decode prog_123_method_3_code 9 = .ok (.getfield 13, 3) := by decide +kernel
theorem own_d_prog_123_3_12 : decode prog_123_method_3_code 12 = .ok (.getfield 22, 3) := by decide +kernel
theorem own_d_prog_123_3_15 : decode prog_123_method_3_code 15 = .ok (.l2d, 1) := by decide +kernel
theorem own_d_prog_123_3_16 : decode prog_123_method_3_code 16 = .ok (.ddiv, 1) := by decide +kernel
theorem own_d_prog_123_3_17 : decode prog_123_method_3_code 17 = .ok (.dreturn, 1) := by decide +kernel
theorem own_ef_peakRatio (m : MethodId) (a1 : Addr) : entryFrame m #[(.ref a1)] 1 = mkF m 0 #[.val (.ref a1)] [] := by (first | (simp [entryFrame, mkF, argsToLocals, Value.category]; done) | rfl)
def own_Q_peakRatio (Z : State) (a1 : Addr) (a2 : Addr) (a3 : Addr) (x : Int64) (y : Int64) (h0 : Heap) (n0 : Nat) (v : Option Value) (h : Heap) (L : List Loc) : Prop := (v = some (.double (FP.ddiv (FP.l2d x) (FP.l2d y)))) ∧ (Fr n0 L) ∧ (h = h0)
set_option maxRecDepth 65536 in
set_option maxHeartbeats 40000000 in
theorem own_rm_peakRatio (l : Launch) (Z : State) (a0 : Array Value) (hw : ∀ d ∈ tables_1, d.before a0 Z = true) (ws : List Jvm.Cond) (a1 : Addr) (a2 : Addr) (a3 : Addr) (x : Int64) (y : Int64) (h0 : Heap) (n0 : Nat) (Z0 : n0 ≤ h0.size) (F1 : Fld Z h0 a1 "com/example/dependency_container/dependencycontainer/benchmark/StartupBenchmark$Pair" "container" "Lcom/example/dependency_container/dependencycontainer/benchmark/StartupBenchmark$Run;" (.ref a2)) (F2 : Fld Z h0 a1 "com/example/dependency_container/dependencycontainer/benchmark/StartupBenchmark$Pair" "parse" "Lcom/example/dependency_container/dependencycontainer/benchmark/StartupBenchmark$Run;" (.ref a3)) (F3 : Fld Z h0 a2 "com/example/dependency_container/dependencycontainer/benchmark/StartupBenchmark$Run" "peakKilobytes" "J" (.long x)) (F4 : Fld Z h0 a3 "com/example/dependency_container/dependencycontainer/benchmark/StartupBenchmark$Run" "peakKilobytes" "J" (.long y)) (hn : Jvm.Free.Fl.NoNaN64 (FP.ddiv (FP.l2d x) (FP.l2d y))) :
    MetFree l (⟨"com/example/dependency_container/dependencycontainer/benchmark/StartupBenchmark$Pair", "peakRatio", "()D"⟩ : MethodName) (head1 (Jvm.Cond.code (⟨"com/example/dependency_container/dependencycontainer/benchmark/StartupBenchmark$Pair", "peakRatio", "()D"⟩ : MethodName) prog_123_method_3_code 1 (some .double) :: ws) ({ frames := 0, cells := 0, slots := 0, locals := 0 } : Room)) (fun a U => a = #[(.ref a1)] ∧ Z.Warmed39 U.vm ∧ U.heap = h0) (fun _ _ _ _ _ => True) (fun _ U o U' => ∃ v L, o = .returned v ∧ own_Q_peakRatio Z a1 a2 a3 x y h0 n0 v U'.heap L ∧ FrameEnd U o U' L ({ frames := 0, cells := 0, slots := 0, locals := 0 } : Room).cells ({ frames := 0, cells := 0, slots := 0, locals := 0 } : Room).slots) := by
  refine MetFree.of_bodySF (plainFor_of_name own_pn1) hisR ?_
  intro p e s m args below meth cde s₁ Bd hml0 hP hK
  obtain ⟨rfl, hZ, hh⟩ := hP
  have hx := Bd.exec
  have hby := Bd.bytes
  have hml : cde.maxLocals = 1 := hml0
  have hown : s.vm.findClass "com/example/dependency_container/dependencycontainer/benchmark/StartupBenchmark$Pair" = some m.cls := findClass_of_methodNamed Bd.named
  have hnm := (name_of_methodNamed Bd.named Bd.method).1
  have X0 : Stand p l e ({ frames := 0, cells := 0, slots := 0, locals := 0 } : Room) s m #[(.ref a1)] below meth cde s₁ [] 0 0 := Stand.of_body Bd
  have e0 : s₁.heap = h0 := by rw [← hh, Bd.state]; rfl
  have N0 := Fr.nil n0
  show own_Fin p e s below (own_Q_peakRatio Z a1 a2 a3 x y h0 n0) ({ frames := 0, cells := 0, slots := 0, locals := 0 } : Room).cells ({ frames := 0, cells := 0, slots := 0, locals := 0 } : Room).slots s₁ (entryFrame m #[(.ref a1)] 1)
  rw [own_ef_peakRatio m a1]
  refine own_via (fun _ k => XS.aloadN X0.here hx rfl (hb hby own_d_prog_123_3_0) rfl rfl k) ?_
  show own_Fin _ _ _ _ _ _ _ s₁ (mkF m 1 #[.val (.ref a1)] [(.ref a1)])
  obtain ⟨T1, X1, e1, st1⟩ := getF X0 hx hZ hown (host := "") (Or.inl (hw _ (List.mem_of_getElem? (i := 23) rfl))) Via.refl e0 F1 (g := (mkF m 1 #[.val (.ref a1)] [(.ref a1)])) rfl rfl (hb hby own_d_prog_123_3_1)
  refine own_via (fun _ k => st1 _ k) ?_
  show own_Fin _ _ _ _ _ _ _ T1 (mkF m 4 #[.val (.ref a1)] [(.ref a2)])
  obtain ⟨T2, X2, e2, st2⟩ := getF X1 hx hZ hown (Or.inr (hw _ (List.mem_of_getElem? (i := 32) rfl))) Via.refl e1 F3 (g := (mkF m 4 #[.val (.ref a1)] [(.ref a2)])) rfl rfl (hb hby own_d_prog_123_3_4)
  refine own_via (fun _ k => st2 _ k) ?_
  show own_Fin _ _ _ _ _ _ _ T2 (mkF m 7 #[.val (.ref a1)] [(.long x)])
  refine own_via (fun _ k => XS.l2dS X2.here hx rfl (hb hby own_d_prog_123_3_7) rfl rfl k) ?_
  show own_Fin _ _ _ _ _ _ _ T2 (mkF m 8 #[.val (.ref a1)] [(.double (FP.l2d x))])
  refine own_via (fun _ k => XS.aloadN X2.here hx rfl (hb hby own_d_prog_123_3_8) rfl rfl k) ?_
  show own_Fin _ _ _ _ _ _ _ T2 (mkF m 9 #[.val (.ref a1)] [(.ref a1), (.double (FP.l2d x))])
  obtain ⟨T3, X3, e3, st3⟩ := getF X2 hx hZ hown (host := "") (Or.inl (hw _ (List.mem_of_getElem? (i := 25) rfl))) Via.refl e2 F2 (g := (mkF m 9 #[.val (.ref a1)] [(.ref a1), (.double (FP.l2d x))])) rfl rfl (hb hby own_d_prog_123_3_9)
  refine own_via (fun _ k => st3 _ k) ?_
  show own_Fin _ _ _ _ _ _ _ T3 (mkF m 12 #[.val (.ref a1)] [(.ref a3), (.double (FP.l2d x))])
  obtain ⟨T4, X4, e4, st4⟩ := getF X3 hx hZ hown (Or.inr (hw _ (List.mem_of_getElem? (i := 32) rfl))) Via.refl e3 F4 (g := (mkF m 12 #[.val (.ref a1)] [(.ref a3), (.double (FP.l2d x))])) rfl rfl (hb hby own_d_prog_123_3_12)
  refine own_via (fun _ k => st4 _ k) ?_
  show own_Fin _ _ _ _ _ _ _ T4 (mkF m 15 #[.val (.ref a1)] [(.long y), (.double (FP.l2d x))])
  refine own_via (fun _ k => XS.l2dS X4.here hx rfl (hb hby own_d_prog_123_3_15) rfl rfl k) ?_
  show own_Fin _ _ _ _ _ _ _ T4 (mkF m 16 #[.val (.ref a1)] [(.double (FP.l2d y)), (.double (FP.l2d x))])
  refine own_via (fun _ k => XS.ddivS X4.here hx rfl (hb hby own_d_prog_123_3_16) rfl hn rfl k) ?_
  show own_Fin _ _ _ _ _ _ _ T4 (mkF m 17 #[.val (.ref a1)] [(.double (FP.ddiv (FP.l2d x) (FP.l2d y)))])
  exact own_retD X4 hx Bd.returns Bd.notSynchronized (hb hby own_d_prog_123_3_17) e4 rfl ⟨rfl, N0, rfl⟩ (by decide) (by decide)
theorem own_pd0 : parseMethodDescriptor "(JJ)V" = some ⟨[.long, .long], none⟩ := by decide +kernel
theorem own_pd1 : parseMethodDescriptor "(Lcom/example/dependency_container/dependencycontainer/benchmark/StartupBenchmark$Run;Lcom/example/dependency_container/dependencycontainer/benchmark/StartupBenchmark$Run;)V" = some ⟨[(.object "com/example/dependency_container/dependencycontainer/benchmark/StartupBenchmark$Run"), (.object "com/example/dependency_container/dependencycontainer/benchmark/StartupBenchmark$Run")], none⟩ := by decide +kernel
theorem own_pd2 : parseMethodDescriptor "()D" = some ⟨[], some .double⟩ := by decide +kernel
theorem own_pn2 : plainName "com/example/dependency_container/dependencycontainer/benchmark/PairPeakRatioPinLaw" = true := by first | (simp [plainName, overriddenIn]; done) | decide +kernel
theorem own_ef_law (m : MethodId) (q1 : Int64) (q2 : Int64) (q3 : Int64) (q4 : Int64) (q5 : Int64) (q6 : Int64) : entryFrame m #[(.long q1), (.long q2), (.long q3), (.long q4), (.long q5), (.long q6)] maxLocals = mkF m 0 #[.val (.long q1), .second, .val (.long q2), .second, .val (.long q3), .second, .val (.long q4), .second, .val (.long q5), .second, .val (.long q6), .second, .unset, .unset, .unset, .unset, .unset, .unset, .unset, .unset, .unset, .unset, .unset, .unset, .unset, .unset, .unset, .unset, .unset, .unset, .unset] [] := by (first | (simp [entryFrame, mkF, argsToLocals, Value.category, maxLocals]; done) | rfl)
def own_Q_law (Z : State) (q1 : Int64) (q2 : Int64) (q3 : Int64) (q4 : Int64) (q5 : Int64) (q6 : Int64) (h0 : Heap) (n0 : Nat) (v : Option Value) (h : Heap) (L : List Loc) : Prop := (v = some (.int (1 : Int32))) ∧ (Fr n0 L)
set_option maxRecDepth 65536 in
set_option maxHeartbeats 40000000 in
theorem own_rm_law (l : Launch) (Z : State) (a0 : Array Value) (hw : ∀ d ∈ tables_1, d.before a0 Z = true) (ws : List Jvm.Cond) (q1 : Int64) (q2 : Int64) (q3 : Int64) (q4 : Int64) (q5 : Int64) (q6 : Int64) (h0 : Heap) (n0 : Nat) (Z0 : n0 ≤ h0.size) :
    MetFree l x (head1 (Jvm.Cond.code x code maxLocals ret :: ws) room_1) (fun a U => a = #[(.long q1), (.long q2), (.long q3), (.long q4), (.long q5), (.long q6)] ∧ Z.Warmed39 U.vm ∧ U.heap = h0) (fun _ _ _ _ _ => True) (fun _ U o U' => ∃ v L, o = .returned v ∧ own_Q_law Z q1 q2 q3 q4 q5 q6 h0 n0 v U'.heap L ∧ FrameEnd U o U' L room_1.cells room_1.slots) := by
  refine MetFree.of_bodySF (plainFor_of_name own_pn2) hisR ?_
  intro p e s m args below meth cde s₁ Bd hml0 hP hK
  obtain ⟨rfl, hZ, hh⟩ := hP
  have hx := Bd.exec
  have hby := Bd.bytes
  have hml : cde.maxLocals = 31 := hml0
  have hown : s.vm.findClass "com/example/dependency_container/dependencycontainer/benchmark/PairPeakRatioPinLaw" = some m.cls := findClass_of_methodNamed Bd.named
  have hnm := (name_of_methodNamed Bd.named Bd.method).1
  have X0 : Stand p l e room_1 s m #[(.long q1), (.long q2), (.long q3), (.long q4), (.long q5), (.long q6)] below meth cde s₁ [] 0 0 := Stand.of_body Bd
  have e0 : s₁.heap = h0 := by rw [← hh, Bd.state]; rfl
  have N0 := Fr.nil n0
  show own_Fin p e s below (own_Q_law Z q1 q2 q3 q4 q5 q6 h0 n0) room_1.cells room_1.slots s₁ (entryFrame m #[(.long q1), (.long q2), (.long q3), (.long q4), (.long q5), (.long q6)] maxLocals)
  rw [own_ef_law m q1 q2 q3 q4 q5 q6]
  refine own_via (fun _ k => X0.ldc2Long hx hown (mvT hZ (hw _ (List.mem_of_getElem? (i := 0) rfl))) (g := (mkF m 0 #[.val (.long q1), .second, .val (.long q2), .second, .val (.long q3), .second, .val (.long q4), .second, .val (.long q5), .second, .val (.long q6), .second, .unset, .unset, .unset, .unset, .unset, .unset, .unset, .unset, .unset, .unset, .unset, .unset, .unset, .unset, .unset, .unset, .unset, .unset, .unset] [])) rfl (hb hby at_0) _ k) ?_
  show own_Fin _ _ _ _ _ _ _ s₁ (mkF m 3 #[.val (.long q1), .second, .val (.long q2), .second, .val (.long q3), .second, .val (.long q4), .second, .val (.long q5), .second, .val (.long q6), .second, .unset, .unset, .unset, .unset, .unset, .unset, .unset, .unset, .unset, .unset, .unset, .unset, .unset, .unset, .unset, .unset, .unset, .unset, .unset] [(.long (4503599627370495 : Int64))])
  refine own_via (fun _ k => XS.lstore X0.here hx rfl (hb hby at_3) rfl (l' := #[.val (.long q1), .second, .val (.long q2), .second, .val (.long q3), .second, .val (.long q4), .second, .val (.long q5), .second, .val (.long q6), .second, .val (.long (4503599627370495 : Int64)), .second, .unset, .unset, .unset, .unset, .unset, .unset, .unset, .unset, .unset, .unset, .unset, .unset, .unset, .unset, .unset, .unset, .unset]) rfl k) ?_
  show own_Fin _ _ _ _ _ _ _ s₁ (mkF m 5 #[.val (.long q1), .second, .val (.long q2), .second, .val (.long q3), .second, .val (.long q4), .second, .val (.long q5), .second, .val (.long q6), .second, .val (.long (4503599627370495 : Int64)), .second, .unset, .unset, .unset, .unset, .unset, .unset, .unset, .unset, .unset, .unset, .unset, .unset, .unset, .unset, .unset, .unset, .unset] [])
  refine own_via (fun _ k => XS.lloadN X0.here hx rfl (hb hby at_5) rfl k) ?_
  show own_Fin _ _ _ _ _ _ _ s₁ (mkF m 6 #[.val (.long q1), .second, .val (.long q2), .second, .val (.long q3), .second, .val (.long q4), .second, .val (.long q5), .second, .val (.long q6), .second, .val (.long (4503599627370495 : Int64)), .second, .unset, .unset, .unset, .unset, .unset, .unset, .unset, .unset, .unset, .unset, .unset, .unset, .unset, .unset, .unset, .unset, .unset] [(.long q1)])
  refine own_via (fun _ k => XS.lload X0.here hx rfl (hb hby at_6) rfl k) ?_
  show own_Fin _ _ _ _ _ _ _ s₁ (mkF m 8 #[.val (.long q1), .second, .val (.long q2), .second, .val (.long q3), .second, .val (.long q4), .second, .val (.long q5), .second, .val (.long q6), .second, .val (.long (4503599627370495 : Int64)), .second, .unset, .unset, .unset, .unset, .unset, .unset, .unset, .unset, .unset, .unset, .unset, .unset, .unset, .unset, .unset, .unset, .unset] [(.long (4503599627370495 : Int64)), (.long q1)])
  refine own_via (fun _ k => XS.land X0.here hx rfl (hb hby at_8) rfl k) ?_
  show own_Fin _ _ _ _ _ _ _ s₁ (mkF m 9 #[.val (.long q1), .second, .val (.long q2), .second, .val (.long q3), .second, .val (.long q4), .second, .val (.long q5), .second, .val (.long q6), .second, .val (.long (4503599627370495 : Int64)), .second, .unset, .unset, .unset, .unset, .unset, .unset, .unset, .unset, .unset, .unset, .unset, .unset, .unset, .unset, .unset, .unset, .unset] [(.long (q1 &&& (4503599627370495 : Int64)))])
  refine own_via (fun _ k => XS.lconst X0.here hx rfl (hb hby at_9) k) ?_
  show own_Fin _ _ _ _ _ _ _ s₁ (mkF m 10 #[.val (.long q1), .second, .val (.long q2), .second, .val (.long q3), .second, .val (.long q4), .second, .val (.long q5), .second, .val (.long q6), .second, .val (.long (4503599627370495 : Int64)), .second, .unset, .unset, .unset, .unset, .unset, .unset, .unset, .unset, .unset, .unset, .unset, .unset, .unset, .unset, .unset, .unset, .unset] [(.long (1 : Int64)), (.long (q1 &&& (4503599627370495 : Int64)))])
  refine own_via (fun _ k => XS.ladd X0.here hx rfl (hb hby at_10) rfl k) ?_
  show own_Fin _ _ _ _ _ _ _ s₁ (mkF m 11 #[.val (.long q1), .second, .val (.long q2), .second, .val (.long q3), .second, .val (.long q4), .second, .val (.long q5), .second, .val (.long q6), .second, .val (.long (4503599627370495 : Int64)), .second, .unset, .unset, .unset, .unset, .unset, .unset, .unset, .unset, .unset, .unset, .unset, .unset, .unset, .unset, .unset, .unset, .unset] [(.long ((q1 &&& (4503599627370495 : Int64)) + (1 : Int64)))])
  refine own_via (fun _ k => XS.lstore X0.here hx rfl (hb hby at_11) rfl (l' := #[.val (.long q1), .second, .val (.long q2), .second, .val (.long q3), .second, .val (.long q4), .second, .val (.long q5), .second, .val (.long q6), .second, .val (.long (4503599627370495 : Int64)), .second, .val (.long ((q1 &&& (4503599627370495 : Int64)) + (1 : Int64))), .second, .unset, .unset, .unset, .unset, .unset, .unset, .unset, .unset, .unset, .unset, .unset, .unset, .unset, .unset, .unset]) rfl k) ?_
  show own_Fin _ _ _ _ _ _ _ s₁ (mkF m 13 #[.val (.long q1), .second, .val (.long q2), .second, .val (.long q3), .second, .val (.long q4), .second, .val (.long q5), .second, .val (.long q6), .second, .val (.long (4503599627370495 : Int64)), .second, .val (.long ((q1 &&& (4503599627370495 : Int64)) + (1 : Int64))), .second, .unset, .unset, .unset, .unset, .unset, .unset, .unset, .unset, .unset, .unset, .unset, .unset, .unset, .unset, .unset] [])
  refine own_via (fun _ k => XS.lloadN X0.here hx rfl (hb hby at_13) rfl k) ?_
  show own_Fin _ _ _ _ _ _ _ s₁ (mkF m 14 #[.val (.long q1), .second, .val (.long q2), .second, .val (.long q3), .second, .val (.long q4), .second, .val (.long q5), .second, .val (.long q6), .second, .val (.long (4503599627370495 : Int64)), .second, .val (.long ((q1 &&& (4503599627370495 : Int64)) + (1 : Int64))), .second, .unset, .unset, .unset, .unset, .unset, .unset, .unset, .unset, .unset, .unset, .unset, .unset, .unset, .unset, .unset] [(.long q2)])
  refine own_via (fun _ k => XS.lload X0.here hx rfl (hb hby at_14) rfl k) ?_
  show own_Fin _ _ _ _ _ _ _ s₁ (mkF m 16 #[.val (.long q1), .second, .val (.long q2), .second, .val (.long q3), .second, .val (.long q4), .second, .val (.long q5), .second, .val (.long q6), .second, .val (.long (4503599627370495 : Int64)), .second, .val (.long ((q1 &&& (4503599627370495 : Int64)) + (1 : Int64))), .second, .unset, .unset, .unset, .unset, .unset, .unset, .unset, .unset, .unset, .unset, .unset, .unset, .unset, .unset, .unset] [(.long (4503599627370495 : Int64)), (.long q2)])
  refine own_via (fun _ k => XS.land X0.here hx rfl (hb hby at_16) rfl k) ?_
  show own_Fin _ _ _ _ _ _ _ s₁ (mkF m 17 #[.val (.long q1), .second, .val (.long q2), .second, .val (.long q3), .second, .val (.long q4), .second, .val (.long q5), .second, .val (.long q6), .second, .val (.long (4503599627370495 : Int64)), .second, .val (.long ((q1 &&& (4503599627370495 : Int64)) + (1 : Int64))), .second, .unset, .unset, .unset, .unset, .unset, .unset, .unset, .unset, .unset, .unset, .unset, .unset, .unset, .unset, .unset] [(.long (q2 &&& (4503599627370495 : Int64)))])
  refine own_via (fun _ k => XS.lconst X0.here hx rfl (hb hby at_17) k) ?_
  show own_Fin _ _ _ _ _ _ _ s₁ (mkF m 18 #[.val (.long q1), .second, .val (.long q2), .second, .val (.long q3), .second, .val (.long q4), .second, .val (.long q5), .second, .val (.long q6), .second, .val (.long (4503599627370495 : Int64)), .second, .val (.long ((q1 &&& (4503599627370495 : Int64)) + (1 : Int64))), .second, .unset, .unset, .unset, .unset, .unset, .unset, .unset, .unset, .unset, .unset, .unset, .unset, .unset, .unset, .unset] [(.long (1 : Int64)), (.long (q2 &&& (4503599627370495 : Int64)))])
  refine own_via (fun _ k => XS.ladd X0.here hx rfl (hb hby at_18) rfl k) ?_
  show own_Fin _ _ _ _ _ _ _ s₁ (mkF m 19 #[.val (.long q1), .second, .val (.long q2), .second, .val (.long q3), .second, .val (.long q4), .second, .val (.long q5), .second, .val (.long q6), .second, .val (.long (4503599627370495 : Int64)), .second, .val (.long ((q1 &&& (4503599627370495 : Int64)) + (1 : Int64))), .second, .unset, .unset, .unset, .unset, .unset, .unset, .unset, .unset, .unset, .unset, .unset, .unset, .unset, .unset, .unset] [(.long ((q2 &&& (4503599627370495 : Int64)) + (1 : Int64)))])
  refine own_via (fun _ k => XS.lstore X0.here hx rfl (hb hby at_19) rfl (l' := #[.val (.long q1), .second, .val (.long q2), .second, .val (.long q3), .second, .val (.long q4), .second, .val (.long q5), .second, .val (.long q6), .second, .val (.long (4503599627370495 : Int64)), .second, .val (.long ((q1 &&& (4503599627370495 : Int64)) + (1 : Int64))), .second, .val (.long ((q2 &&& (4503599627370495 : Int64)) + (1 : Int64))), .second, .unset, .unset, .unset, .unset, .unset, .unset, .unset, .unset, .unset, .unset, .unset, .unset, .unset]) rfl k) ?_
  show own_Fin _ _ _ _ _ _ _ s₁ (mkF m 21 #[.val (.long q1), .second, .val (.long q2), .second, .val (.long q3), .second, .val (.long q4), .second, .val (.long q5), .second, .val (.long q6), .second, .val (.long (4503599627370495 : Int64)), .second, .val (.long ((q1 &&& (4503599627370495 : Int64)) + (1 : Int64))), .second, .val (.long ((q2 &&& (4503599627370495 : Int64)) + (1 : Int64))), .second, .unset, .unset, .unset, .unset, .unset, .unset, .unset, .unset, .unset, .unset, .unset, .unset, .unset] [])
  refine own_via (fun _ k => XS.lload X0.here hx rfl (hb hby at_21) rfl k) ?_
  show own_Fin _ _ _ _ _ _ _ s₁ (mkF m 23 #[.val (.long q1), .second, .val (.long q2), .second, .val (.long q3), .second, .val (.long q4), .second, .val (.long q5), .second, .val (.long q6), .second, .val (.long (4503599627370495 : Int64)), .second, .val (.long ((q1 &&& (4503599627370495 : Int64)) + (1 : Int64))), .second, .val (.long ((q2 &&& (4503599627370495 : Int64)) + (1 : Int64))), .second, .unset, .unset, .unset, .unset, .unset, .unset, .unset, .unset, .unset, .unset, .unset, .unset, .unset] [(.long q3)])
  refine own_via (fun _ k => X0.ldc2Long hx hown (mvT hZ (hw _ (List.mem_of_getElem? (i := 1) rfl))) (g := (mkF m 23 #[.val (.long q1), .second, .val (.long q2), .second, .val (.long q3), .second, .val (.long q4), .second, .val (.long q5), .second, .val (.long q6), .second, .val (.long (4503599627370495 : Int64)), .second, .val (.long ((q1 &&& (4503599627370495 : Int64)) + (1 : Int64))), .second, .val (.long ((q2 &&& (4503599627370495 : Int64)) + (1 : Int64))), .second, .unset, .unset, .unset, .unset, .unset, .unset, .unset, .unset, .unset, .unset, .unset, .unset, .unset] [(.long q3)])) rfl (hb hby at_23) _ k) ?_
  show own_Fin _ _ _ _ _ _ _ s₁ (mkF m 26 #[.val (.long q1), .second, .val (.long q2), .second, .val (.long q3), .second, .val (.long q4), .second, .val (.long q5), .second, .val (.long q6), .second, .val (.long (4503599627370495 : Int64)), .second, .val (.long ((q1 &&& (4503599627370495 : Int64)) + (1 : Int64))), .second, .val (.long ((q2 &&& (4503599627370495 : Int64)) + (1 : Int64))), .second, .unset, .unset, .unset, .unset, .unset, .unset, .unset, .unset, .unset, .unset, .unset, .unset, .unset] [(.long (65535 : Int64)), (.long q3)])
  refine own_via (fun _ k => XS.land X0.here hx rfl (hb hby at_26) rfl k) ?_
  show own_Fin _ _ _ _ _ _ _ s₁ (mkF m 27 #[.val (.long q1), .second, .val (.long q2), .second, .val (.long q3), .second, .val (.long q4), .second, .val (.long q5), .second, .val (.long q6), .second, .val (.long (4503599627370495 : Int64)), .second, .val (.long ((q1 &&& (4503599627370495 : Int64)) + (1 : Int64))), .second, .val (.long ((q2 &&& (4503599627370495 : Int64)) + (1 : Int64))), .second, .unset, .unset, .unset, .unset, .unset, .unset, .unset, .unset, .unset, .unset, .unset, .unset, .unset] [(.long (q3 &&& (65535 : Int64)))])
  refine own_via (fun _ k => XS.lstore X0.here hx rfl (hb hby at_27) rfl (l' := #[.val (.long q1), .second, .val (.long q2), .second, .val (.long q3), .second, .val (.long q4), .second, .val (.long q5), .second, .val (.long q6), .second, .val (.long (4503599627370495 : Int64)), .second, .val (.long ((q1 &&& (4503599627370495 : Int64)) + (1 : Int64))), .second, .val (.long ((q2 &&& (4503599627370495 : Int64)) + (1 : Int64))), .second, .val (.long (q3 &&& (65535 : Int64))), .second, .unset, .unset, .unset, .unset, .unset, .unset, .unset, .unset, .unset, .unset, .unset]) rfl k) ?_
  show own_Fin _ _ _ _ _ _ _ s₁ (mkF m 29 #[.val (.long q1), .second, .val (.long q2), .second, .val (.long q3), .second, .val (.long q4), .second, .val (.long q5), .second, .val (.long q6), .second, .val (.long (4503599627370495 : Int64)), .second, .val (.long ((q1 &&& (4503599627370495 : Int64)) + (1 : Int64))), .second, .val (.long ((q2 &&& (4503599627370495 : Int64)) + (1 : Int64))), .second, .val (.long (q3 &&& (65535 : Int64))), .second, .unset, .unset, .unset, .unset, .unset, .unset, .unset, .unset, .unset, .unset, .unset] [])
  refine own_via (fun _ k => XS.lload X0.here hx rfl (hb hby at_29) rfl k) ?_
  show own_Fin _ _ _ _ _ _ _ s₁ (mkF m 31 #[.val (.long q1), .second, .val (.long q2), .second, .val (.long q3), .second, .val (.long q4), .second, .val (.long q5), .second, .val (.long q6), .second, .val (.long (4503599627370495 : Int64)), .second, .val (.long ((q1 &&& (4503599627370495 : Int64)) + (1 : Int64))), .second, .val (.long ((q2 &&& (4503599627370495 : Int64)) + (1 : Int64))), .second, .val (.long (q3 &&& (65535 : Int64))), .second, .unset, .unset, .unset, .unset, .unset, .unset, .unset, .unset, .unset, .unset, .unset] [(.long q4)])
  refine own_via (fun _ k => X0.ldc2Long hx hown (mvT hZ (hw _ (List.mem_of_getElem? (i := 2) rfl))) (g := (mkF m 31 #[.val (.long q1), .second, .val (.long q2), .second, .val (.long q3), .second, .val (.long q4), .second, .val (.long q5), .second, .val (.long q6), .second, .val (.long (4503599627370495 : Int64)), .second, .val (.long ((q1 &&& (4503599627370495 : Int64)) + (1 : Int64))), .second, .val (.long ((q2 &&& (4503599627370495 : Int64)) + (1 : Int64))), .second, .val (.long (q3 &&& (65535 : Int64))), .second, .unset, .unset, .unset, .unset, .unset, .unset, .unset, .unset, .unset, .unset, .unset] [(.long q4)])) rfl (hb hby at_31) _ k) ?_
  show own_Fin _ _ _ _ _ _ _ s₁ (mkF m 34 #[.val (.long q1), .second, .val (.long q2), .second, .val (.long q3), .second, .val (.long q4), .second, .val (.long q5), .second, .val (.long q6), .second, .val (.long (4503599627370495 : Int64)), .second, .val (.long ((q1 &&& (4503599627370495 : Int64)) + (1 : Int64))), .second, .val (.long ((q2 &&& (4503599627370495 : Int64)) + (1 : Int64))), .second, .val (.long (q3 &&& (65535 : Int64))), .second, .unset, .unset, .unset, .unset, .unset, .unset, .unset, .unset, .unset, .unset, .unset] [(.long (268435455 : Int64)), (.long q4)])
  refine own_via (fun _ k => XS.land X0.here hx rfl (hb hby at_34) rfl k) ?_
  show own_Fin _ _ _ _ _ _ _ s₁ (mkF m 35 #[.val (.long q1), .second, .val (.long q2), .second, .val (.long q3), .second, .val (.long q4), .second, .val (.long q5), .second, .val (.long q6), .second, .val (.long (4503599627370495 : Int64)), .second, .val (.long ((q1 &&& (4503599627370495 : Int64)) + (1 : Int64))), .second, .val (.long ((q2 &&& (4503599627370495 : Int64)) + (1 : Int64))), .second, .val (.long (q3 &&& (65535 : Int64))), .second, .unset, .unset, .unset, .unset, .unset, .unset, .unset, .unset, .unset, .unset, .unset] [(.long (q4 &&& (268435455 : Int64)))])
  refine own_via (fun _ k => XS.lconst X0.here hx rfl (hb hby at_35) k) ?_
  show own_Fin _ _ _ _ _ _ _ s₁ (mkF m 36 #[.val (.long q1), .second, .val (.long q2), .second, .val (.long q3), .second, .val (.long q4), .second, .val (.long q5), .second, .val (.long q6), .second, .val (.long (4503599627370495 : Int64)), .second, .val (.long ((q1 &&& (4503599627370495 : Int64)) + (1 : Int64))), .second, .val (.long ((q2 &&& (4503599627370495 : Int64)) + (1 : Int64))), .second, .val (.long (q3 &&& (65535 : Int64))), .second, .unset, .unset, .unset, .unset, .unset, .unset, .unset, .unset, .unset, .unset, .unset] [(.long (1 : Int64)), (.long (q4 &&& (268435455 : Int64)))])
  refine own_via (fun _ k => XS.ladd X0.here hx rfl (hb hby at_36) rfl k) ?_
  show own_Fin _ _ _ _ _ _ _ s₁ (mkF m 37 #[.val (.long q1), .second, .val (.long q2), .second, .val (.long q3), .second, .val (.long q4), .second, .val (.long q5), .second, .val (.long q6), .second, .val (.long (4503599627370495 : Int64)), .second, .val (.long ((q1 &&& (4503599627370495 : Int64)) + (1 : Int64))), .second, .val (.long ((q2 &&& (4503599627370495 : Int64)) + (1 : Int64))), .second, .val (.long (q3 &&& (65535 : Int64))), .second, .unset, .unset, .unset, .unset, .unset, .unset, .unset, .unset, .unset, .unset, .unset] [(.long ((q4 &&& (268435455 : Int64)) + (1 : Int64)))])
  refine own_via (fun _ k => XS.lstore X0.here hx rfl (hb hby at_37) rfl (l' := #[.val (.long q1), .second, .val (.long q2), .second, .val (.long q3), .second, .val (.long q4), .second, .val (.long q5), .second, .val (.long q6), .second, .val (.long (4503599627370495 : Int64)), .second, .val (.long ((q1 &&& (4503599627370495 : Int64)) + (1 : Int64))), .second, .val (.long ((q2 &&& (4503599627370495 : Int64)) + (1 : Int64))), .second, .val (.long (q3 &&& (65535 : Int64))), .second, .val (.long ((q4 &&& (268435455 : Int64)) + (1 : Int64))), .second, .unset, .unset, .unset, .unset, .unset, .unset, .unset, .unset, .unset]) rfl k) ?_
  show own_Fin _ _ _ _ _ _ _ s₁ (mkF m 39 #[.val (.long q1), .second, .val (.long q2), .second, .val (.long q3), .second, .val (.long q4), .second, .val (.long q5), .second, .val (.long q6), .second, .val (.long (4503599627370495 : Int64)), .second, .val (.long ((q1 &&& (4503599627370495 : Int64)) + (1 : Int64))), .second, .val (.long ((q2 &&& (4503599627370495 : Int64)) + (1 : Int64))), .second, .val (.long (q3 &&& (65535 : Int64))), .second, .val (.long ((q4 &&& (268435455 : Int64)) + (1 : Int64))), .second, .unset, .unset, .unset, .unset, .unset, .unset, .unset, .unset, .unset] [])
  obtain ⟨T1, h1, X1, e1, E1, A1, D1, -, st1⟩ := newO X0 hx hZ hown (hw _ (List.mem_of_getElem? (i := 3) rfl)) (hw _ (List.mem_of_getElem? (i := 4) rfl)) (hw _ (List.mem_of_getElem? (i := 5) rfl)) e0 (g := (mkF m 39 #[.val (.long q1), .second, .val (.long q2), .second, .val (.long q3), .second, .val (.long q4), .second, .val (.long q5), .second, .val (.long q6), .second, .val (.long (4503599627370495 : Int64)), .second, .val (.long ((q1 &&& (4503599627370495 : Int64)) + (1 : Int64))), .second, .val (.long ((q2 &&& (4503599627370495 : Int64)) + (1 : Int64))), .second, .val (.long (q3 &&& (65535 : Int64))), .second, .val (.long ((q4 &&& (268435455 : Int64)) + (1 : Int64))), .second, .unset, .unset, .unset, .unset, .unset, .unset, .unset, .unset, .unset] [])) rfl (hb hby at_39) (by decide) (by decide)
  obtain ⟨b1, g1⟩ : ∃ z, z = h0.size := ⟨_, rfl⟩
  rw [← g1] at A1 D1 st1
  have F2 : Fld Z h1 b1 "com/example/dependency_container/dependencycontainer/benchmark/StartupBenchmark$Pair" "container" "Lcom/example/dependency_container/dependencycontainer/benchmark/StartupBenchmark$Run;" .null := D1 (Or.inr (hw _ (List.mem_of_getElem? (i := 24) rfl))) (ty := (.object "com/example/dependency_container/dependencycontainer/benchmark/StartupBenchmark$Run")) (by decide)
  have F3 : Fld Z h1 b1 "com/example/dependency_container/dependencycontainer/benchmark/StartupBenchmark$Pair" "parse" "Lcom/example/dependency_container/dependencycontainer/benchmark/StartupBenchmark$Run;" .null := D1 (Or.inr (hw _ (List.mem_of_getElem? (i := 26) rfl))) (ty := (.object "com/example/dependency_container/dependencycontainer/benchmark/StartupBenchmark$Run")) (by decide)
  refine own_via (fun _ k => st1 _ k) ?_
  show own_Fin _ _ _ _ _ _ _ T1 (mkF m 42 #[.val (.long q1), .second, .val (.long q2), .second, .val (.long q3), .second, .val (.long q4), .second, .val (.long q5), .second, .val (.long q6), .second, .val (.long (4503599627370495 : Int64)), .second, .val (.long ((q1 &&& (4503599627370495 : Int64)) + (1 : Int64))), .second, .val (.long ((q2 &&& (4503599627370495 : Int64)) + (1 : Int64))), .second, .val (.long (q3 &&& (65535 : Int64))), .second, .val (.long ((q4 &&& (268435455 : Int64)) + (1 : Int64))), .second, .unset, .unset, .unset, .unset, .unset, .unset, .unset, .unset, .unset] [(.ref b1)])
  refine own_via (fun _ k => XS.dup X1.here hx rfl (hb hby at_42) rfl rfl k) ?_
  show own_Fin _ _ _ _ _ _ _ T1 (mkF m 43 #[.val (.long q1), .second, .val (.long q2), .second, .val (.long q3), .second, .val (.long q4), .second, .val (.long q5), .second, .val (.long q6), .second, .val (.long (4503599627370495 : Int64)), .second, .val (.long ((q1 &&& (4503599627370495 : Int64)) + (1 : Int64))), .second, .val (.long ((q2 &&& (4503599627370495 : Int64)) + (1 : Int64))), .second, .val (.long (q3 &&& (65535 : Int64))), .second, .val (.long ((q4 &&& (268435455 : Int64)) + (1 : Int64))), .second, .unset, .unset, .unset, .unset, .unset, .unset, .unset, .unset, .unset] [(.ref b1), (.ref b1)])
  obtain ⟨T4, h4, X4, e4, E4, A4, D4, -, st4⟩ := newO X1 hx hZ hown (hw _ (List.mem_of_getElem? (i := 6) rfl)) (hw _ (List.mem_of_getElem? (i := 7) rfl)) (hw _ (List.mem_of_getElem? (i := 8) rfl)) e1 (g := (mkF m 43 #[.val (.long q1), .second, .val (.long q2), .second, .val (.long q3), .second, .val (.long q4), .second, .val (.long q5), .second, .val (.long q6), .second, .val (.long (4503599627370495 : Int64)), .second, .val (.long ((q1 &&& (4503599627370495 : Int64)) + (1 : Int64))), .second, .val (.long ((q2 &&& (4503599627370495 : Int64)) + (1 : Int64))), .second, .val (.long (q3 &&& (65535 : Int64))), .second, .val (.long ((q4 &&& (268435455 : Int64)) + (1 : Int64))), .second, .unset, .unset, .unset, .unset, .unset, .unset, .unset, .unset, .unset] [(.ref b1), (.ref b1)])) rfl (hb hby at_43) (by decide) (by decide)
  obtain ⟨b4, g4⟩ : ∃ z, z = h1.size := ⟨_, rfl⟩
  rw [← g4] at A4 D4 st4
  have F5 : Fld Z h4 b4 "com/example/dependency_container/dependencycontainer/benchmark/StartupBenchmark$Run" "wallNanos" "J" (.long (0 : Int64)) := D4 (Or.inr (hw _ (List.mem_of_getElem? (i := 16) rfl))) (ty := .long) (by decide)
  have F6 : Fld Z h4 b4 "com/example/dependency_container/dependencycontainer/benchmark/StartupBenchmark$Run" "peakKilobytes" "J" (.long (0 : Int64)) := D4 (Or.inr (hw _ (List.mem_of_getElem? (i := 18) rfl))) (ty := .long) (by decide)
  refine own_via (fun _ k => st4 _ k) ?_
  show own_Fin _ _ _ _ _ _ _ T4 (mkF m 46 #[.val (.long q1), .second, .val (.long q2), .second, .val (.long q3), .second, .val (.long q4), .second, .val (.long q5), .second, .val (.long q6), .second, .val (.long (4503599627370495 : Int64)), .second, .val (.long ((q1 &&& (4503599627370495 : Int64)) + (1 : Int64))), .second, .val (.long ((q2 &&& (4503599627370495 : Int64)) + (1 : Int64))), .second, .val (.long (q3 &&& (65535 : Int64))), .second, .val (.long ((q4 &&& (268435455 : Int64)) + (1 : Int64))), .second, .unset, .unset, .unset, .unset, .unset, .unset, .unset, .unset, .unset] [(.ref b4), (.ref b1), (.ref b1)])
  refine own_via (fun _ k => XS.dup X4.here hx rfl (hb hby at_46) rfl rfl k) ?_
  show own_Fin _ _ _ _ _ _ _ T4 (mkF m 47 #[.val (.long q1), .second, .val (.long q2), .second, .val (.long q3), .second, .val (.long q4), .second, .val (.long q5), .second, .val (.long q6), .second, .val (.long (4503599627370495 : Int64)), .second, .val (.long ((q1 &&& (4503599627370495 : Int64)) + (1 : Int64))), .second, .val (.long ((q2 &&& (4503599627370495 : Int64)) + (1 : Int64))), .second, .val (.long (q3 &&& (65535 : Int64))), .second, .val (.long ((q4 &&& (268435455 : Int64)) + (1 : Int64))), .second, .unset, .unset, .unset, .unset, .unset, .unset, .unset, .unset, .unset] [(.ref b4), (.ref b4), (.ref b1), (.ref b1)])
  refine own_via (fun _ k => XS.lload X4.here hx rfl (hb hby at_47) rfl k) ?_
  show own_Fin _ _ _ _ _ _ _ T4 (mkF m 49 #[.val (.long q1), .second, .val (.long q2), .second, .val (.long q3), .second, .val (.long q4), .second, .val (.long q5), .second, .val (.long q6), .second, .val (.long (4503599627370495 : Int64)), .second, .val (.long ((q1 &&& (4503599627370495 : Int64)) + (1 : Int64))), .second, .val (.long ((q2 &&& (4503599627370495 : Int64)) + (1 : Int64))), .second, .val (.long (q3 &&& (65535 : Int64))), .second, .val (.long ((q4 &&& (268435455 : Int64)) + (1 : Int64))), .second, .unset, .unset, .unset, .unset, .unset, .unset, .unset, .unset, .unset] [(.long q5), (.ref b4), (.ref b4), (.ref b1), (.ref b1)])
  refine own_via (fun _ k => XS.lload X4.here hx rfl (hb hby at_49) rfl k) ?_
  show own_Fin _ _ _ _ _ _ _ T4 (mkF m 51 #[.val (.long q1), .second, .val (.long q2), .second, .val (.long q3), .second, .val (.long q4), .second, .val (.long q5), .second, .val (.long q6), .second, .val (.long (4503599627370495 : Int64)), .second, .val (.long ((q1 &&& (4503599627370495 : Int64)) + (1 : Int64))), .second, .val (.long ((q2 &&& (4503599627370495 : Int64)) + (1 : Int64))), .second, .val (.long (q3 &&& (65535 : Int64))), .second, .val (.long ((q4 &&& (268435455 : Int64)) + (1 : Int64))), .second, .unset, .unset, .unset, .unset, .unset, .unset, .unset, .unset, .unset] [(.long ((q1 &&& (4503599627370495 : Int64)) + (1 : Int64))), (.long q5), (.ref b4), (.ref b4), (.ref b1), (.ref b1)])
  have g8 : n0 ≤ b4 := Nat.le_trans (Nat.le_trans Z0 E1.1) (Nat.le_of_eq g4.symm)
  obtain ⟨_, _, ⟨T7, L7, k7, n7⟩, -, X7, ⟨Lc7, hQ7, l7, y7, z7⟩, st7⟩ := X4.specialBack hx (y := (⟨"com/example/dependency_container/dependencycontainer/benchmark/StartupBenchmark$Run", "<init>", "(JJ)V"⟩ : MethodName)) rfl hown (mvT hZ (hw _ (List.mem_of_getElem? (i := 9) rfl))) (mvT hZ (hw _ (List.mem_of_getElem? (i := 10) rfl))) (mvT hZ (hw _ (List.mem_of_getElem? (i := 11) rfl))) (by decide) (backOf (W := 3) (own_rm_runInit l Z a0 hw [] b4 q5 ((q1 &&& (4503599627370495 : Int64)) + (1 : Int64)) (.long (0 : Int64)) (.long (0 : Int64)) h4 n0 (Nat.le_trans Z0 (Nat.le_trans E1.1 E4.1)) A4 F5 F6 g8) hZ (hw _ (List.mem_of_getElem? (i := 11) rfl)) (hw _ (List.mem_of_getElem? (i := 8) rfl)) (by decide) (by decide)) (g := (mkF m 51 #[.val (.long q1), .second, .val (.long q2), .second, .val (.long q3), .second, .val (.long q4), .second, .val (.long q5), .second, .val (.long q6), .second, .val (.long (4503599627370495 : Int64)), .second, .val (.long ((q1 &&& (4503599627370495 : Int64)) + (1 : Int64))), .second, .val (.long ((q2 &&& (4503599627370495 : Int64)) + (1 : Int64))), .second, .val (.long (q3 &&& (65535 : Int64))), .second, .val (.long ((q4 &&& (268435455 : Int64)) + (1 : Int64))), .second, .unset, .unset, .unset, .unset, .unset, .unset, .unset, .unset, .unset] [(.long ((q1 &&& (4503599627370495 : Int64)) + (1 : Int64))), (.long q5), (.ref b4), (.ref b4), (.ref b1), (.ref b1)])) rfl (by rw [hml]; rfl) (Steps.refl _) (a := b4) (argsL := [(.long q5), (.long ((q1 &&& (4503599627370495 : Int64)) + (1 : Int64)))]) (rest := [(.ref b4), (.ref b1), (.ref b1)]) (lenOf own_pd0 rfl) rfl (by show 2 * 0 + _ ≤ _; exact Nat.le_of_eq rfl) (hb hby at_51) (fun _ _ => ⟨rfl, e4, (by decide : 0 + 1 + 1 + 0 ≤ _), (by decide : 0 + 2 + 2 + 0 ≤ _)⟩)
  dsimp only [Pt.U, Pt.locs, Pt.cells, Pt.slots] at X7 l7 y7 z7 st7 hQ7
  subst l7 y7 z7
  obtain ⟨rfl, Nq7, K7, r9, r10, r11⟩ := hQ7
  have N7 := Fr.app N0 Nq7
  refine own_via (fun _ k => st7.trans k) ?_
  show own_Fin _ _ _ _ _ _ _ T7 (mkF m 54 #[.val (.long q1), .second, .val (.long q2), .second, .val (.long q3), .second, .val (.long q4), .second, .val (.long q5), .second, .val (.long q6), .second, .val (.long (4503599627370495 : Int64)), .second, .val (.long ((q1 &&& (4503599627370495 : Int64)) + (1 : Int64))), .second, .val (.long ((q2 &&& (4503599627370495 : Int64)) + (1 : Int64))), .second, .val (.long (q3 &&& (65535 : Int64))), .second, .val (.long ((q4 &&& (268435455 : Int64)) + (1 : Int64))), .second, .unset, .unset, .unset, .unset, .unset, .unset, .unset, .unset, .unset] [(.ref b4), (.ref b1), (.ref b1)])
  obtain ⟨T12, h12, X12, e12, E12, A12, D12, -, st12⟩ := newO X7 hx hZ hown (hw _ (List.mem_of_getElem? (i := 6) rfl)) (hw _ (List.mem_of_getElem? (i := 7) rfl)) (hw _ (List.mem_of_getElem? (i := 8) rfl)) rfl (g := (mkF m 54 #[.val (.long q1), .second, .val (.long q2), .second, .val (.long q3), .second, .val (.long q4), .second, .val (.long q5), .second, .val (.long q6), .second, .val (.long (4503599627370495 : Int64)), .second, .val (.long ((q1 &&& (4503599627370495 : Int64)) + (1 : Int64))), .second, .val (.long ((q2 &&& (4503599627370495 : Int64)) + (1 : Int64))), .second, .val (.long (q3 &&& (65535 : Int64))), .second, .val (.long ((q4 &&& (268435455 : Int64)) + (1 : Int64))), .second, .unset, .unset, .unset, .unset, .unset, .unset, .unset, .unset, .unset] [(.ref b4), (.ref b1), (.ref b1)])) rfl (hb hby at_54) (by decide) (by decide)
  obtain ⟨b12, g12⟩ : ∃ z, z = T7.heap.size := ⟨_, rfl⟩
  rw [← g12] at A12 D12 st12
  have F13 : Fld Z h12 b12 "com/example/dependency_container/dependencycontainer/benchmark/StartupBenchmark$Run" "wallNanos" "J" (.long (0 : Int64)) := D12 (Or.inr (hw _ (List.mem_of_getElem? (i := 16) rfl))) (ty := .long) (by decide)
  have F14 : Fld Z h12 b12 "com/example/dependency_container/dependencycontainer/benchmark/StartupBenchmark$Run" "peakKilobytes" "J" (.long (0 : Int64)) := D12 (Or.inr (hw _ (List.mem_of_getElem? (i := 18) rfl))) (ty := .long) (by decide)
  refine own_via (fun _ k => st12 _ k) ?_
  show own_Fin _ _ _ _ _ _ _ T12 (mkF m 57 #[.val (.long q1), .second, .val (.long q2), .second, .val (.long q3), .second, .val (.long q4), .second, .val (.long q5), .second, .val (.long q6), .second, .val (.long (4503599627370495 : Int64)), .second, .val (.long ((q1 &&& (4503599627370495 : Int64)) + (1 : Int64))), .second, .val (.long ((q2 &&& (4503599627370495 : Int64)) + (1 : Int64))), .second, .val (.long (q3 &&& (65535 : Int64))), .second, .val (.long ((q4 &&& (268435455 : Int64)) + (1 : Int64))), .second, .unset, .unset, .unset, .unset, .unset, .unset, .unset, .unset, .unset] [(.ref b12), (.ref b4), (.ref b1), (.ref b1)])
  refine own_via (fun _ k => XS.dup X12.here hx rfl (hb hby at_57) rfl rfl k) ?_
  show own_Fin _ _ _ _ _ _ _ T12 (mkF m 58 #[.val (.long q1), .second, .val (.long q2), .second, .val (.long q3), .second, .val (.long q4), .second, .val (.long q5), .second, .val (.long q6), .second, .val (.long (4503599627370495 : Int64)), .second, .val (.long ((q1 &&& (4503599627370495 : Int64)) + (1 : Int64))), .second, .val (.long ((q2 &&& (4503599627370495 : Int64)) + (1 : Int64))), .second, .val (.long (q3 &&& (65535 : Int64))), .second, .val (.long ((q4 &&& (268435455 : Int64)) + (1 : Int64))), .second, .unset, .unset, .unset, .unset, .unset, .unset, .unset, .unset, .unset] [(.ref b12), (.ref b12), (.ref b4), (.ref b1), (.ref b1)])
  refine own_via (fun _ k => XS.lload X12.here hx rfl (hb hby at_58) rfl k) ?_
  show own_Fin _ _ _ _ _ _ _ T12 (mkF m 60 #[.val (.long q1), .second, .val (.long q2), .second, .val (.long q3), .second, .val (.long q4), .second, .val (.long q5), .second, .val (.long q6), .second, .val (.long (4503599627370495 : Int64)), .second, .val (.long ((q1 &&& (4503599627370495 : Int64)) + (1 : Int64))), .second, .val (.long ((q2 &&& (4503599627370495 : Int64)) + (1 : Int64))), .second, .val (.long (q3 &&& (65535 : Int64))), .second, .val (.long ((q4 &&& (268435455 : Int64)) + (1 : Int64))), .second, .unset, .unset, .unset, .unset, .unset, .unset, .unset, .unset, .unset] [(.long q6), (.ref b12), (.ref b12), (.ref b4), (.ref b1), (.ref b1)])
  refine own_via (fun _ k => XS.lload X12.here hx rfl (hb hby at_60) rfl k) ?_
  show own_Fin _ _ _ _ _ _ _ T12 (mkF m 62 #[.val (.long q1), .second, .val (.long q2), .second, .val (.long q3), .second, .val (.long q4), .second, .val (.long q5), .second, .val (.long q6), .second, .val (.long (4503599627370495 : Int64)), .second, .val (.long ((q1 &&& (4503599627370495 : Int64)) + (1 : Int64))), .second, .val (.long ((q2 &&& (4503599627370495 : Int64)) + (1 : Int64))), .second, .val (.long (q3 &&& (65535 : Int64))), .second, .val (.long ((q4 &&& (268435455 : Int64)) + (1 : Int64))), .second, .unset, .unset, .unset, .unset, .unset, .unset, .unset, .unset, .unset] [(.long ((q2 &&& (4503599627370495 : Int64)) + (1 : Int64))), (.long q6), (.ref b12), (.ref b12), (.ref b4), (.ref b1), (.ref b1)])
  have g16 : n0 ≤ b12 := Nat.le_trans (Nat.le_trans Z0 (Nat.le_trans (Nat.le_trans E1.1 E4.1) K7.1)) (Nat.le_of_eq g12.symm)
  obtain ⟨_, _, ⟨T15, L15, k15, n15⟩, -, X15, ⟨Lc15, hQ15, l15, y15, z15⟩, st15⟩ := X12.specialBack hx (y := (⟨"com/example/dependency_container/dependencycontainer/benchmark/StartupBenchmark$Run", "<init>", "(JJ)V"⟩ : MethodName)) rfl hown (mvT hZ (hw _ (List.mem_of_getElem? (i := 9) rfl))) (mvT hZ (hw _ (List.mem_of_getElem? (i := 10) rfl))) (mvT hZ (hw _ (List.mem_of_getElem? (i := 11) rfl))) (by decide) (backOf (W := 4) (own_rm_runInit l Z a0 hw [] b12 q6 ((q2 &&& (4503599627370495 : Int64)) + (1 : Int64)) (.long (0 : Int64)) (.long (0 : Int64)) h12 n0 (Nat.le_trans Z0 (Nat.le_trans (Nat.le_trans (Nat.le_trans E1.1 E4.1) K7.1) E12.1)) A12 F13 F14 g16) hZ (hw _ (List.mem_of_getElem? (i := 11) rfl)) (hw _ (List.mem_of_getElem? (i := 8) rfl)) (by decide) (by decide)) (g := (mkF m 62 #[.val (.long q1), .second, .val (.long q2), .second, .val (.long q3), .second, .val (.long q4), .second, .val (.long q5), .second, .val (.long q6), .second, .val (.long (4503599627370495 : Int64)), .second, .val (.long ((q1 &&& (4503599627370495 : Int64)) + (1 : Int64))), .second, .val (.long ((q2 &&& (4503599627370495 : Int64)) + (1 : Int64))), .second, .val (.long (q3 &&& (65535 : Int64))), .second, .val (.long ((q4 &&& (268435455 : Int64)) + (1 : Int64))), .second, .unset, .unset, .unset, .unset, .unset, .unset, .unset, .unset, .unset] [(.long ((q2 &&& (4503599627370495 : Int64)) + (1 : Int64))), (.long q6), (.ref b12), (.ref b12), (.ref b4), (.ref b1), (.ref b1)])) rfl (by rw [hml]; rfl) (Steps.refl _) (a := b12) (argsL := [(.long q6), (.long ((q2 &&& (4503599627370495 : Int64)) + (1 : Int64)))]) (rest := [(.ref b12), (.ref b4), (.ref b1), (.ref b1)]) (lenOf own_pd0 rfl) rfl (by show 2 * 0 + _ ≤ _; exact Nat.le_of_eq rfl) (hb hby at_62) (fun _ _ => ⟨rfl, e12, (by decide : 0 + 1 + 1 + 0 + 1 + 0 ≤ _), (by decide : 0 + 2 + 2 + 0 + 2 + 0 ≤ _)⟩)
  dsimp only [Pt.U, Pt.locs, Pt.cells, Pt.slots] at X15 l15 y15 z15 st15 hQ15
  subst l15 y15 z15
  obtain ⟨rfl, Nq15, K15, r17, r18, r19⟩ := hQ15
  have N15 := Fr.app N7 Nq15
  refine own_via (fun _ k => st15.trans k) ?_
  show own_Fin _ _ _ _ _ _ _ T15 (mkF m 65 #[.val (.long q1), .second, .val (.long q2), .second, .val (.long q3), .second, .val (.long q4), .second, .val (.long q5), .second, .val (.long q6), .second, .val (.long (4503599627370495 : Int64)), .second, .val (.long ((q1 &&& (4503599627370495 : Int64)) + (1 : Int64))), .second, .val (.long ((q2 &&& (4503599627370495 : Int64)) + (1 : Int64))), .second, .val (.long (q3 &&& (65535 : Int64))), .second, .val (.long ((q4 &&& (268435455 : Int64)) + (1 : Int64))), .second, .unset, .unset, .unset, .unset, .unset, .unset, .unset, .unset, .unset] [(.ref b12), (.ref b4), (.ref b1), (.ref b1)])
  have q21 : b1 ≠ b4 := Nat.ne_of_lt (Nat.lt_of_lt_of_le A1.lt (Nat.le_of_eq g4.symm))
  have q22 : b1 ≠ b12 := Nat.ne_of_lt (Nat.lt_of_lt_of_le ((A1.ext E4).keep K7).lt (Nat.le_of_eq g12.symm))
  have f23 := ((((F2.ext E4).keep K7 (ninS q21 nin0)).ext E12).keep K15 (ninS q22 nin0))
  have f24 := ((((F3.ext E4).keep K7 (ninS q21 nin0)).ext E12).keep K15 (ninS q22 nin0))
  have g25 : n0 ≤ b1 := Nat.le_trans Z0 (Nat.le_of_eq g1.symm)
  obtain ⟨_, _, ⟨T20, L20, k20, n20⟩, -, X20, ⟨Lc20, hQ20, l20, y20, z20⟩, st20⟩ := X15.specialBack hx (y := (⟨"com/example/dependency_container/dependencycontainer/benchmark/StartupBenchmark$Pair", "<init>", "(Lcom/example/dependency_container/dependencycontainer/benchmark/StartupBenchmark$Run;Lcom/example/dependency_container/dependencycontainer/benchmark/StartupBenchmark$Run;)V"⟩ : MethodName)) rfl hown (mvT hZ (hw _ (List.mem_of_getElem? (i := 19) rfl))) (mvT hZ (hw _ (List.mem_of_getElem? (i := 20) rfl))) (mvT hZ (hw _ (List.mem_of_getElem? (i := 21) rfl))) (by decide) (backOf (W := 1) (own_rm_pairInit l Z a0 hw [] b1 b4 b12 .null .null T15.heap n0 (Nat.le_trans Z0 (Nat.le_trans (Nat.le_trans (Nat.le_trans (Nat.le_trans E1.1 E4.1) K7.1) E12.1) K15.1)) ((((A1.ext E4).keep K7).ext E12).keep K15) f23 f24 g25) hZ (hw _ (List.mem_of_getElem? (i := 21) rfl)) (hw _ (List.mem_of_getElem? (i := 5) rfl)) (by decide) (by decide)) (g := (mkF m 65 #[.val (.long q1), .second, .val (.long q2), .second, .val (.long q3), .second, .val (.long q4), .second, .val (.long q5), .second, .val (.long q6), .second, .val (.long (4503599627370495 : Int64)), .second, .val (.long ((q1 &&& (4503599627370495 : Int64)) + (1 : Int64))), .second, .val (.long ((q2 &&& (4503599627370495 : Int64)) + (1 : Int64))), .second, .val (.long (q3 &&& (65535 : Int64))), .second, .val (.long ((q4 &&& (268435455 : Int64)) + (1 : Int64))), .second, .unset, .unset, .unset, .unset, .unset, .unset, .unset, .unset, .unset] [(.ref b12), (.ref b4), (.ref b1), (.ref b1)])) rfl (by rw [hml]; rfl) (Steps.refl _) (a := b1) (argsL := [(.ref b4), (.ref b12)]) (rest := [(.ref b1)]) (lenOf own_pd1 rfl) rfl (by show 2 * 0 + _ ≤ _; exact Nat.le_of_eq rfl) (hb hby at_65) (fun _ _ => ⟨rfl, rfl, (by decide : 0 + 1 + 1 + 0 + 1 + 0 + 0 ≤ _), (by decide : 0 + 2 + 2 + 0 + 2 + 0 + 0 ≤ _)⟩)
  dsimp only [Pt.U, Pt.locs, Pt.cells, Pt.slots] at X20 l20 y20 z20 st20 hQ20
  subst l20 y20 z20
  obtain ⟨rfl, Nq20, K20, r26, r27, r28⟩ := hQ20
  have N20 := Fr.app N15 Nq20
  refine own_via (fun _ k => st20.trans k) ?_
  show own_Fin _ _ _ _ _ _ _ T20 (mkF m 68 #[.val (.long q1), .second, .val (.long q2), .second, .val (.long q3), .second, .val (.long q4), .second, .val (.long q5), .second, .val (.long q6), .second, .val (.long (4503599627370495 : Int64)), .second, .val (.long ((q1 &&& (4503599627370495 : Int64)) + (1 : Int64))), .second, .val (.long ((q2 &&& (4503599627370495 : Int64)) + (1 : Int64))), .second, .val (.long (q3 &&& (65535 : Int64))), .second, .val (.long ((q4 &&& (268435455 : Int64)) + (1 : Int64))), .second, .unset, .unset, .unset, .unset, .unset, .unset, .unset, .unset, .unset] [(.ref b1)])
  refine own_via (fun _ k => XS.astore X20.here hx rfl (hb hby at_68) rfl rfl (l' := #[.val (.long q1), .second, .val (.long q2), .second, .val (.long q3), .second, .val (.long q4), .second, .val (.long q5), .second, .val (.long q6), .second, .val (.long (4503599627370495 : Int64)), .second, .val (.long ((q1 &&& (4503599627370495 : Int64)) + (1 : Int64))), .second, .val (.long ((q2 &&& (4503599627370495 : Int64)) + (1 : Int64))), .second, .val (.long (q3 &&& (65535 : Int64))), .second, .val (.long ((q4 &&& (268435455 : Int64)) + (1 : Int64))), .second, .val (.ref b1), .unset, .unset, .unset, .unset, .unset, .unset, .unset, .unset]) rfl k) ?_
  show own_Fin _ _ _ _ _ _ _ T20 (mkF m 70 #[.val (.long q1), .second, .val (.long q2), .second, .val (.long q3), .second, .val (.long q4), .second, .val (.long q5), .second, .val (.long q6), .second, .val (.long (4503599627370495 : Int64)), .second, .val (.long ((q1 &&& (4503599627370495 : Int64)) + (1 : Int64))), .second, .val (.long ((q2 &&& (4503599627370495 : Int64)) + (1 : Int64))), .second, .val (.long (q3 &&& (65535 : Int64))), .second, .val (.long ((q4 &&& (268435455 : Int64)) + (1 : Int64))), .second, .val (.ref b1), .unset, .unset, .unset, .unset, .unset, .unset, .unset, .unset] [])
  obtain ⟨T29, h29, X29, e29, E29, A29, D29, -, st29⟩ := newO X20 hx hZ hown (hw _ (List.mem_of_getElem? (i := 3) rfl)) (hw _ (List.mem_of_getElem? (i := 4) rfl)) (hw _ (List.mem_of_getElem? (i := 5) rfl)) rfl (g := (mkF m 70 #[.val (.long q1), .second, .val (.long q2), .second, .val (.long q3), .second, .val (.long q4), .second, .val (.long q5), .second, .val (.long q6), .second, .val (.long (4503599627370495 : Int64)), .second, .val (.long ((q1 &&& (4503599627370495 : Int64)) + (1 : Int64))), .second, .val (.long ((q2 &&& (4503599627370495 : Int64)) + (1 : Int64))), .second, .val (.long (q3 &&& (65535 : Int64))), .second, .val (.long ((q4 &&& (268435455 : Int64)) + (1 : Int64))), .second, .val (.ref b1), .unset, .unset, .unset, .unset, .unset, .unset, .unset, .unset] [])) rfl (hb hby at_70) (by decide) (by decide)
  obtain ⟨b29, g29⟩ : ∃ z, z = T20.heap.size := ⟨_, rfl⟩
  rw [← g29] at A29 D29 st29
  have F30 : Fld Z h29 b29 "com/example/dependency_container/dependencycontainer/benchmark/StartupBenchmark$Pair" "container" "Lcom/example/dependency_container/dependencycontainer/benchmark/StartupBenchmark$Run;" .null := D29 (Or.inr (hw _ (List.mem_of_getElem? (i := 24) rfl))) (ty := (.object "com/example/dependency_container/dependencycontainer/benchmark/StartupBenchmark$Run")) (by decide)
  have F31 : Fld Z h29 b29 "com/example/dependency_container/dependencycontainer/benchmark/StartupBenchmark$Pair" "parse" "Lcom/example/dependency_container/dependencycontainer/benchmark/StartupBenchmark$Run;" .null := D29 (Or.inr (hw _ (List.mem_of_getElem? (i := 26) rfl))) (ty := (.object "com/example/dependency_container/dependencycontainer/benchmark/StartupBenchmark$Run")) (by decide)
  refine own_via (fun _ k => st29 _ k) ?_
  show own_Fin _ _ _ _ _ _ _ T29 (mkF m 73 #[.val (.long q1), .second, .val (.long q2), .second, .val (.long q3), .second, .val (.long q4), .second, .val (.long q5), .second, .val (.long q6), .second, .val (.long (4503599627370495 : Int64)), .second, .val (.long ((q1 &&& (4503599627370495 : Int64)) + (1 : Int64))), .second, .val (.long ((q2 &&& (4503599627370495 : Int64)) + (1 : Int64))), .second, .val (.long (q3 &&& (65535 : Int64))), .second, .val (.long ((q4 &&& (268435455 : Int64)) + (1 : Int64))), .second, .val (.ref b1), .unset, .unset, .unset, .unset, .unset, .unset, .unset, .unset] [(.ref b29)])
  refine own_via (fun _ k => XS.dup X29.here hx rfl (hb hby at_73) rfl rfl k) ?_
  show own_Fin _ _ _ _ _ _ _ T29 (mkF m 74 #[.val (.long q1), .second, .val (.long q2), .second, .val (.long q3), .second, .val (.long q4), .second, .val (.long q5), .second, .val (.long q6), .second, .val (.long (4503599627370495 : Int64)), .second, .val (.long ((q1 &&& (4503599627370495 : Int64)) + (1 : Int64))), .second, .val (.long ((q2 &&& (4503599627370495 : Int64)) + (1 : Int64))), .second, .val (.long (q3 &&& (65535 : Int64))), .second, .val (.long ((q4 &&& (268435455 : Int64)) + (1 : Int64))), .second, .val (.ref b1), .unset, .unset, .unset, .unset, .unset, .unset, .unset, .unset] [(.ref b29), (.ref b29)])
  obtain ⟨T32, h32, X32, e32, E32, A32, D32, -, st32⟩ := newO X29 hx hZ hown (hw _ (List.mem_of_getElem? (i := 6) rfl)) (hw _ (List.mem_of_getElem? (i := 7) rfl)) (hw _ (List.mem_of_getElem? (i := 8) rfl)) e29 (g := (mkF m 74 #[.val (.long q1), .second, .val (.long q2), .second, .val (.long q3), .second, .val (.long q4), .second, .val (.long q5), .second, .val (.long q6), .second, .val (.long (4503599627370495 : Int64)), .second, .val (.long ((q1 &&& (4503599627370495 : Int64)) + (1 : Int64))), .second, .val (.long ((q2 &&& (4503599627370495 : Int64)) + (1 : Int64))), .second, .val (.long (q3 &&& (65535 : Int64))), .second, .val (.long ((q4 &&& (268435455 : Int64)) + (1 : Int64))), .second, .val (.ref b1), .unset, .unset, .unset, .unset, .unset, .unset, .unset, .unset] [(.ref b29), (.ref b29)])) rfl (hb hby at_74) (by decide) (by decide)
  obtain ⟨b32, g32⟩ : ∃ z, z = h29.size := ⟨_, rfl⟩
  rw [← g32] at A32 D32 st32
  have F33 : Fld Z h32 b32 "com/example/dependency_container/dependencycontainer/benchmark/StartupBenchmark$Run" "wallNanos" "J" (.long (0 : Int64)) := D32 (Or.inr (hw _ (List.mem_of_getElem? (i := 16) rfl))) (ty := .long) (by decide)
  have F34 : Fld Z h32 b32 "com/example/dependency_container/dependencycontainer/benchmark/StartupBenchmark$Run" "peakKilobytes" "J" (.long (0 : Int64)) := D32 (Or.inr (hw _ (List.mem_of_getElem? (i := 18) rfl))) (ty := .long) (by decide)
  refine own_via (fun _ k => st32 _ k) ?_
  show own_Fin _ _ _ _ _ _ _ T32 (mkF m 77 #[.val (.long q1), .second, .val (.long q2), .second, .val (.long q3), .second, .val (.long q4), .second, .val (.long q5), .second, .val (.long q6), .second, .val (.long (4503599627370495 : Int64)), .second, .val (.long ((q1 &&& (4503599627370495 : Int64)) + (1 : Int64))), .second, .val (.long ((q2 &&& (4503599627370495 : Int64)) + (1 : Int64))), .second, .val (.long (q3 &&& (65535 : Int64))), .second, .val (.long ((q4 &&& (268435455 : Int64)) + (1 : Int64))), .second, .val (.ref b1), .unset, .unset, .unset, .unset, .unset, .unset, .unset, .unset] [(.ref b32), (.ref b29), (.ref b29)])
  refine own_via (fun _ k => XS.dup X32.here hx rfl (hb hby at_77) rfl rfl k) ?_
  show own_Fin _ _ _ _ _ _ _ T32 (mkF m 78 #[.val (.long q1), .second, .val (.long q2), .second, .val (.long q3), .second, .val (.long q4), .second, .val (.long q5), .second, .val (.long q6), .second, .val (.long (4503599627370495 : Int64)), .second, .val (.long ((q1 &&& (4503599627370495 : Int64)) + (1 : Int64))), .second, .val (.long ((q2 &&& (4503599627370495 : Int64)) + (1 : Int64))), .second, .val (.long (q3 &&& (65535 : Int64))), .second, .val (.long ((q4 &&& (268435455 : Int64)) + (1 : Int64))), .second, .val (.ref b1), .unset, .unset, .unset, .unset, .unset, .unset, .unset, .unset] [(.ref b32), (.ref b32), (.ref b29), (.ref b29)])
  refine own_via (fun _ k => XS.lload X32.here hx rfl (hb hby at_78) rfl k) ?_
  show own_Fin _ _ _ _ _ _ _ T32 (mkF m 80 #[.val (.long q1), .second, .val (.long q2), .second, .val (.long q3), .second, .val (.long q4), .second, .val (.long q5), .second, .val (.long q6), .second, .val (.long (4503599627370495 : Int64)), .second, .val (.long ((q1 &&& (4503599627370495 : Int64)) + (1 : Int64))), .second, .val (.long ((q2 &&& (4503599627370495 : Int64)) + (1 : Int64))), .second, .val (.long (q3 &&& (65535 : Int64))), .second, .val (.long ((q4 &&& (268435455 : Int64)) + (1 : Int64))), .second, .val (.ref b1), .unset, .unset, .unset, .unset, .unset, .unset, .unset, .unset] [(.long q6), (.ref b32), (.ref b32), (.ref b29), (.ref b29)])
  refine own_via (fun _ k => XS.lload X32.here hx rfl (hb hby at_80) rfl k) ?_
  show own_Fin _ _ _ _ _ _ _ T32 (mkF m 82 #[.val (.long q1), .second, .val (.long q2), .second, .val (.long q3), .second, .val (.long q4), .second, .val (.long q5), .second, .val (.long q6), .second, .val (.long (4503599627370495 : Int64)), .second, .val (.long ((q1 &&& (4503599627370495 : Int64)) + (1 : Int64))), .second, .val (.long ((q2 &&& (4503599627370495 : Int64)) + (1 : Int64))), .second, .val (.long (q3 &&& (65535 : Int64))), .second, .val (.long ((q4 &&& (268435455 : Int64)) + (1 : Int64))), .second, .val (.ref b1), .unset, .unset, .unset, .unset, .unset, .unset, .unset, .unset] [(.long (q3 &&& (65535 : Int64))), (.long q6), (.ref b32), (.ref b32), (.ref b29), (.ref b29)])
  refine own_via (fun _ k => XS.lload X32.here hx rfl (hb hby at_82) rfl k) ?_
  show own_Fin _ _ _ _ _ _ _ T32 (mkF m 84 #[.val (.long q1), .second, .val (.long q2), .second, .val (.long q3), .second, .val (.long q4), .second, .val (.long q5), .second, .val (.long q6), .second, .val (.long (4503599627370495 : Int64)), .second, .val (.long ((q1 &&& (4503599627370495 : Int64)) + (1 : Int64))), .second, .val (.long ((q2 &&& (4503599627370495 : Int64)) + (1 : Int64))), .second, .val (.long (q3 &&& (65535 : Int64))), .second, .val (.long ((q4 &&& (268435455 : Int64)) + (1 : Int64))), .second, .val (.ref b1), .unset, .unset, .unset, .unset, .unset, .unset, .unset, .unset] [(.long ((q4 &&& (268435455 : Int64)) + (1 : Int64))), (.long (q3 &&& (65535 : Int64))), (.long q6), (.ref b32), (.ref b32), (.ref b29), (.ref b29)])
  refine own_via (fun _ k => XS.lmul X32.here hx rfl (hb hby at_84) rfl k) ?_
  show own_Fin _ _ _ _ _ _ _ T32 (mkF m 85 #[.val (.long q1), .second, .val (.long q2), .second, .val (.long q3), .second, .val (.long q4), .second, .val (.long q5), .second, .val (.long q6), .second, .val (.long (4503599627370495 : Int64)), .second, .val (.long ((q1 &&& (4503599627370495 : Int64)) + (1 : Int64))), .second, .val (.long ((q2 &&& (4503599627370495 : Int64)) + (1 : Int64))), .second, .val (.long (q3 &&& (65535 : Int64))), .second, .val (.long ((q4 &&& (268435455 : Int64)) + (1 : Int64))), .second, .val (.ref b1), .unset, .unset, .unset, .unset, .unset, .unset, .unset, .unset] [(.long ((q3 &&& (65535 : Int64)) * ((q4 &&& (268435455 : Int64)) + (1 : Int64)))), (.long q6), (.ref b32), (.ref b32), (.ref b29), (.ref b29)])
  have g36 : n0 ≤ b32 := Nat.le_trans (Nat.le_trans Z0 (Nat.le_trans (Nat.le_trans (Nat.le_trans (Nat.le_trans (Nat.le_trans (Nat.le_trans E1.1 E4.1) K7.1) E12.1) K15.1) K20.1) E29.1)) (Nat.le_of_eq g32.symm)
  obtain ⟨_, _, ⟨T35, L35, k35, n35⟩, -, X35, ⟨Lc35, hQ35, l35, y35, z35⟩, st35⟩ := X32.specialBack hx (y := (⟨"com/example/dependency_container/dependencycontainer/benchmark/StartupBenchmark$Run", "<init>", "(JJ)V"⟩ : MethodName)) rfl hown (mvT hZ (hw _ (List.mem_of_getElem? (i := 9) rfl))) (mvT hZ (hw _ (List.mem_of_getElem? (i := 10) rfl))) (mvT hZ (hw _ (List.mem_of_getElem? (i := 11) rfl))) (by decide) (backOf (W := 3) (own_rm_runInit l Z a0 hw [] b32 q6 ((q3 &&& (65535 : Int64)) * ((q4 &&& (268435455 : Int64)) + (1 : Int64))) (.long (0 : Int64)) (.long (0 : Int64)) h32 n0 (Nat.le_trans Z0 (Nat.le_trans (Nat.le_trans (Nat.le_trans (Nat.le_trans (Nat.le_trans (Nat.le_trans (Nat.le_trans E1.1 E4.1) K7.1) E12.1) K15.1) K20.1) E29.1) E32.1)) A32 F33 F34 g36) hZ (hw _ (List.mem_of_getElem? (i := 11) rfl)) (hw _ (List.mem_of_getElem? (i := 8) rfl)) (by decide) (by decide)) (g := (mkF m 85 #[.val (.long q1), .second, .val (.long q2), .second, .val (.long q3), .second, .val (.long q4), .second, .val (.long q5), .second, .val (.long q6), .second, .val (.long (4503599627370495 : Int64)), .second, .val (.long ((q1 &&& (4503599627370495 : Int64)) + (1 : Int64))), .second, .val (.long ((q2 &&& (4503599627370495 : Int64)) + (1 : Int64))), .second, .val (.long (q3 &&& (65535 : Int64))), .second, .val (.long ((q4 &&& (268435455 : Int64)) + (1 : Int64))), .second, .val (.ref b1), .unset, .unset, .unset, .unset, .unset, .unset, .unset, .unset] [(.long ((q3 &&& (65535 : Int64)) * ((q4 &&& (268435455 : Int64)) + (1 : Int64)))), (.long q6), (.ref b32), (.ref b32), (.ref b29), (.ref b29)])) rfl (by rw [hml]; rfl) (Steps.refl _) (a := b32) (argsL := [(.long q6), (.long ((q3 &&& (65535 : Int64)) * ((q4 &&& (268435455 : Int64)) + (1 : Int64))))]) (rest := [(.ref b32), (.ref b29), (.ref b29)]) (lenOf own_pd0 rfl) rfl (by show 2 * 0 + _ ≤ _; exact Nat.le_of_eq rfl) (hb hby at_85) (fun _ _ => ⟨rfl, e32, (by decide : 0 + 1 + 1 + 0 + 1 + 0 + 0 + 1 + 1 + 0 ≤ _), (by decide : 0 + 2 + 2 + 0 + 2 + 0 + 0 + 2 + 2 + 0 ≤ _)⟩)
  dsimp only [Pt.U, Pt.locs, Pt.cells, Pt.slots] at X35 l35 y35 z35 st35 hQ35
  subst l35 y35 z35
  obtain ⟨rfl, Nq35, K35, r37, r38, r39⟩ := hQ35
  have N35 := Fr.app N20 Nq35
  refine own_via (fun _ k => st35.trans k) ?_
  show own_Fin _ _ _ _ _ _ _ T35 (mkF m 88 #[.val (.long q1), .second, .val (.long q2), .second, .val (.long q3), .second, .val (.long q4), .second, .val (.long q5), .second, .val (.long q6), .second, .val (.long (4503599627370495 : Int64)), .second, .val (.long ((q1 &&& (4503599627370495 : Int64)) + (1 : Int64))), .second, .val (.long ((q2 &&& (4503599627370495 : Int64)) + (1 : Int64))), .second, .val (.long (q3 &&& (65535 : Int64))), .second, .val (.long ((q4 &&& (268435455 : Int64)) + (1 : Int64))), .second, .val (.ref b1), .unset, .unset, .unset, .unset, .unset, .unset, .unset, .unset] [(.ref b32), (.ref b29), (.ref b29)])
  obtain ⟨T40, h40, X40, e40, E40, A40, D40, -, st40⟩ := newO X35 hx hZ hown (hw _ (List.mem_of_getElem? (i := 6) rfl)) (hw _ (List.mem_of_getElem? (i := 7) rfl)) (hw _ (List.mem_of_getElem? (i := 8) rfl)) rfl (g := (mkF m 88 #[.val (.long q1), .second, .val (.long q2), .second, .val (.long q3), .second, .val (.long q4), .second, .val (.long q5), .second, .val (.long q6), .second, .val (.long (4503599627370495 : Int64)), .second, .val (.long ((q1 &&& (4503599627370495 : Int64)) + (1 : Int64))), .second, .val (.long ((q2 &&& (4503599627370495 : Int64)) + (1 : Int64))), .second, .val (.long (q3 &&& (65535 : Int64))), .second, .val (.long ((q4 &&& (268435455 : Int64)) + (1 : Int64))), .second, .val (.ref b1), .unset, .unset, .unset, .unset, .unset, .unset, .unset, .unset] [(.ref b32), (.ref b29), (.ref b29)])) rfl (hb hby at_88) (by decide) (by decide)
  obtain ⟨b40, g40⟩ : ∃ z, z = T35.heap.size := ⟨_, rfl⟩
  rw [← g40] at A40 D40 st40
  have F41 : Fld Z h40 b40 "com/example/dependency_container/dependencycontainer/benchmark/StartupBenchmark$Run" "wallNanos" "J" (.long (0 : Int64)) := D40 (Or.inr (hw _ (List.mem_of_getElem? (i := 16) rfl))) (ty := .long) (by decide)
  have F42 : Fld Z h40 b40 "com/example/dependency_container/dependencycontainer/benchmark/StartupBenchmark$Run" "peakKilobytes" "J" (.long (0 : Int64)) := D40 (Or.inr (hw _ (List.mem_of_getElem? (i := 18) rfl))) (ty := .long) (by decide)
  refine own_via (fun _ k => st40 _ k) ?_
  show own_Fin _ _ _ _ _ _ _ T40 (mkF m 91 #[.val (.long q1), .second, .val (.long q2), .second, .val (.long q3), .second, .val (.long q4), .second, .val (.long q5), .second, .val (.long q6), .second, .val (.long (4503599627370495 : Int64)), .second, .val (.long ((q1 &&& (4503599627370495 : Int64)) + (1 : Int64))), .second, .val (.long ((q2 &&& (4503599627370495 : Int64)) + (1 : Int64))), .second, .val (.long (q3 &&& (65535 : Int64))), .second, .val (.long ((q4 &&& (268435455 : Int64)) + (1 : Int64))), .second, .val (.ref b1), .unset, .unset, .unset, .unset, .unset, .unset, .unset, .unset] [(.ref b40), (.ref b32), (.ref b29), (.ref b29)])
  refine own_via (fun _ k => XS.dup X40.here hx rfl (hb hby at_91) rfl rfl k) ?_
  show own_Fin _ _ _ _ _ _ _ T40 (mkF m 92 #[.val (.long q1), .second, .val (.long q2), .second, .val (.long q3), .second, .val (.long q4), .second, .val (.long q5), .second, .val (.long q6), .second, .val (.long (4503599627370495 : Int64)), .second, .val (.long ((q1 &&& (4503599627370495 : Int64)) + (1 : Int64))), .second, .val (.long ((q2 &&& (4503599627370495 : Int64)) + (1 : Int64))), .second, .val (.long (q3 &&& (65535 : Int64))), .second, .val (.long ((q4 &&& (268435455 : Int64)) + (1 : Int64))), .second, .val (.ref b1), .unset, .unset, .unset, .unset, .unset, .unset, .unset, .unset] [(.ref b40), (.ref b40), (.ref b32), (.ref b29), (.ref b29)])
  refine own_via (fun _ k => XS.lload X40.here hx rfl (hb hby at_92) rfl k) ?_
  show own_Fin _ _ _ _ _ _ _ T40 (mkF m 94 #[.val (.long q1), .second, .val (.long q2), .second, .val (.long q3), .second, .val (.long q4), .second, .val (.long q5), .second, .val (.long q6), .second, .val (.long (4503599627370495 : Int64)), .second, .val (.long ((q1 &&& (4503599627370495 : Int64)) + (1 : Int64))), .second, .val (.long ((q2 &&& (4503599627370495 : Int64)) + (1 : Int64))), .second, .val (.long (q3 &&& (65535 : Int64))), .second, .val (.long ((q4 &&& (268435455 : Int64)) + (1 : Int64))), .second, .val (.ref b1), .unset, .unset, .unset, .unset, .unset, .unset, .unset, .unset] [(.long q5), (.ref b40), (.ref b40), (.ref b32), (.ref b29), (.ref b29)])
  refine own_via (fun _ k => XS.lload X40.here hx rfl (hb hby at_94) rfl k) ?_
  show own_Fin _ _ _ _ _ _ _ T40 (mkF m 96 #[.val (.long q1), .second, .val (.long q2), .second, .val (.long q3), .second, .val (.long q4), .second, .val (.long q5), .second, .val (.long q6), .second, .val (.long (4503599627370495 : Int64)), .second, .val (.long ((q1 &&& (4503599627370495 : Int64)) + (1 : Int64))), .second, .val (.long ((q2 &&& (4503599627370495 : Int64)) + (1 : Int64))), .second, .val (.long (q3 &&& (65535 : Int64))), .second, .val (.long ((q4 &&& (268435455 : Int64)) + (1 : Int64))), .second, .val (.ref b1), .unset, .unset, .unset, .unset, .unset, .unset, .unset, .unset] [(.long ((q4 &&& (268435455 : Int64)) + (1 : Int64))), (.long q5), (.ref b40), (.ref b40), (.ref b32), (.ref b29), (.ref b29)])
  have g44 : n0 ≤ b40 := Nat.le_trans (Nat.le_trans Z0 (Nat.le_trans (Nat.le_trans (Nat.le_trans (Nat.le_trans (Nat.le_trans (Nat.le_trans (Nat.le_trans (Nat.le_trans E1.1 E4.1) K7.1) E12.1) K15.1) K20.1) E29.1) E32.1) K35.1)) (Nat.le_of_eq g40.symm)
  obtain ⟨_, _, ⟨T43, L43, k43, n43⟩, -, X43, ⟨Lc43, hQ43, l43, y43, z43⟩, st43⟩ := X40.specialBack hx (y := (⟨"com/example/dependency_container/dependencycontainer/benchmark/StartupBenchmark$Run", "<init>", "(JJ)V"⟩ : MethodName)) rfl hown (mvT hZ (hw _ (List.mem_of_getElem? (i := 9) rfl))) (mvT hZ (hw _ (List.mem_of_getElem? (i := 10) rfl))) (mvT hZ (hw _ (List.mem_of_getElem? (i := 11) rfl))) (by decide) (backOf (W := 4) (own_rm_runInit l Z a0 hw [] b40 q5 ((q4 &&& (268435455 : Int64)) + (1 : Int64)) (.long (0 : Int64)) (.long (0 : Int64)) h40 n0 (Nat.le_trans Z0 (Nat.le_trans (Nat.le_trans (Nat.le_trans (Nat.le_trans (Nat.le_trans (Nat.le_trans (Nat.le_trans (Nat.le_trans (Nat.le_trans E1.1 E4.1) K7.1) E12.1) K15.1) K20.1) E29.1) E32.1) K35.1) E40.1)) A40 F41 F42 g44) hZ (hw _ (List.mem_of_getElem? (i := 11) rfl)) (hw _ (List.mem_of_getElem? (i := 8) rfl)) (by decide) (by decide)) (g := (mkF m 96 #[.val (.long q1), .second, .val (.long q2), .second, .val (.long q3), .second, .val (.long q4), .second, .val (.long q5), .second, .val (.long q6), .second, .val (.long (4503599627370495 : Int64)), .second, .val (.long ((q1 &&& (4503599627370495 : Int64)) + (1 : Int64))), .second, .val (.long ((q2 &&& (4503599627370495 : Int64)) + (1 : Int64))), .second, .val (.long (q3 &&& (65535 : Int64))), .second, .val (.long ((q4 &&& (268435455 : Int64)) + (1 : Int64))), .second, .val (.ref b1), .unset, .unset, .unset, .unset, .unset, .unset, .unset, .unset] [(.long ((q4 &&& (268435455 : Int64)) + (1 : Int64))), (.long q5), (.ref b40), (.ref b40), (.ref b32), (.ref b29), (.ref b29)])) rfl (by rw [hml]; rfl) (Steps.refl _) (a := b40) (argsL := [(.long q5), (.long ((q4 &&& (268435455 : Int64)) + (1 : Int64)))]) (rest := [(.ref b40), (.ref b32), (.ref b29), (.ref b29)]) (lenOf own_pd0 rfl) rfl (by show 2 * 0 + _ ≤ _; exact Nat.le_of_eq rfl) (hb hby at_96) (fun _ _ => ⟨rfl, e40, (by decide : 0 + 1 + 1 + 0 + 1 + 0 + 0 + 1 + 1 + 0 + 1 + 0 ≤ _), (by decide : 0 + 2 + 2 + 0 + 2 + 0 + 0 + 2 + 2 + 0 + 2 + 0 ≤ _)⟩)
  dsimp only [Pt.U, Pt.locs, Pt.cells, Pt.slots] at X43 l43 y43 z43 st43 hQ43
  subst l43 y43 z43
  obtain ⟨rfl, Nq43, K43, r45, r46, r47⟩ := hQ43
  have N43 := Fr.app N35 Nq43
  refine own_via (fun _ k => st43.trans k) ?_
  show own_Fin _ _ _ _ _ _ _ T43 (mkF m 99 #[.val (.long q1), .second, .val (.long q2), .second, .val (.long q3), .second, .val (.long q4), .second, .val (.long q5), .second, .val (.long q6), .second, .val (.long (4503599627370495 : Int64)), .second, .val (.long ((q1 &&& (4503599627370495 : Int64)) + (1 : Int64))), .second, .val (.long ((q2 &&& (4503599627370495 : Int64)) + (1 : Int64))), .second, .val (.long (q3 &&& (65535 : Int64))), .second, .val (.long ((q4 &&& (268435455 : Int64)) + (1 : Int64))), .second, .val (.ref b1), .unset, .unset, .unset, .unset, .unset, .unset, .unset, .unset] [(.ref b40), (.ref b32), (.ref b29), (.ref b29)])
  have q49 : b29 ≠ b32 := Nat.ne_of_lt (Nat.lt_of_lt_of_le A29.lt (Nat.le_of_eq g32.symm))
  have q50 : b29 ≠ b40 := Nat.ne_of_lt (Nat.lt_of_lt_of_le ((A29.ext E32).keep K35).lt (Nat.le_of_eq g40.symm))
  have f51 := ((((F30.ext E32).keep K35 (ninS q49 nin0)).ext E40).keep K43 (ninS q50 nin0))
  have f52 := ((((F31.ext E32).keep K35 (ninS q49 nin0)).ext E40).keep K43 (ninS q50 nin0))
  have g53 : n0 ≤ b29 := Nat.le_trans (Nat.le_trans Z0 (Nat.le_trans (Nat.le_trans (Nat.le_trans (Nat.le_trans (Nat.le_trans E1.1 E4.1) K7.1) E12.1) K15.1) K20.1)) (Nat.le_of_eq g29.symm)
  obtain ⟨_, _, ⟨T48, L48, k48, n48⟩, -, X48, ⟨Lc48, hQ48, l48, y48, z48⟩, st48⟩ := X43.specialBack hx (y := (⟨"com/example/dependency_container/dependencycontainer/benchmark/StartupBenchmark$Pair", "<init>", "(Lcom/example/dependency_container/dependencycontainer/benchmark/StartupBenchmark$Run;Lcom/example/dependency_container/dependencycontainer/benchmark/StartupBenchmark$Run;)V"⟩ : MethodName)) rfl hown (mvT hZ (hw _ (List.mem_of_getElem? (i := 19) rfl))) (mvT hZ (hw _ (List.mem_of_getElem? (i := 20) rfl))) (mvT hZ (hw _ (List.mem_of_getElem? (i := 21) rfl))) (by decide) (backOf (W := 1) (own_rm_pairInit l Z a0 hw [] b29 b32 b40 .null .null T43.heap n0 (Nat.le_trans Z0 (Nat.le_trans (Nat.le_trans (Nat.le_trans (Nat.le_trans (Nat.le_trans (Nat.le_trans (Nat.le_trans (Nat.le_trans (Nat.le_trans (Nat.le_trans E1.1 E4.1) K7.1) E12.1) K15.1) K20.1) E29.1) E32.1) K35.1) E40.1) K43.1)) ((((A29.ext E32).keep K35).ext E40).keep K43) f51 f52 g53) hZ (hw _ (List.mem_of_getElem? (i := 21) rfl)) (hw _ (List.mem_of_getElem? (i := 5) rfl)) (by decide) (by decide)) (g := (mkF m 99 #[.val (.long q1), .second, .val (.long q2), .second, .val (.long q3), .second, .val (.long q4), .second, .val (.long q5), .second, .val (.long q6), .second, .val (.long (4503599627370495 : Int64)), .second, .val (.long ((q1 &&& (4503599627370495 : Int64)) + (1 : Int64))), .second, .val (.long ((q2 &&& (4503599627370495 : Int64)) + (1 : Int64))), .second, .val (.long (q3 &&& (65535 : Int64))), .second, .val (.long ((q4 &&& (268435455 : Int64)) + (1 : Int64))), .second, .val (.ref b1), .unset, .unset, .unset, .unset, .unset, .unset, .unset, .unset] [(.ref b40), (.ref b32), (.ref b29), (.ref b29)])) rfl (by rw [hml]; rfl) (Steps.refl _) (a := b29) (argsL := [(.ref b32), (.ref b40)]) (rest := [(.ref b29)]) (lenOf own_pd1 rfl) rfl (by show 2 * 0 + _ ≤ _; exact Nat.le_of_eq rfl) (hb hby at_99) (fun _ _ => ⟨rfl, rfl, (by decide : 0 + 1 + 1 + 0 + 1 + 0 + 0 + 1 + 1 + 0 + 1 + 0 + 0 ≤ _), (by decide : 0 + 2 + 2 + 0 + 2 + 0 + 0 + 2 + 2 + 0 + 2 + 0 + 0 ≤ _)⟩)
  dsimp only [Pt.U, Pt.locs, Pt.cells, Pt.slots] at X48 l48 y48 z48 st48 hQ48
  subst l48 y48 z48
  obtain ⟨rfl, Nq48, K48, r54, r55, r56⟩ := hQ48
  have N48 := Fr.app N43 Nq48
  refine own_via (fun _ k => st48.trans k) ?_
  show own_Fin _ _ _ _ _ _ _ T48 (mkF m 102 #[.val (.long q1), .second, .val (.long q2), .second, .val (.long q3), .second, .val (.long q4), .second, .val (.long q5), .second, .val (.long q6), .second, .val (.long (4503599627370495 : Int64)), .second, .val (.long ((q1 &&& (4503599627370495 : Int64)) + (1 : Int64))), .second, .val (.long ((q2 &&& (4503599627370495 : Int64)) + (1 : Int64))), .second, .val (.long (q3 &&& (65535 : Int64))), .second, .val (.long ((q4 &&& (268435455 : Int64)) + (1 : Int64))), .second, .val (.ref b1), .unset, .unset, .unset, .unset, .unset, .unset, .unset, .unset] [(.ref b29)])
  refine own_via (fun _ k => XS.astore X48.here hx rfl (hb hby at_102) rfl rfl (l' := #[.val (.long q1), .second, .val (.long q2), .second, .val (.long q3), .second, .val (.long q4), .second, .val (.long q5), .second, .val (.long q6), .second, .val (.long (4503599627370495 : Int64)), .second, .val (.long ((q1 &&& (4503599627370495 : Int64)) + (1 : Int64))), .second, .val (.long ((q2 &&& (4503599627370495 : Int64)) + (1 : Int64))), .second, .val (.long (q3 &&& (65535 : Int64))), .second, .val (.long ((q4 &&& (268435455 : Int64)) + (1 : Int64))), .second, .val (.ref b1), .val (.ref b29), .unset, .unset, .unset, .unset, .unset, .unset, .unset]) rfl k) ?_
  show own_Fin _ _ _ _ _ _ _ T48 (mkF m 104 #[.val (.long q1), .second, .val (.long q2), .second, .val (.long q3), .second, .val (.long q4), .second, .val (.long q5), .second, .val (.long q6), .second, .val (.long (4503599627370495 : Int64)), .second, .val (.long ((q1 &&& (4503599627370495 : Int64)) + (1 : Int64))), .second, .val (.long ((q2 &&& (4503599627370495 : Int64)) + (1 : Int64))), .second, .val (.long (q3 &&& (65535 : Int64))), .second, .val (.long ((q4 &&& (268435455 : Int64)) + (1 : Int64))), .second, .val (.ref b1), .val (.ref b29), .unset, .unset, .unset, .unset, .unset, .unset, .unset] [])
  refine own_via (fun _ k => XS.aload X48.here hx rfl (hb hby at_104) rfl rfl k) ?_
  show own_Fin _ _ _ _ _ _ _ T48 (mkF m 106 #[.val (.long q1), .second, .val (.long q2), .second, .val (.long q3), .second, .val (.long q4), .second, .val (.long q5), .second, .val (.long q6), .second, .val (.long (4503599627370495 : Int64)), .second, .val (.long ((q1 &&& (4503599627370495 : Int64)) + (1 : Int64))), .second, .val (.long ((q2 &&& (4503599627370495 : Int64)) + (1 : Int64))), .second, .val (.long (q3 &&& (65535 : Int64))), .second, .val (.long ((q4 &&& (268435455 : Int64)) + (1 : Int64))), .second, .val (.ref b1), .val (.ref b29), .unset, .unset, .unset, .unset, .unset, .unset, .unset] [(.ref b1)])
  have q58 : b1 ≠ b32 := Nat.ne_of_lt (Nat.lt_of_lt_of_le (r26.ext E29).lt (Nat.le_of_eq g32.symm))
  have q59 : b1 ≠ b40 := Nat.ne_of_lt (Nat.lt_of_lt_of_le (((r26.ext E29).ext E32).keep K35).lt (Nat.le_of_eq g40.symm))
  have q60 : b1 ≠ b29 := Nat.ne_of_lt (Nat.lt_of_lt_of_le r26.lt (Nat.le_of_eq g29.symm))
  have f61 := ((((((r27.ext E29).ext E32).keep K35 (ninS q58 nin0)).ext E40).keep K43 (ninS q59 nin0)).keep K48 (ninS q60 nin0))
  have f62 := ((((((r28.ext E29).ext E32).keep K35 (ninS q58 nin0)).ext E40).keep K43 (ninS q59 nin0)).keep K48 (ninS q60 nin0))
  have q63 : b4 ≠ b12 := Nat.ne_of_lt (Nat.lt_of_lt_of_le r9.lt (Nat.le_of_eq g12.symm))
  have q64 : b4 ≠ b32 := Nat.ne_of_lt (Nat.lt_of_lt_of_le ((((r9.ext E12).keep K15).keep K20).ext E29).lt (Nat.le_of_eq g32.symm))
  have q65 : b4 ≠ b40 := Nat.ne_of_lt (Nat.lt_of_lt_of_le ((((((r9.ext E12).keep K15).keep K20).ext E29).ext E32).keep K35).lt (Nat.le_of_eq g40.symm))
  have q66 : b4 ≠ b29 := Nat.ne_of_lt (Nat.lt_of_lt_of_le (((r9.ext E12).keep K15).keep K20).lt (Nat.le_of_eq g29.symm))
  have f67 := (((((((((r11.ext E12).keep K15 (ninS q63 nin0)).keep K20 (ninS (Ne.symm q21) nin0)).ext E29).ext E32).keep K35 (ninS q64 nin0)).ext E40).keep K43 (ninS q65 nin0)).keep K48 (ninS q66 nin0))
  have q68 : b12 ≠ b32 := Nat.ne_of_lt (Nat.lt_of_lt_of_le ((r17.keep K20).ext E29).lt (Nat.le_of_eq g32.symm))
  have q69 : b12 ≠ b40 := Nat.ne_of_lt (Nat.lt_of_lt_of_le ((((r17.keep K20).ext E29).ext E32).keep K35).lt (Nat.le_of_eq g40.symm))
  have q70 : b12 ≠ b29 := Nat.ne_of_lt (Nat.lt_of_lt_of_le (r17.keep K20).lt (Nat.le_of_eq g29.symm))
  have f71 := (((((((r19.keep K20 (ninS (Ne.symm q22) nin0)).ext E29).ext E32).keep K35 (ninS q68 nin0)).ext E40).keep K43 (ninS q69 nin0)).keep K48 (ninS q70 nin0))
  have f72 := ((((((r26.ext E29).ext E32).keep K35).ext E40).keep K43).keep K48)
  obtain ⟨cq57, kq57, q57a, q57b, q57c⟩ := isOf hZ rfl f72
  obtain ⟨_, _, ⟨T57, L57, k57, n57⟩, -, X57, ⟨Lc57, hQ57, l57, y57, z57⟩, st57⟩ := X48.virtualBack hx (y := (⟨"com/example/dependency_container/dependencycontainer/benchmark/StartupBenchmark$Pair", "peakRatio", "()D"⟩ : MethodName)) (z := (⟨"com/example/dependency_container/dependencycontainer/benchmark/StartupBenchmark$Pair", "peakRatio", "()D"⟩ : MethodName)) hown (mvT hZ (hw _ (List.mem_of_getElem? (i := 27) rfl))) (mvT hZ (hw _ (List.mem_of_getElem? (i := 28) rfl))) (notFace_of_selects (args := #[]) (mvT hZ (hw _ (List.mem_of_getElem? (i := 30) rfl)))) (mvT hZ (hw _ (List.mem_of_getElem? (i := 30) rfl))) (mvT hZ (hw _ (List.mem_of_getElem? (i := 29) rfl))) (by decide) (backOf (W := 0) (own_rm_peakRatio l Z a0 hw [] b1 b4 b12 ((q1 &&& (4503599627370495 : Int64)) + (1 : Int64)) ((q2 &&& (4503599627370495 : Int64)) + (1 : Int64)) T48.heap n0 (Nat.le_trans Z0 (Nat.le_trans (Nat.le_trans (Nat.le_trans (Nat.le_trans (Nat.le_trans (Nat.le_trans (Nat.le_trans (Nat.le_trans (Nat.le_trans (Nat.le_trans (Nat.le_trans E1.1 E4.1) K7.1) E12.1) K15.1) K20.1) E29.1) E32.1) K35.1) E40.1) K43.1) K48.1)) f61 f62 f67 f71 (own_nnr q1 q2)) hZ (hw _ (List.mem_of_getElem? (i := 31) rfl)) (hw _ (List.mem_of_getElem? (i := 5) rfl)) (by decide) (by decide)) q57a q57c (g := (mkF m 106 #[.val (.long q1), .second, .val (.long q2), .second, .val (.long q3), .second, .val (.long q4), .second, .val (.long q5), .second, .val (.long q6), .second, .val (.long (4503599627370495 : Int64)), .second, .val (.long ((q1 &&& (4503599627370495 : Int64)) + (1 : Int64))), .second, .val (.long ((q2 &&& (4503599627370495 : Int64)) + (1 : Int64))), .second, .val (.long (q3 &&& (65535 : Int64))), .second, .val (.long ((q4 &&& (268435455 : Int64)) + (1 : Int64))), .second, .val (.ref b1), .val (.ref b29), .unset, .unset, .unset, .unset, .unset, .unset, .unset] [(.ref b1)])) rfl (by rw [hml]; rfl) (Steps.refl _) (argsL := []) (rest := []) (lenOf own_pd2 rfl) rfl (by show 2 * 0 + _ ≤ _; exact Nat.le_of_eq rfl) (hb hby at_106) (fun _ _ => ⟨rfl, rfl, (by decide : 0 + 1 + 1 + 0 + 1 + 0 + 0 + 1 + 1 + 0 + 1 + 0 + 0 + 0 ≤ _), (by decide : 0 + 2 + 2 + 0 + 2 + 0 + 0 + 2 + 2 + 0 + 2 + 0 + 0 + 0 ≤ _)⟩)
  dsimp only [Pt.U, Pt.locs, Pt.cells, Pt.slots] at X57 l57 y57 z57 st57 hQ57
  subst l57 y57 z57
  obtain ⟨rfl, Nq57, hh57⟩ := hQ57
  have N57 := Fr.app N48 Nq57
  refine own_via (fun _ k => st57.trans k) ?_
  show own_Fin _ _ _ _ _ _ _ T57 (mkF m 109 #[.val (.long q1), .second, .val (.long q2), .second, .val (.long q3), .second, .val (.long q4), .second, .val (.long q5), .second, .val (.long q6), .second, .val (.long (4503599627370495 : Int64)), .second, .val (.long ((q1 &&& (4503599627370495 : Int64)) + (1 : Int64))), .second, .val (.long ((q2 &&& (4503599627370495 : Int64)) + (1 : Int64))), .second, .val (.long (q3 &&& (65535 : Int64))), .second, .val (.long ((q4 &&& (268435455 : Int64)) + (1 : Int64))), .second, .val (.ref b1), .val (.ref b29), .unset, .unset, .unset, .unset, .unset, .unset, .unset] [(.double (FP.ddiv (FP.l2d ((q1 &&& (4503599627370495 : Int64)) + (1 : Int64))) (FP.l2d ((q2 &&& (4503599627370495 : Int64)) + (1 : Int64)))))])
  refine own_via (fun _ k => XS.dstore X57.here hx rfl (hb hby at_109) rfl (l' := #[.val (.long q1), .second, .val (.long q2), .second, .val (.long q3), .second, .val (.long q4), .second, .val (.long q5), .second, .val (.long q6), .second, .val (.long (4503599627370495 : Int64)), .second, .val (.long ((q1 &&& (4503599627370495 : Int64)) + (1 : Int64))), .second, .val (.long ((q2 &&& (4503599627370495 : Int64)) + (1 : Int64))), .second, .val (.long (q3 &&& (65535 : Int64))), .second, .val (.long ((q4 &&& (268435455 : Int64)) + (1 : Int64))), .second, .val (.ref b1), .val (.ref b29), .val (.double (FP.ddiv (FP.l2d ((q1 &&& (4503599627370495 : Int64)) + (1 : Int64))) (FP.l2d ((q2 &&& (4503599627370495 : Int64)) + (1 : Int64))))), .second, .unset, .unset, .unset, .unset, .unset]) rfl k) ?_
  show own_Fin _ _ _ _ _ _ _ T57 (mkF m 111 #[.val (.long q1), .second, .val (.long q2), .second, .val (.long q3), .second, .val (.long q4), .second, .val (.long q5), .second, .val (.long q6), .second, .val (.long (4503599627370495 : Int64)), .second, .val (.long ((q1 &&& (4503599627370495 : Int64)) + (1 : Int64))), .second, .val (.long ((q2 &&& (4503599627370495 : Int64)) + (1 : Int64))), .second, .val (.long (q3 &&& (65535 : Int64))), .second, .val (.long ((q4 &&& (268435455 : Int64)) + (1 : Int64))), .second, .val (.ref b1), .val (.ref b29), .val (.double (FP.ddiv (FP.l2d ((q1 &&& (4503599627370495 : Int64)) + (1 : Int64))) (FP.l2d ((q2 &&& (4503599627370495 : Int64)) + (1 : Int64))))), .second, .unset, .unset, .unset, .unset, .unset] [])
  refine own_via (fun _ k => XS.aload X57.here hx rfl (hb hby at_111) rfl rfl k) ?_
  show own_Fin _ _ _ _ _ _ _ T57 (mkF m 113 #[.val (.long q1), .second, .val (.long q2), .second, .val (.long q3), .second, .val (.long q4), .second, .val (.long q5), .second, .val (.long q6), .second, .val (.long (4503599627370495 : Int64)), .second, .val (.long ((q1 &&& (4503599627370495 : Int64)) + (1 : Int64))), .second, .val (.long ((q2 &&& (4503599627370495 : Int64)) + (1 : Int64))), .second, .val (.long (q3 &&& (65535 : Int64))), .second, .val (.long ((q4 &&& (268435455 : Int64)) + (1 : Int64))), .second, .val (.ref b1), .val (.ref b29), .val (.double (FP.ddiv (FP.l2d ((q1 &&& (4503599627370495 : Int64)) + (1 : Int64))) (FP.l2d ((q2 &&& (4503599627370495 : Int64)) + (1 : Int64))))), .second, .unset, .unset, .unset, .unset, .unset] [(.ref b29)])
  have q74 : b32 ≠ b40 := Nat.ne_of_lt (Nat.lt_of_lt_of_le r37.lt (Nat.le_of_eq g40.symm))
  have f75 := (((r39.ext E40).keep K43 (ninS q74 nin0)).keep K48 (ninS (Ne.symm q49) nin0))
  obtain ⟨cq73, kq73, q73a, q73b, q73c⟩ := isOf hZ hh57 r54
  obtain ⟨_, _, ⟨T73, L73, k73, n73⟩, -, X73, ⟨Lc73, hQ73, l73, y73, z73⟩, st73⟩ := X57.virtualBack hx (y := (⟨"com/example/dependency_container/dependencycontainer/benchmark/StartupBenchmark$Pair", "peakRatio", "()D"⟩ : MethodName)) (z := (⟨"com/example/dependency_container/dependencycontainer/benchmark/StartupBenchmark$Pair", "peakRatio", "()D"⟩ : MethodName)) hown (mvT hZ (hw _ (List.mem_of_getElem? (i := 27) rfl))) (mvT hZ (hw _ (List.mem_of_getElem? (i := 28) rfl))) (notFace_of_selects (args := #[]) (mvT hZ (hw _ (List.mem_of_getElem? (i := 30) rfl)))) (mvT hZ (hw _ (List.mem_of_getElem? (i := 30) rfl))) (mvT hZ (hw _ (List.mem_of_getElem? (i := 29) rfl))) (by decide) (backOf (W := 0) (own_rm_peakRatio l Z a0 hw [] b29 b32 b40 ((q3 &&& (65535 : Int64)) * ((q4 &&& (268435455 : Int64)) + (1 : Int64))) ((q4 &&& (268435455 : Int64)) + (1 : Int64)) T48.heap n0 (Nat.le_trans Z0 (Nat.le_trans (Nat.le_trans (Nat.le_trans (Nat.le_trans (Nat.le_trans (Nat.le_trans (Nat.le_trans (Nat.le_trans (Nat.le_trans (Nat.le_trans (Nat.le_trans E1.1 E4.1) K7.1) E12.1) K15.1) K20.1) E29.1) E32.1) K35.1) E40.1) K43.1) K48.1)) r55 r56 f75 (r47.keep K48 (ninS (Ne.symm q50) nin0)) (own_nne q3 q4)) hZ (hw _ (List.mem_of_getElem? (i := 31) rfl)) (hw _ (List.mem_of_getElem? (i := 5) rfl)) (by decide) (by decide)) q73a q73c (g := (mkF m 113 #[.val (.long q1), .second, .val (.long q2), .second, .val (.long q3), .second, .val (.long q4), .second, .val (.long q5), .second, .val (.long q6), .second, .val (.long (4503599627370495 : Int64)), .second, .val (.long ((q1 &&& (4503599627370495 : Int64)) + (1 : Int64))), .second, .val (.long ((q2 &&& (4503599627370495 : Int64)) + (1 : Int64))), .second, .val (.long (q3 &&& (65535 : Int64))), .second, .val (.long ((q4 &&& (268435455 : Int64)) + (1 : Int64))), .second, .val (.ref b1), .val (.ref b29), .val (.double (FP.ddiv (FP.l2d ((q1 &&& (4503599627370495 : Int64)) + (1 : Int64))) (FP.l2d ((q2 &&& (4503599627370495 : Int64)) + (1 : Int64))))), .second, .unset, .unset, .unset, .unset, .unset] [(.ref b29)])) rfl (by rw [hml]; rfl) (Steps.refl _) (argsL := []) (rest := []) (lenOf own_pd2 rfl) rfl (by show 2 * 0 + _ ≤ _; exact Nat.le_of_eq rfl) (hb hby at_113) (fun _ _ => ⟨rfl, hh57, (by decide : 0 + 1 + 1 + 0 + 1 + 0 + 0 + 1 + 1 + 0 + 1 + 0 + 0 + 0 + 0 ≤ _), (by decide : 0 + 2 + 2 + 0 + 2 + 0 + 0 + 2 + 2 + 0 + 2 + 0 + 0 + 0 + 0 ≤ _)⟩)
  dsimp only [Pt.U, Pt.locs, Pt.cells, Pt.slots] at X73 l73 y73 z73 st73 hQ73
  subst l73 y73 z73
  obtain ⟨rfl, Nq73, hh73⟩ := hQ73
  have N73 := Fr.app N57 Nq73
  refine own_via (fun _ k => st73.trans k) ?_
  show own_Fin _ _ _ _ _ _ _ T73 (mkF m 116 #[.val (.long q1), .second, .val (.long q2), .second, .val (.long q3), .second, .val (.long q4), .second, .val (.long q5), .second, .val (.long q6), .second, .val (.long (4503599627370495 : Int64)), .second, .val (.long ((q1 &&& (4503599627370495 : Int64)) + (1 : Int64))), .second, .val (.long ((q2 &&& (4503599627370495 : Int64)) + (1 : Int64))), .second, .val (.long (q3 &&& (65535 : Int64))), .second, .val (.long ((q4 &&& (268435455 : Int64)) + (1 : Int64))), .second, .val (.ref b1), .val (.ref b29), .val (.double (FP.ddiv (FP.l2d ((q1 &&& (4503599627370495 : Int64)) + (1 : Int64))) (FP.l2d ((q2 &&& (4503599627370495 : Int64)) + (1 : Int64))))), .second, .unset, .unset, .unset, .unset, .unset] [(.double (FP.ddiv (FP.l2d ((q3 &&& (65535 : Int64)) * ((q4 &&& (268435455 : Int64)) + (1 : Int64)))) (FP.l2d ((q4 &&& (268435455 : Int64)) + (1 : Int64)))))])
  refine own_via (fun _ k => XS.dstore X73.here hx rfl (hb hby at_116) rfl (l' := #[.val (.long q1), .second, .val (.long q2), .second, .val (.long q3), .second, .val (.long q4), .second, .val (.long q5), .second, .val (.long q6), .second, .val (.long (4503599627370495 : Int64)), .second, .val (.long ((q1 &&& (4503599627370495 : Int64)) + (1 : Int64))), .second, .val (.long ((q2 &&& (4503599627370495 : Int64)) + (1 : Int64))), .second, .val (.long (q3 &&& (65535 : Int64))), .second, .val (.long ((q4 &&& (268435455 : Int64)) + (1 : Int64))), .second, .val (.ref b1), .val (.ref b29), .val (.double (FP.ddiv (FP.l2d ((q1 &&& (4503599627370495 : Int64)) + (1 : Int64))) (FP.l2d ((q2 &&& (4503599627370495 : Int64)) + (1 : Int64))))), .second, .val (.double (FP.ddiv (FP.l2d ((q3 &&& (65535 : Int64)) * ((q4 &&& (268435455 : Int64)) + (1 : Int64)))) (FP.l2d ((q4 &&& (268435455 : Int64)) + (1 : Int64))))), .second, .unset, .unset, .unset]) rfl k) ?_
  show own_Fin _ _ _ _ _ _ _ T73 (mkF m 118 #[.val (.long q1), .second, .val (.long q2), .second, .val (.long q3), .second, .val (.long q4), .second, .val (.long q5), .second, .val (.long q6), .second, .val (.long (4503599627370495 : Int64)), .second, .val (.long ((q1 &&& (4503599627370495 : Int64)) + (1 : Int64))), .second, .val (.long ((q2 &&& (4503599627370495 : Int64)) + (1 : Int64))), .second, .val (.long (q3 &&& (65535 : Int64))), .second, .val (.long ((q4 &&& (268435455 : Int64)) + (1 : Int64))), .second, .val (.ref b1), .val (.ref b29), .val (.double (FP.ddiv (FP.l2d ((q1 &&& (4503599627370495 : Int64)) + (1 : Int64))) (FP.l2d ((q2 &&& (4503599627370495 : Int64)) + (1 : Int64))))), .second, .val (.double (FP.ddiv (FP.l2d ((q3 &&& (65535 : Int64)) * ((q4 &&& (268435455 : Int64)) + (1 : Int64)))) (FP.l2d ((q4 &&& (268435455 : Int64)) + (1 : Int64))))), .second, .unset, .unset, .unset] [])
  refine own_via (fun _ k => XS.lload X73.here hx rfl (hb hby at_118) rfl k) ?_
  show own_Fin _ _ _ _ _ _ _ T73 (mkF m 120 #[.val (.long q1), .second, .val (.long q2), .second, .val (.long q3), .second, .val (.long q4), .second, .val (.long q5), .second, .val (.long q6), .second, .val (.long (4503599627370495 : Int64)), .second, .val (.long ((q1 &&& (4503599627370495 : Int64)) + (1 : Int64))), .second, .val (.long ((q2 &&& (4503599627370495 : Int64)) + (1 : Int64))), .second, .val (.long (q3 &&& (65535 : Int64))), .second, .val (.long ((q4 &&& (268435455 : Int64)) + (1 : Int64))), .second, .val (.ref b1), .val (.ref b29), .val (.double (FP.ddiv (FP.l2d ((q1 &&& (4503599627370495 : Int64)) + (1 : Int64))) (FP.l2d ((q2 &&& (4503599627370495 : Int64)) + (1 : Int64))))), .second, .val (.double (FP.ddiv (FP.l2d ((q3 &&& (65535 : Int64)) * ((q4 &&& (268435455 : Int64)) + (1 : Int64)))) (FP.l2d ((q4 &&& (268435455 : Int64)) + (1 : Int64))))), .second, .unset, .unset, .unset] [(.long ((q1 &&& (4503599627370495 : Int64)) + (1 : Int64)))])
  refine own_via (fun _ k => XS.lload X73.here hx rfl (hb hby at_120) rfl k) ?_
  show own_Fin _ _ _ _ _ _ _ T73 (mkF m 122 #[.val (.long q1), .second, .val (.long q2), .second, .val (.long q3), .second, .val (.long q4), .second, .val (.long q5), .second, .val (.long q6), .second, .val (.long (4503599627370495 : Int64)), .second, .val (.long ((q1 &&& (4503599627370495 : Int64)) + (1 : Int64))), .second, .val (.long ((q2 &&& (4503599627370495 : Int64)) + (1 : Int64))), .second, .val (.long (q3 &&& (65535 : Int64))), .second, .val (.long ((q4 &&& (268435455 : Int64)) + (1 : Int64))), .second, .val (.ref b1), .val (.ref b29), .val (.double (FP.ddiv (FP.l2d ((q1 &&& (4503599627370495 : Int64)) + (1 : Int64))) (FP.l2d ((q2 &&& (4503599627370495 : Int64)) + (1 : Int64))))), .second, .val (.double (FP.ddiv (FP.l2d ((q3 &&& (65535 : Int64)) * ((q4 &&& (268435455 : Int64)) + (1 : Int64)))) (FP.l2d ((q4 &&& (268435455 : Int64)) + (1 : Int64))))), .second, .unset, .unset, .unset] [(.long ((q2 &&& (4503599627370495 : Int64)) + (1 : Int64))), (.long ((q1 &&& (4503599627370495 : Int64)) + (1 : Int64)))])
  refine own_via (fun _ k => XS.lcmp X73.here hx rfl (hb hby at_122) rfl k) ?_
  show own_Fin _ _ _ _ _ _ _ T73 (mkF m 123 #[.val (.long q1), .second, .val (.long q2), .second, .val (.long q3), .second, .val (.long q4), .second, .val (.long q5), .second, .val (.long q6), .second, .val (.long (4503599627370495 : Int64)), .second, .val (.long ((q1 &&& (4503599627370495 : Int64)) + (1 : Int64))), .second, .val (.long ((q2 &&& (4503599627370495 : Int64)) + (1 : Int64))), .second, .val (.long (q3 &&& (65535 : Int64))), .second, .val (.long ((q4 &&& (268435455 : Int64)) + (1 : Int64))), .second, .val (.ref b1), .val (.ref b29), .val (.double (FP.ddiv (FP.l2d ((q1 &&& (4503599627370495 : Int64)) + (1 : Int64))) (FP.l2d ((q2 &&& (4503599627370495 : Int64)) + (1 : Int64))))), .second, .val (.double (FP.ddiv (FP.l2d ((q3 &&& (65535 : Int64)) * ((q4 &&& (268435455 : Int64)) + (1 : Int64)))) (FP.l2d ((q4 &&& (268435455 : Int64)) + (1 : Int64))))), .second, .unset, .unset, .unset] [(.int (lcmpW ((q1 &&& (4503599627370495 : Int64)) + (1 : Int64)) ((q2 &&& (4503599627370495 : Int64)) + (1 : Int64))))])
  have seg : ∀ (u : Unit), own_Fin p e s below (own_Q_law Z q1 q2 q3 q4 q5 q6 h0 n0) room_1.cells room_1.slots T73 (mkF m 182 #[.val (.long q1), .second, .val (.long q2), .second, .val (.long q3), .second, .val (.long q4), .second, .val (.long q5), .second, .val (.long q6), .second, .val (.long (4503599627370495 : Int64)), .second, .val (.long ((q1 &&& (4503599627370495 : Int64)) + (1 : Int64))), .second, .val (.long ((q2 &&& (4503599627370495 : Int64)) + (1 : Int64))), .second, .val (.long (q3 &&& (65535 : Int64))), .second, .val (.long ((q4 &&& (268435455 : Int64)) + (1 : Int64))), .second, .val (.ref b1), .val (.ref b29), .val (.double (FP.ddiv (FP.l2d ((q1 &&& (4503599627370495 : Int64)) + (1 : Int64))) (FP.l2d ((q2 &&& (4503599627370495 : Int64)) + (1 : Int64))))), .second, .val (.double (FP.ddiv (FP.l2d ((q3 &&& (65535 : Int64)) * ((q4 &&& (268435455 : Int64)) + (1 : Int64)))) (FP.l2d ((q4 &&& (268435455 : Int64)) + (1 : Int64))))), .second, .val (.int (1 : Int32)), .unset, .unset] []) := by
    intro u
    refine own_via (fun _ k => XS.dload X73.here hx rfl (hb hby at_182) rfl k) ?_
    show own_Fin _ _ _ _ _ _ _ T73 (mkF m 184 #[.val (.long q1), .second, .val (.long q2), .second, .val (.long q3), .second, .val (.long q4), .second, .val (.long q5), .second, .val (.long q6), .second, .val (.long (4503599627370495 : Int64)), .second, .val (.long ((q1 &&& (4503599627370495 : Int64)) + (1 : Int64))), .second, .val (.long ((q2 &&& (4503599627370495 : Int64)) + (1 : Int64))), .second, .val (.long (q3 &&& (65535 : Int64))), .second, .val (.long ((q4 &&& (268435455 : Int64)) + (1 : Int64))), .second, .val (.ref b1), .val (.ref b29), .val (.double (FP.ddiv (FP.l2d ((q1 &&& (4503599627370495 : Int64)) + (1 : Int64))) (FP.l2d ((q2 &&& (4503599627370495 : Int64)) + (1 : Int64))))), .second, .val (.double (FP.ddiv (FP.l2d ((q3 &&& (65535 : Int64)) * ((q4 &&& (268435455 : Int64)) + (1 : Int64)))) (FP.l2d ((q4 &&& (268435455 : Int64)) + (1 : Int64))))), .second, .val (.int (1 : Int32)), .unset, .unset] [(.double (FP.ddiv (FP.l2d ((q1 &&& (4503599627370495 : Int64)) + (1 : Int64))) (FP.l2d ((q2 &&& (4503599627370495 : Int64)) + (1 : Int64)))))])
    refine own_via (fun _ k => XS.dconst0 X73.here hx rfl (hb hby at_184) rfl k) ?_
    show own_Fin _ _ _ _ _ _ _ T73 (mkF m 185 #[.val (.long q1), .second, .val (.long q2), .second, .val (.long q3), .second, .val (.long q4), .second, .val (.long q5), .second, .val (.long q6), .second, .val (.long (4503599627370495 : Int64)), .second, .val (.long ((q1 &&& (4503599627370495 : Int64)) + (1 : Int64))), .second, .val (.long ((q2 &&& (4503599627370495 : Int64)) + (1 : Int64))), .second, .val (.long (q3 &&& (65535 : Int64))), .second, .val (.long ((q4 &&& (268435455 : Int64)) + (1 : Int64))), .second, .val (.ref b1), .val (.ref b29), .val (.double (FP.ddiv (FP.l2d ((q1 &&& (4503599627370495 : Int64)) + (1 : Int64))) (FP.l2d ((q2 &&& (4503599627370495 : Int64)) + (1 : Int64))))), .second, .val (.double (FP.ddiv (FP.l2d ((q3 &&& (65535 : Int64)) * ((q4 &&& (268435455 : Int64)) + (1 : Int64)))) (FP.l2d ((q4 &&& (268435455 : Int64)) + (1 : Int64))))), .second, .val (.int (1 : Int32)), .unset, .unset] [(.double FP.dconst0), (.double (FP.ddiv (FP.l2d ((q1 &&& (4503599627370495 : Int64)) + (1 : Int64))) (FP.l2d ((q2 &&& (4503599627370495 : Int64)) + (1 : Int64)))))])
    refine own_via (fun _ k => XS.dcmpS X73.here hx rfl (hb hby at_185) rfl rfl k) ?_
    show own_Fin _ _ _ _ _ _ _ T73 (mkF m 186 #[.val (.long q1), .second, .val (.long q2), .second, .val (.long q3), .second, .val (.long q4), .second, .val (.long q5), .second, .val (.long q6), .second, .val (.long (4503599627370495 : Int64)), .second, .val (.long ((q1 &&& (4503599627370495 : Int64)) + (1 : Int64))), .second, .val (.long ((q2 &&& (4503599627370495 : Int64)) + (1 : Int64))), .second, .val (.long (q3 &&& (65535 : Int64))), .second, .val (.long ((q4 &&& (268435455 : Int64)) + (1 : Int64))), .second, .val (.ref b1), .val (.ref b29), .val (.double (FP.ddiv (FP.l2d ((q1 &&& (4503599627370495 : Int64)) + (1 : Int64))) (FP.l2d ((q2 &&& (4503599627370495 : Int64)) + (1 : Int64))))), .second, .val (.double (FP.ddiv (FP.l2d ((q3 &&& (65535 : Int64)) * ((q4 &&& (268435455 : Int64)) + (1 : Int64)))) (FP.l2d ((q4 &&& (268435455 : Int64)) + (1 : Int64))))), .second, .val (.int (1 : Int32)), .unset, .unset] [(.int (cmpValue (FP.dcmp (FP.ddiv (FP.l2d ((q1 &&& (4503599627370495 : Int64)) + (1 : Int64))) (FP.l2d ((q2 &&& (4503599627370495 : Int64)) + (1 : Int64)))) FP.dconst0) .l))])
    refine own_via (fun _ k => XS.ifNo X73.here hx rfl (hb hby at_186) rfl ((if0 _ _).trans (tlt (own_pos q1 q2)).2.2.2) k) ?_
    show own_Fin _ _ _ _ _ _ _ T73 (mkF m 189 #[.val (.long q1), .second, .val (.long q2), .second, .val (.long q3), .second, .val (.long q4), .second, .val (.long q5), .second, .val (.long q6), .second, .val (.long (4503599627370495 : Int64)), .second, .val (.long ((q1 &&& (4503599627370495 : Int64)) + (1 : Int64))), .second, .val (.long ((q2 &&& (4503599627370495 : Int64)) + (1 : Int64))), .second, .val (.long (q3 &&& (65535 : Int64))), .second, .val (.long ((q4 &&& (268435455 : Int64)) + (1 : Int64))), .second, .val (.ref b1), .val (.ref b29), .val (.double (FP.ddiv (FP.l2d ((q1 &&& (4503599627370495 : Int64)) + (1 : Int64))) (FP.l2d ((q2 &&& (4503599627370495 : Int64)) + (1 : Int64))))), .second, .val (.double (FP.ddiv (FP.l2d ((q3 &&& (65535 : Int64)) * ((q4 &&& (268435455 : Int64)) + (1 : Int64)))) (FP.l2d ((q4 &&& (268435455 : Int64)) + (1 : Int64))))), .second, .val (.int (1 : Int32)), .unset, .unset] [])
    refine own_via (fun _ k => XS.dload X73.here hx rfl (hb hby at_189) rfl k) ?_
    show own_Fin _ _ _ _ _ _ _ T73 (mkF m 191 #[.val (.long q1), .second, .val (.long q2), .second, .val (.long q3), .second, .val (.long q4), .second, .val (.long q5), .second, .val (.long q6), .second, .val (.long (4503599627370495 : Int64)), .second, .val (.long ((q1 &&& (4503599627370495 : Int64)) + (1 : Int64))), .second, .val (.long ((q2 &&& (4503599627370495 : Int64)) + (1 : Int64))), .second, .val (.long (q3 &&& (65535 : Int64))), .second, .val (.long ((q4 &&& (268435455 : Int64)) + (1 : Int64))), .second, .val (.ref b1), .val (.ref b29), .val (.double (FP.ddiv (FP.l2d ((q1 &&& (4503599627370495 : Int64)) + (1 : Int64))) (FP.l2d ((q2 &&& (4503599627370495 : Int64)) + (1 : Int64))))), .second, .val (.double (FP.ddiv (FP.l2d ((q3 &&& (65535 : Int64)) * ((q4 &&& (268435455 : Int64)) + (1 : Int64)))) (FP.l2d ((q4 &&& (268435455 : Int64)) + (1 : Int64))))), .second, .val (.int (1 : Int32)), .unset, .unset] [(.double (FP.ddiv (FP.l2d ((q1 &&& (4503599627370495 : Int64)) + (1 : Int64))) (FP.l2d ((q2 &&& (4503599627370495 : Int64)) + (1 : Int64)))))])
    refine own_via (fun _ k => XS.lload X73.here hx rfl (hb hby at_191) rfl k) ?_
    show own_Fin _ _ _ _ _ _ _ T73 (mkF m 193 #[.val (.long q1), .second, .val (.long q2), .second, .val (.long q3), .second, .val (.long q4), .second, .val (.long q5), .second, .val (.long q6), .second, .val (.long (4503599627370495 : Int64)), .second, .val (.long ((q1 &&& (4503599627370495 : Int64)) + (1 : Int64))), .second, .val (.long ((q2 &&& (4503599627370495 : Int64)) + (1 : Int64))), .second, .val (.long (q3 &&& (65535 : Int64))), .second, .val (.long ((q4 &&& (268435455 : Int64)) + (1 : Int64))), .second, .val (.ref b1), .val (.ref b29), .val (.double (FP.ddiv (FP.l2d ((q1 &&& (4503599627370495 : Int64)) + (1 : Int64))) (FP.l2d ((q2 &&& (4503599627370495 : Int64)) + (1 : Int64))))), .second, .val (.double (FP.ddiv (FP.l2d ((q3 &&& (65535 : Int64)) * ((q4 &&& (268435455 : Int64)) + (1 : Int64)))) (FP.l2d ((q4 &&& (268435455 : Int64)) + (1 : Int64))))), .second, .val (.int (1 : Int32)), .unset, .unset] [(.long ((q1 &&& (4503599627370495 : Int64)) + (1 : Int64))), (.double (FP.ddiv (FP.l2d ((q1 &&& (4503599627370495 : Int64)) + (1 : Int64))) (FP.l2d ((q2 &&& (4503599627370495 : Int64)) + (1 : Int64)))))])
    refine own_via (fun _ k => XS.l2dS X73.here hx rfl (hb hby at_193) rfl rfl k) ?_
    show own_Fin _ _ _ _ _ _ _ T73 (mkF m 194 #[.val (.long q1), .second, .val (.long q2), .second, .val (.long q3), .second, .val (.long q4), .second, .val (.long q5), .second, .val (.long q6), .second, .val (.long (4503599627370495 : Int64)), .second, .val (.long ((q1 &&& (4503599627370495 : Int64)) + (1 : Int64))), .second, .val (.long ((q2 &&& (4503599627370495 : Int64)) + (1 : Int64))), .second, .val (.long (q3 &&& (65535 : Int64))), .second, .val (.long ((q4 &&& (268435455 : Int64)) + (1 : Int64))), .second, .val (.ref b1), .val (.ref b29), .val (.double (FP.ddiv (FP.l2d ((q1 &&& (4503599627370495 : Int64)) + (1 : Int64))) (FP.l2d ((q2 &&& (4503599627370495 : Int64)) + (1 : Int64))))), .second, .val (.double (FP.ddiv (FP.l2d ((q3 &&& (65535 : Int64)) * ((q4 &&& (268435455 : Int64)) + (1 : Int64)))) (FP.l2d ((q4 &&& (268435455 : Int64)) + (1 : Int64))))), .second, .val (.int (1 : Int32)), .unset, .unset] [(.double (FP.l2d ((q1 &&& (4503599627370495 : Int64)) + (1 : Int64)))), (.double (FP.ddiv (FP.l2d ((q1 &&& (4503599627370495 : Int64)) + (1 : Int64))) (FP.l2d ((q2 &&& (4503599627370495 : Int64)) + (1 : Int64)))))])
    refine own_via (fun _ k => XS.dcmpS X73.here hx rfl (hb hby at_194) rfl rfl k) ?_
    show own_Fin _ _ _ _ _ _ _ T73 (mkF m 195 #[.val (.long q1), .second, .val (.long q2), .second, .val (.long q3), .second, .val (.long q4), .second, .val (.long q5), .second, .val (.long q6), .second, .val (.long (4503599627370495 : Int64)), .second, .val (.long ((q1 &&& (4503599627370495 : Int64)) + (1 : Int64))), .second, .val (.long ((q2 &&& (4503599627370495 : Int64)) + (1 : Int64))), .second, .val (.long (q3 &&& (65535 : Int64))), .second, .val (.long ((q4 &&& (268435455 : Int64)) + (1 : Int64))), .second, .val (.ref b1), .val (.ref b29), .val (.double (FP.ddiv (FP.l2d ((q1 &&& (4503599627370495 : Int64)) + (1 : Int64))) (FP.l2d ((q2 &&& (4503599627370495 : Int64)) + (1 : Int64))))), .second, .val (.double (FP.ddiv (FP.l2d ((q3 &&& (65535 : Int64)) * ((q4 &&& (268435455 : Int64)) + (1 : Int64)))) (FP.l2d ((q4 &&& (268435455 : Int64)) + (1 : Int64))))), .second, .val (.int (1 : Int32)), .unset, .unset] [(.int (cmpValue (FP.dcmp (FP.ddiv (FP.l2d ((q1 &&& (4503599627370495 : Int64)) + (1 : Int64))) (FP.l2d ((q2 &&& (4503599627370495 : Int64)) + (1 : Int64)))) (FP.l2d ((q1 &&& (4503599627370495 : Int64)) + (1 : Int64)))) .g))])
    refine own_via (fun _ k => XS.ifNo X73.here hx rfl (hb hby at_195) rfl ((if0 _ _).trans (flt (own_le q1 q2)).2.2.1) k) ?_
    show own_Fin _ _ _ _ _ _ _ T73 (mkF m 198 #[.val (.long q1), .second, .val (.long q2), .second, .val (.long q3), .second, .val (.long q4), .second, .val (.long q5), .second, .val (.long q6), .second, .val (.long (4503599627370495 : Int64)), .second, .val (.long ((q1 &&& (4503599627370495 : Int64)) + (1 : Int64))), .second, .val (.long ((q2 &&& (4503599627370495 : Int64)) + (1 : Int64))), .second, .val (.long (q3 &&& (65535 : Int64))), .second, .val (.long ((q4 &&& (268435455 : Int64)) + (1 : Int64))), .second, .val (.ref b1), .val (.ref b29), .val (.double (FP.ddiv (FP.l2d ((q1 &&& (4503599627370495 : Int64)) + (1 : Int64))) (FP.l2d ((q2 &&& (4503599627370495 : Int64)) + (1 : Int64))))), .second, .val (.double (FP.ddiv (FP.l2d ((q3 &&& (65535 : Int64)) * ((q4 &&& (268435455 : Int64)) + (1 : Int64)))) (FP.l2d ((q4 &&& (268435455 : Int64)) + (1 : Int64))))), .second, .val (.int (1 : Int32)), .unset, .unset] [])
    refine own_via (fun _ k => XS.iconst X73.here hx rfl (hb hby at_198) k) ?_
    show own_Fin _ _ _ _ _ _ _ T73 (mkF m 199 #[.val (.long q1), .second, .val (.long q2), .second, .val (.long q3), .second, .val (.long q4), .second, .val (.long q5), .second, .val (.long q6), .second, .val (.long (4503599627370495 : Int64)), .second, .val (.long ((q1 &&& (4503599627370495 : Int64)) + (1 : Int64))), .second, .val (.long ((q2 &&& (4503599627370495 : Int64)) + (1 : Int64))), .second, .val (.long (q3 &&& (65535 : Int64))), .second, .val (.long ((q4 &&& (268435455 : Int64)) + (1 : Int64))), .second, .val (.ref b1), .val (.ref b29), .val (.double (FP.ddiv (FP.l2d ((q1 &&& (4503599627370495 : Int64)) + (1 : Int64))) (FP.l2d ((q2 &&& (4503599627370495 : Int64)) + (1 : Int64))))), .second, .val (.double (FP.ddiv (FP.l2d ((q3 &&& (65535 : Int64)) * ((q4 &&& (268435455 : Int64)) + (1 : Int64)))) (FP.l2d ((q4 &&& (268435455 : Int64)) + (1 : Int64))))), .second, .val (.int (1 : Int32)), .unset, .unset] [(.int (1 : Int32))])
    refine own_via (fun _ k => XS.goto X73.here hx rfl (pc0 := 199) (pc' := 203) rfl (hb hby at_199) (by decide) (by decide) k) ?_
    show own_Fin _ _ _ _ _ _ _ T73 (mkF m 203 #[.val (.long q1), .second, .val (.long q2), .second, .val (.long q3), .second, .val (.long q4), .second, .val (.long q5), .second, .val (.long q6), .second, .val (.long (4503599627370495 : Int64)), .second, .val (.long ((q1 &&& (4503599627370495 : Int64)) + (1 : Int64))), .second, .val (.long ((q2 &&& (4503599627370495 : Int64)) + (1 : Int64))), .second, .val (.long (q3 &&& (65535 : Int64))), .second, .val (.long ((q4 &&& (268435455 : Int64)) + (1 : Int64))), .second, .val (.ref b1), .val (.ref b29), .val (.double (FP.ddiv (FP.l2d ((q1 &&& (4503599627370495 : Int64)) + (1 : Int64))) (FP.l2d ((q2 &&& (4503599627370495 : Int64)) + (1 : Int64))))), .second, .val (.double (FP.ddiv (FP.l2d ((q3 &&& (65535 : Int64)) * ((q4 &&& (268435455 : Int64)) + (1 : Int64)))) (FP.l2d ((q4 &&& (268435455 : Int64)) + (1 : Int64))))), .second, .val (.int (1 : Int32)), .unset, .unset] [(.int (1 : Int32))])
    refine own_via (fun _ k => XS.istore X73.here hx rfl (hb hby at_203) rfl (l' := #[.val (.long q1), .second, .val (.long q2), .second, .val (.long q3), .second, .val (.long q4), .second, .val (.long q5), .second, .val (.long q6), .second, .val (.long (4503599627370495 : Int64)), .second, .val (.long ((q1 &&& (4503599627370495 : Int64)) + (1 : Int64))), .second, .val (.long ((q2 &&& (4503599627370495 : Int64)) + (1 : Int64))), .second, .val (.long (q3 &&& (65535 : Int64))), .second, .val (.long ((q4 &&& (268435455 : Int64)) + (1 : Int64))), .second, .val (.ref b1), .val (.ref b29), .val (.double (FP.ddiv (FP.l2d ((q1 &&& (4503599627370495 : Int64)) + (1 : Int64))) (FP.l2d ((q2 &&& (4503599627370495 : Int64)) + (1 : Int64))))), .second, .val (.double (FP.ddiv (FP.l2d ((q3 &&& (65535 : Int64)) * ((q4 &&& (268435455 : Int64)) + (1 : Int64)))) (FP.l2d ((q4 &&& (268435455 : Int64)) + (1 : Int64))))), .second, .val (.int (1 : Int32)), .val (.int (1 : Int32)), .unset]) rfl k) ?_
    show own_Fin _ _ _ _ _ _ _ T73 (mkF m 205 #[.val (.long q1), .second, .val (.long q2), .second, .val (.long q3), .second, .val (.long q4), .second, .val (.long q5), .second, .val (.long q6), .second, .val (.long (4503599627370495 : Int64)), .second, .val (.long ((q1 &&& (4503599627370495 : Int64)) + (1 : Int64))), .second, .val (.long ((q2 &&& (4503599627370495 : Int64)) + (1 : Int64))), .second, .val (.long (q3 &&& (65535 : Int64))), .second, .val (.long ((q4 &&& (268435455 : Int64)) + (1 : Int64))), .second, .val (.ref b1), .val (.ref b29), .val (.double (FP.ddiv (FP.l2d ((q1 &&& (4503599627370495 : Int64)) + (1 : Int64))) (FP.l2d ((q2 &&& (4503599627370495 : Int64)) + (1 : Int64))))), .second, .val (.double (FP.ddiv (FP.l2d ((q3 &&& (65535 : Int64)) * ((q4 &&& (268435455 : Int64)) + (1 : Int64)))) (FP.l2d ((q4 &&& (268435455 : Int64)) + (1 : Int64))))), .second, .val (.int (1 : Int32)), .val (.int (1 : Int32)), .unset] [])
    refine own_via (fun _ k => XS.dload X73.here hx rfl (hb hby at_205) rfl k) ?_
    show own_Fin _ _ _ _ _ _ _ T73 (mkF m 207 #[.val (.long q1), .second, .val (.long q2), .second, .val (.long q3), .second, .val (.long q4), .second, .val (.long q5), .second, .val (.long q6), .second, .val (.long (4503599627370495 : Int64)), .second, .val (.long ((q1 &&& (4503599627370495 : Int64)) + (1 : Int64))), .second, .val (.long ((q2 &&& (4503599627370495 : Int64)) + (1 : Int64))), .second, .val (.long (q3 &&& (65535 : Int64))), .second, .val (.long ((q4 &&& (268435455 : Int64)) + (1 : Int64))), .second, .val (.ref b1), .val (.ref b29), .val (.double (FP.ddiv (FP.l2d ((q1 &&& (4503599627370495 : Int64)) + (1 : Int64))) (FP.l2d ((q2 &&& (4503599627370495 : Int64)) + (1 : Int64))))), .second, .val (.double (FP.ddiv (FP.l2d ((q3 &&& (65535 : Int64)) * ((q4 &&& (268435455 : Int64)) + (1 : Int64)))) (FP.l2d ((q4 &&& (268435455 : Int64)) + (1 : Int64))))), .second, .val (.int (1 : Int32)), .val (.int (1 : Int32)), .unset] [(.double (FP.ddiv (FP.l2d ((q3 &&& (65535 : Int64)) * ((q4 &&& (268435455 : Int64)) + (1 : Int64)))) (FP.l2d ((q4 &&& (268435455 : Int64)) + (1 : Int64)))))])
    refine own_via (fun _ k => XS.lload X73.here hx rfl (hb hby at_207) rfl k) ?_
    show own_Fin _ _ _ _ _ _ _ T73 (mkF m 209 #[.val (.long q1), .second, .val (.long q2), .second, .val (.long q3), .second, .val (.long q4), .second, .val (.long q5), .second, .val (.long q6), .second, .val (.long (4503599627370495 : Int64)), .second, .val (.long ((q1 &&& (4503599627370495 : Int64)) + (1 : Int64))), .second, .val (.long ((q2 &&& (4503599627370495 : Int64)) + (1 : Int64))), .second, .val (.long (q3 &&& (65535 : Int64))), .second, .val (.long ((q4 &&& (268435455 : Int64)) + (1 : Int64))), .second, .val (.ref b1), .val (.ref b29), .val (.double (FP.ddiv (FP.l2d ((q1 &&& (4503599627370495 : Int64)) + (1 : Int64))) (FP.l2d ((q2 &&& (4503599627370495 : Int64)) + (1 : Int64))))), .second, .val (.double (FP.ddiv (FP.l2d ((q3 &&& (65535 : Int64)) * ((q4 &&& (268435455 : Int64)) + (1 : Int64)))) (FP.l2d ((q4 &&& (268435455 : Int64)) + (1 : Int64))))), .second, .val (.int (1 : Int32)), .val (.int (1 : Int32)), .unset] [(.long (q3 &&& (65535 : Int64))), (.double (FP.ddiv (FP.l2d ((q3 &&& (65535 : Int64)) * ((q4 &&& (268435455 : Int64)) + (1 : Int64)))) (FP.l2d ((q4 &&& (268435455 : Int64)) + (1 : Int64)))))])
    refine own_via (fun _ k => XS.l2dS X73.here hx rfl (hb hby at_209) rfl rfl k) ?_
    show own_Fin _ _ _ _ _ _ _ T73 (mkF m 210 #[.val (.long q1), .second, .val (.long q2), .second, .val (.long q3), .second, .val (.long q4), .second, .val (.long q5), .second, .val (.long q6), .second, .val (.long (4503599627370495 : Int64)), .second, .val (.long ((q1 &&& (4503599627370495 : Int64)) + (1 : Int64))), .second, .val (.long ((q2 &&& (4503599627370495 : Int64)) + (1 : Int64))), .second, .val (.long (q3 &&& (65535 : Int64))), .second, .val (.long ((q4 &&& (268435455 : Int64)) + (1 : Int64))), .second, .val (.ref b1), .val (.ref b29), .val (.double (FP.ddiv (FP.l2d ((q1 &&& (4503599627370495 : Int64)) + (1 : Int64))) (FP.l2d ((q2 &&& (4503599627370495 : Int64)) + (1 : Int64))))), .second, .val (.double (FP.ddiv (FP.l2d ((q3 &&& (65535 : Int64)) * ((q4 &&& (268435455 : Int64)) + (1 : Int64)))) (FP.l2d ((q4 &&& (268435455 : Int64)) + (1 : Int64))))), .second, .val (.int (1 : Int32)), .val (.int (1 : Int32)), .unset] [(.double (FP.l2d (q3 &&& (65535 : Int64)))), (.double (FP.ddiv (FP.l2d ((q3 &&& (65535 : Int64)) * ((q4 &&& (268435455 : Int64)) + (1 : Int64)))) (FP.l2d ((q4 &&& (268435455 : Int64)) + (1 : Int64)))))])
    refine own_via (fun _ k => XS.dcmpS X73.here hx rfl (hb hby at_210) rfl rfl k) ?_
    show own_Fin _ _ _ _ _ _ _ T73 (mkF m 211 #[.val (.long q1), .second, .val (.long q2), .second, .val (.long q3), .second, .val (.long q4), .second, .val (.long q5), .second, .val (.long q6), .second, .val (.long (4503599627370495 : Int64)), .second, .val (.long ((q1 &&& (4503599627370495 : Int64)) + (1 : Int64))), .second, .val (.long ((q2 &&& (4503599627370495 : Int64)) + (1 : Int64))), .second, .val (.long (q3 &&& (65535 : Int64))), .second, .val (.long ((q4 &&& (268435455 : Int64)) + (1 : Int64))), .second, .val (.ref b1), .val (.ref b29), .val (.double (FP.ddiv (FP.l2d ((q1 &&& (4503599627370495 : Int64)) + (1 : Int64))) (FP.l2d ((q2 &&& (4503599627370495 : Int64)) + (1 : Int64))))), .second, .val (.double (FP.ddiv (FP.l2d ((q3 &&& (65535 : Int64)) * ((q4 &&& (268435455 : Int64)) + (1 : Int64)))) (FP.l2d ((q4 &&& (268435455 : Int64)) + (1 : Int64))))), .second, .val (.int (1 : Int32)), .val (.int (1 : Int32)), .unset] [(.int (cmpValue (FP.dcmp (FP.ddiv (FP.l2d ((q3 &&& (65535 : Int64)) * ((q4 &&& (268435455 : Int64)) + (1 : Int64)))) (FP.l2d ((q4 &&& (268435455 : Int64)) + (1 : Int64)))) (FP.l2d (q3 &&& (65535 : Int64)))) .l))])
    refine own_via (fun _ k => XS.ifNo X73.here hx rfl (hb hby at_211) rfl ((if0 _ _).trans (teq (own_whole q3 q4)).2) k) ?_
    show own_Fin _ _ _ _ _ _ _ T73 (mkF m 214 #[.val (.long q1), .second, .val (.long q2), .second, .val (.long q3), .second, .val (.long q4), .second, .val (.long q5), .second, .val (.long q6), .second, .val (.long (4503599627370495 : Int64)), .second, .val (.long ((q1 &&& (4503599627370495 : Int64)) + (1 : Int64))), .second, .val (.long ((q2 &&& (4503599627370495 : Int64)) + (1 : Int64))), .second, .val (.long (q3 &&& (65535 : Int64))), .second, .val (.long ((q4 &&& (268435455 : Int64)) + (1 : Int64))), .second, .val (.ref b1), .val (.ref b29), .val (.double (FP.ddiv (FP.l2d ((q1 &&& (4503599627370495 : Int64)) + (1 : Int64))) (FP.l2d ((q2 &&& (4503599627370495 : Int64)) + (1 : Int64))))), .second, .val (.double (FP.ddiv (FP.l2d ((q3 &&& (65535 : Int64)) * ((q4 &&& (268435455 : Int64)) + (1 : Int64)))) (FP.l2d ((q4 &&& (268435455 : Int64)) + (1 : Int64))))), .second, .val (.int (1 : Int32)), .val (.int (1 : Int32)), .unset] [])
    refine own_via (fun _ k => XS.iconst X73.here hx rfl (hb hby at_214) k) ?_
    show own_Fin _ _ _ _ _ _ _ T73 (mkF m 215 #[.val (.long q1), .second, .val (.long q2), .second, .val (.long q3), .second, .val (.long q4), .second, .val (.long q5), .second, .val (.long q6), .second, .val (.long (4503599627370495 : Int64)), .second, .val (.long ((q1 &&& (4503599627370495 : Int64)) + (1 : Int64))), .second, .val (.long ((q2 &&& (4503599627370495 : Int64)) + (1 : Int64))), .second, .val (.long (q3 &&& (65535 : Int64))), .second, .val (.long ((q4 &&& (268435455 : Int64)) + (1 : Int64))), .second, .val (.ref b1), .val (.ref b29), .val (.double (FP.ddiv (FP.l2d ((q1 &&& (4503599627370495 : Int64)) + (1 : Int64))) (FP.l2d ((q2 &&& (4503599627370495 : Int64)) + (1 : Int64))))), .second, .val (.double (FP.ddiv (FP.l2d ((q3 &&& (65535 : Int64)) * ((q4 &&& (268435455 : Int64)) + (1 : Int64)))) (FP.l2d ((q4 &&& (268435455 : Int64)) + (1 : Int64))))), .second, .val (.int (1 : Int32)), .val (.int (1 : Int32)), .unset] [(.int (1 : Int32))])
    refine own_via (fun _ k => XS.goto X73.here hx rfl (pc0 := 215) (pc' := 219) rfl (hb hby at_215) (by decide) (by decide) k) ?_
    show own_Fin _ _ _ _ _ _ _ T73 (mkF m 219 #[.val (.long q1), .second, .val (.long q2), .second, .val (.long q3), .second, .val (.long q4), .second, .val (.long q5), .second, .val (.long q6), .second, .val (.long (4503599627370495 : Int64)), .second, .val (.long ((q1 &&& (4503599627370495 : Int64)) + (1 : Int64))), .second, .val (.long ((q2 &&& (4503599627370495 : Int64)) + (1 : Int64))), .second, .val (.long (q3 &&& (65535 : Int64))), .second, .val (.long ((q4 &&& (268435455 : Int64)) + (1 : Int64))), .second, .val (.ref b1), .val (.ref b29), .val (.double (FP.ddiv (FP.l2d ((q1 &&& (4503599627370495 : Int64)) + (1 : Int64))) (FP.l2d ((q2 &&& (4503599627370495 : Int64)) + (1 : Int64))))), .second, .val (.double (FP.ddiv (FP.l2d ((q3 &&& (65535 : Int64)) * ((q4 &&& (268435455 : Int64)) + (1 : Int64)))) (FP.l2d ((q4 &&& (268435455 : Int64)) + (1 : Int64))))), .second, .val (.int (1 : Int32)), .val (.int (1 : Int32)), .unset] [(.int (1 : Int32))])
    refine own_via (fun _ k => XS.istore X73.here hx rfl (hb hby at_219) rfl (l' := #[.val (.long q1), .second, .val (.long q2), .second, .val (.long q3), .second, .val (.long q4), .second, .val (.long q5), .second, .val (.long q6), .second, .val (.long (4503599627370495 : Int64)), .second, .val (.long ((q1 &&& (4503599627370495 : Int64)) + (1 : Int64))), .second, .val (.long ((q2 &&& (4503599627370495 : Int64)) + (1 : Int64))), .second, .val (.long (q3 &&& (65535 : Int64))), .second, .val (.long ((q4 &&& (268435455 : Int64)) + (1 : Int64))), .second, .val (.ref b1), .val (.ref b29), .val (.double (FP.ddiv (FP.l2d ((q1 &&& (4503599627370495 : Int64)) + (1 : Int64))) (FP.l2d ((q2 &&& (4503599627370495 : Int64)) + (1 : Int64))))), .second, .val (.double (FP.ddiv (FP.l2d ((q3 &&& (65535 : Int64)) * ((q4 &&& (268435455 : Int64)) + (1 : Int64)))) (FP.l2d ((q4 &&& (268435455 : Int64)) + (1 : Int64))))), .second, .val (.int (1 : Int32)), .val (.int (1 : Int32)), .val (.int (1 : Int32))]) rfl k) ?_
    show own_Fin _ _ _ _ _ _ _ T73 (mkF m 221 #[.val (.long q1), .second, .val (.long q2), .second, .val (.long q3), .second, .val (.long q4), .second, .val (.long q5), .second, .val (.long q6), .second, .val (.long (4503599627370495 : Int64)), .second, .val (.long ((q1 &&& (4503599627370495 : Int64)) + (1 : Int64))), .second, .val (.long ((q2 &&& (4503599627370495 : Int64)) + (1 : Int64))), .second, .val (.long (q3 &&& (65535 : Int64))), .second, .val (.long ((q4 &&& (268435455 : Int64)) + (1 : Int64))), .second, .val (.ref b1), .val (.ref b29), .val (.double (FP.ddiv (FP.l2d ((q1 &&& (4503599627370495 : Int64)) + (1 : Int64))) (FP.l2d ((q2 &&& (4503599627370495 : Int64)) + (1 : Int64))))), .second, .val (.double (FP.ddiv (FP.l2d ((q3 &&& (65535 : Int64)) * ((q4 &&& (268435455 : Int64)) + (1 : Int64)))) (FP.l2d ((q4 &&& (268435455 : Int64)) + (1 : Int64))))), .second, .val (.int (1 : Int32)), .val (.int (1 : Int32)), .val (.int (1 : Int32))] [])
    refine own_via (fun _ k => XS.iload X73.here hx rfl (hb hby at_221) rfl k) ?_
    show own_Fin _ _ _ _ _ _ _ T73 (mkF m 223 #[.val (.long q1), .second, .val (.long q2), .second, .val (.long q3), .second, .val (.long q4), .second, .val (.long q5), .second, .val (.long q6), .second, .val (.long (4503599627370495 : Int64)), .second, .val (.long ((q1 &&& (4503599627370495 : Int64)) + (1 : Int64))), .second, .val (.long ((q2 &&& (4503599627370495 : Int64)) + (1 : Int64))), .second, .val (.long (q3 &&& (65535 : Int64))), .second, .val (.long ((q4 &&& (268435455 : Int64)) + (1 : Int64))), .second, .val (.ref b1), .val (.ref b29), .val (.double (FP.ddiv (FP.l2d ((q1 &&& (4503599627370495 : Int64)) + (1 : Int64))) (FP.l2d ((q2 &&& (4503599627370495 : Int64)) + (1 : Int64))))), .second, .val (.double (FP.ddiv (FP.l2d ((q3 &&& (65535 : Int64)) * ((q4 &&& (268435455 : Int64)) + (1 : Int64)))) (FP.l2d ((q4 &&& (268435455 : Int64)) + (1 : Int64))))), .second, .val (.int (1 : Int32)), .val (.int (1 : Int32)), .val (.int (1 : Int32))] [(.int (1 : Int32))])
    refine own_via (fun _ k => XS.ifNo X73.here hx rfl (hb hby at_223) rfl ((if0 _ _).trans (feq (by decide)).1) k) ?_
    show own_Fin _ _ _ _ _ _ _ T73 (mkF m 226 #[.val (.long q1), .second, .val (.long q2), .second, .val (.long q3), .second, .val (.long q4), .second, .val (.long q5), .second, .val (.long q6), .second, .val (.long (4503599627370495 : Int64)), .second, .val (.long ((q1 &&& (4503599627370495 : Int64)) + (1 : Int64))), .second, .val (.long ((q2 &&& (4503599627370495 : Int64)) + (1 : Int64))), .second, .val (.long (q3 &&& (65535 : Int64))), .second, .val (.long ((q4 &&& (268435455 : Int64)) + (1 : Int64))), .second, .val (.ref b1), .val (.ref b29), .val (.double (FP.ddiv (FP.l2d ((q1 &&& (4503599627370495 : Int64)) + (1 : Int64))) (FP.l2d ((q2 &&& (4503599627370495 : Int64)) + (1 : Int64))))), .second, .val (.double (FP.ddiv (FP.l2d ((q3 &&& (65535 : Int64)) * ((q4 &&& (268435455 : Int64)) + (1 : Int64)))) (FP.l2d ((q4 &&& (268435455 : Int64)) + (1 : Int64))))), .second, .val (.int (1 : Int32)), .val (.int (1 : Int32)), .val (.int (1 : Int32))] [])
    refine own_via (fun _ k => XS.iload X73.here hx rfl (hb hby at_226) rfl k) ?_
    show own_Fin _ _ _ _ _ _ _ T73 (mkF m 228 #[.val (.long q1), .second, .val (.long q2), .second, .val (.long q3), .second, .val (.long q4), .second, .val (.long q5), .second, .val (.long q6), .second, .val (.long (4503599627370495 : Int64)), .second, .val (.long ((q1 &&& (4503599627370495 : Int64)) + (1 : Int64))), .second, .val (.long ((q2 &&& (4503599627370495 : Int64)) + (1 : Int64))), .second, .val (.long (q3 &&& (65535 : Int64))), .second, .val (.long ((q4 &&& (268435455 : Int64)) + (1 : Int64))), .second, .val (.ref b1), .val (.ref b29), .val (.double (FP.ddiv (FP.l2d ((q1 &&& (4503599627370495 : Int64)) + (1 : Int64))) (FP.l2d ((q2 &&& (4503599627370495 : Int64)) + (1 : Int64))))), .second, .val (.double (FP.ddiv (FP.l2d ((q3 &&& (65535 : Int64)) * ((q4 &&& (268435455 : Int64)) + (1 : Int64)))) (FP.l2d ((q4 &&& (268435455 : Int64)) + (1 : Int64))))), .second, .val (.int (1 : Int32)), .val (.int (1 : Int32)), .val (.int (1 : Int32))] [(.int (1 : Int32))])
    refine own_via (fun _ k => XS.ifNo X73.here hx rfl (hb hby at_228) rfl ((if0 _ _).trans (feq (by decide)).1) k) ?_
    show own_Fin _ _ _ _ _ _ _ T73 (mkF m 231 #[.val (.long q1), .second, .val (.long q2), .second, .val (.long q3), .second, .val (.long q4), .second, .val (.long q5), .second, .val (.long q6), .second, .val (.long (4503599627370495 : Int64)), .second, .val (.long ((q1 &&& (4503599627370495 : Int64)) + (1 : Int64))), .second, .val (.long ((q2 &&& (4503599627370495 : Int64)) + (1 : Int64))), .second, .val (.long (q3 &&& (65535 : Int64))), .second, .val (.long ((q4 &&& (268435455 : Int64)) + (1 : Int64))), .second, .val (.ref b1), .val (.ref b29), .val (.double (FP.ddiv (FP.l2d ((q1 &&& (4503599627370495 : Int64)) + (1 : Int64))) (FP.l2d ((q2 &&& (4503599627370495 : Int64)) + (1 : Int64))))), .second, .val (.double (FP.ddiv (FP.l2d ((q3 &&& (65535 : Int64)) * ((q4 &&& (268435455 : Int64)) + (1 : Int64)))) (FP.l2d ((q4 &&& (268435455 : Int64)) + (1 : Int64))))), .second, .val (.int (1 : Int32)), .val (.int (1 : Int32)), .val (.int (1 : Int32))] [])
    refine own_via (fun _ k => XS.iload X73.here hx rfl (hb hby at_231) rfl k) ?_
    show own_Fin _ _ _ _ _ _ _ T73 (mkF m 233 #[.val (.long q1), .second, .val (.long q2), .second, .val (.long q3), .second, .val (.long q4), .second, .val (.long q5), .second, .val (.long q6), .second, .val (.long (4503599627370495 : Int64)), .second, .val (.long ((q1 &&& (4503599627370495 : Int64)) + (1 : Int64))), .second, .val (.long ((q2 &&& (4503599627370495 : Int64)) + (1 : Int64))), .second, .val (.long (q3 &&& (65535 : Int64))), .second, .val (.long ((q4 &&& (268435455 : Int64)) + (1 : Int64))), .second, .val (.ref b1), .val (.ref b29), .val (.double (FP.ddiv (FP.l2d ((q1 &&& (4503599627370495 : Int64)) + (1 : Int64))) (FP.l2d ((q2 &&& (4503599627370495 : Int64)) + (1 : Int64))))), .second, .val (.double (FP.ddiv (FP.l2d ((q3 &&& (65535 : Int64)) * ((q4 &&& (268435455 : Int64)) + (1 : Int64)))) (FP.l2d ((q4 &&& (268435455 : Int64)) + (1 : Int64))))), .second, .val (.int (1 : Int32)), .val (.int (1 : Int32)), .val (.int (1 : Int32))] [(.int (1 : Int32))])
    refine own_via (fun _ k => XS.ifNo X73.here hx rfl (hb hby at_233) rfl ((if0 _ _).trans (feq (by decide)).1) k) ?_
    show own_Fin _ _ _ _ _ _ _ T73 (mkF m 236 #[.val (.long q1), .second, .val (.long q2), .second, .val (.long q3), .second, .val (.long q4), .second, .val (.long q5), .second, .val (.long q6), .second, .val (.long (4503599627370495 : Int64)), .second, .val (.long ((q1 &&& (4503599627370495 : Int64)) + (1 : Int64))), .second, .val (.long ((q2 &&& (4503599627370495 : Int64)) + (1 : Int64))), .second, .val (.long (q3 &&& (65535 : Int64))), .second, .val (.long ((q4 &&& (268435455 : Int64)) + (1 : Int64))), .second, .val (.ref b1), .val (.ref b29), .val (.double (FP.ddiv (FP.l2d ((q1 &&& (4503599627370495 : Int64)) + (1 : Int64))) (FP.l2d ((q2 &&& (4503599627370495 : Int64)) + (1 : Int64))))), .second, .val (.double (FP.ddiv (FP.l2d ((q3 &&& (65535 : Int64)) * ((q4 &&& (268435455 : Int64)) + (1 : Int64)))) (FP.l2d ((q4 &&& (268435455 : Int64)) + (1 : Int64))))), .second, .val (.int (1 : Int32)), .val (.int (1 : Int32)), .val (.int (1 : Int32))] [])
    refine own_via (fun _ k => XS.iconst X73.here hx rfl (hb hby at_236) k) ?_
    show own_Fin _ _ _ _ _ _ _ T73 (mkF m 237 #[.val (.long q1), .second, .val (.long q2), .second, .val (.long q3), .second, .val (.long q4), .second, .val (.long q5), .second, .val (.long q6), .second, .val (.long (4503599627370495 : Int64)), .second, .val (.long ((q1 &&& (4503599627370495 : Int64)) + (1 : Int64))), .second, .val (.long ((q2 &&& (4503599627370495 : Int64)) + (1 : Int64))), .second, .val (.long (q3 &&& (65535 : Int64))), .second, .val (.long ((q4 &&& (268435455 : Int64)) + (1 : Int64))), .second, .val (.ref b1), .val (.ref b29), .val (.double (FP.ddiv (FP.l2d ((q1 &&& (4503599627370495 : Int64)) + (1 : Int64))) (FP.l2d ((q2 &&& (4503599627370495 : Int64)) + (1 : Int64))))), .second, .val (.double (FP.ddiv (FP.l2d ((q3 &&& (65535 : Int64)) * ((q4 &&& (268435455 : Int64)) + (1 : Int64)))) (FP.l2d ((q4 &&& (268435455 : Int64)) + (1 : Int64))))), .second, .val (.int (1 : Int32)), .val (.int (1 : Int32)), .val (.int (1 : Int32))] [(.int (1 : Int32))])
    refine own_via (fun _ k => XS.goto X73.here hx rfl (pc0 := 237) (pc' := 241) rfl (hb hby at_237) (by decide) (by decide) k) ?_
    show own_Fin _ _ _ _ _ _ _ T73 (mkF m 241 #[.val (.long q1), .second, .val (.long q2), .second, .val (.long q3), .second, .val (.long q4), .second, .val (.long q5), .second, .val (.long q6), .second, .val (.long (4503599627370495 : Int64)), .second, .val (.long ((q1 &&& (4503599627370495 : Int64)) + (1 : Int64))), .second, .val (.long ((q2 &&& (4503599627370495 : Int64)) + (1 : Int64))), .second, .val (.long (q3 &&& (65535 : Int64))), .second, .val (.long ((q4 &&& (268435455 : Int64)) + (1 : Int64))), .second, .val (.ref b1), .val (.ref b29), .val (.double (FP.ddiv (FP.l2d ((q1 &&& (4503599627370495 : Int64)) + (1 : Int64))) (FP.l2d ((q2 &&& (4503599627370495 : Int64)) + (1 : Int64))))), .second, .val (.double (FP.ddiv (FP.l2d ((q3 &&& (65535 : Int64)) * ((q4 &&& (268435455 : Int64)) + (1 : Int64)))) (FP.l2d ((q4 &&& (268435455 : Int64)) + (1 : Int64))))), .second, .val (.int (1 : Int32)), .val (.int (1 : Int32)), .val (.int (1 : Int32))] [(.int (1 : Int32))])
    exact own_retN X73 hx (t := .boolean) Bd.returns Bd.notSynchronized (by simp) (hb hby at_241) hh73 rfl ⟨rfl, N73⟩ (by decide) (by decide)
  rcases Classical.em ((lcmpW ((q1 &&& (4503599627370495 : Int64)) + (1 : Int64)) ((q2 &&& (4503599627370495 : Int64)) + (1 : Int64))) < (0 : Int32)) with hc | hc
  · refine own_via (fun _ k => XS.ifNo X73.here hx rfl (hb hby at_123) rfl ((if0 _ _).trans (tlt hc).2.1) k) ?_
    show own_Fin _ _ _ _ _ _ _ T73 (mkF m 126 #[.val (.long q1), .second, .val (.long q2), .second, .val (.long q3), .second, .val (.long q4), .second, .val (.long q5), .second, .val (.long q6), .second, .val (.long (4503599627370495 : Int64)), .second, .val (.long ((q1 &&& (4503599627370495 : Int64)) + (1 : Int64))), .second, .val (.long ((q2 &&& (4503599627370495 : Int64)) + (1 : Int64))), .second, .val (.long (q3 &&& (65535 : Int64))), .second, .val (.long ((q4 &&& (268435455 : Int64)) + (1 : Int64))), .second, .val (.ref b1), .val (.ref b29), .val (.double (FP.ddiv (FP.l2d ((q1 &&& (4503599627370495 : Int64)) + (1 : Int64))) (FP.l2d ((q2 &&& (4503599627370495 : Int64)) + (1 : Int64))))), .second, .val (.double (FP.ddiv (FP.l2d ((q3 &&& (65535 : Int64)) * ((q4 &&& (268435455 : Int64)) + (1 : Int64)))) (FP.l2d ((q4 &&& (268435455 : Int64)) + (1 : Int64))))), .second, .unset, .unset, .unset] [])
    refine own_via (fun _ k => XS.dload X73.here hx rfl (hb hby at_126) rfl k) ?_
    show own_Fin _ _ _ _ _ _ _ T73 (mkF m 128 #[.val (.long q1), .second, .val (.long q2), .second, .val (.long q3), .second, .val (.long q4), .second, .val (.long q5), .second, .val (.long q6), .second, .val (.long (4503599627370495 : Int64)), .second, .val (.long ((q1 &&& (4503599627370495 : Int64)) + (1 : Int64))), .second, .val (.long ((q2 &&& (4503599627370495 : Int64)) + (1 : Int64))), .second, .val (.long (q3 &&& (65535 : Int64))), .second, .val (.long ((q4 &&& (268435455 : Int64)) + (1 : Int64))), .second, .val (.ref b1), .val (.ref b29), .val (.double (FP.ddiv (FP.l2d ((q1 &&& (4503599627370495 : Int64)) + (1 : Int64))) (FP.l2d ((q2 &&& (4503599627370495 : Int64)) + (1 : Int64))))), .second, .val (.double (FP.ddiv (FP.l2d ((q3 &&& (65535 : Int64)) * ((q4 &&& (268435455 : Int64)) + (1 : Int64)))) (FP.l2d ((q4 &&& (268435455 : Int64)) + (1 : Int64))))), .second, .unset, .unset, .unset] [(.double (FP.ddiv (FP.l2d ((q1 &&& (4503599627370495 : Int64)) + (1 : Int64))) (FP.l2d ((q2 &&& (4503599627370495 : Int64)) + (1 : Int64)))))])
    refine own_via (fun _ k => XS.dconst1 X73.here hx rfl (hb hby at_128) rfl k) ?_
    show own_Fin _ _ _ _ _ _ _ T73 (mkF m 129 #[.val (.long q1), .second, .val (.long q2), .second, .val (.long q3), .second, .val (.long q4), .second, .val (.long q5), .second, .val (.long q6), .second, .val (.long (4503599627370495 : Int64)), .second, .val (.long ((q1 &&& (4503599627370495 : Int64)) + (1 : Int64))), .second, .val (.long ((q2 &&& (4503599627370495 : Int64)) + (1 : Int64))), .second, .val (.long (q3 &&& (65535 : Int64))), .second, .val (.long ((q4 &&& (268435455 : Int64)) + (1 : Int64))), .second, .val (.ref b1), .val (.ref b29), .val (.double (FP.ddiv (FP.l2d ((q1 &&& (4503599627370495 : Int64)) + (1 : Int64))) (FP.l2d ((q2 &&& (4503599627370495 : Int64)) + (1 : Int64))))), .second, .val (.double (FP.ddiv (FP.l2d ((q3 &&& (65535 : Int64)) * ((q4 &&& (268435455 : Int64)) + (1 : Int64)))) (FP.l2d ((q4 &&& (268435455 : Int64)) + (1 : Int64))))), .second, .unset, .unset, .unset] [(.double FP.dconst1), (.double (FP.ddiv (FP.l2d ((q1 &&& (4503599627370495 : Int64)) + (1 : Int64))) (FP.l2d ((q2 &&& (4503599627370495 : Int64)) + (1 : Int64)))))])
    refine own_via (fun _ k => XS.dcmpS X73.here hx rfl (hb hby at_129) rfl rfl k) ?_
    show own_Fin _ _ _ _ _ _ _ T73 (mkF m 130 #[.val (.long q1), .second, .val (.long q2), .second, .val (.long q3), .second, .val (.long q4), .second, .val (.long q5), .second, .val (.long q6), .second, .val (.long (4503599627370495 : Int64)), .second, .val (.long ((q1 &&& (4503599627370495 : Int64)) + (1 : Int64))), .second, .val (.long ((q2 &&& (4503599627370495 : Int64)) + (1 : Int64))), .second, .val (.long (q3 &&& (65535 : Int64))), .second, .val (.long ((q4 &&& (268435455 : Int64)) + (1 : Int64))), .second, .val (.ref b1), .val (.ref b29), .val (.double (FP.ddiv (FP.l2d ((q1 &&& (4503599627370495 : Int64)) + (1 : Int64))) (FP.l2d ((q2 &&& (4503599627370495 : Int64)) + (1 : Int64))))), .second, .val (.double (FP.ddiv (FP.l2d ((q3 &&& (65535 : Int64)) * ((q4 &&& (268435455 : Int64)) + (1 : Int64)))) (FP.l2d ((q4 &&& (268435455 : Int64)) + (1 : Int64))))), .second, .unset, .unset, .unset] [(.int (cmpValue (FP.dcmp (FP.ddiv (FP.l2d ((q1 &&& (4503599627370495 : Int64)) + (1 : Int64))) (FP.l2d ((q2 &&& (4503599627370495 : Int64)) + (1 : Int64)))) FP.dconst1) .g))])
    refine own_via (fun _ k => XS.ifNo X73.here hx rfl (hb hby at_130) rfl ((if0 _ _).trans (tlt (own_lt q1 q2 hc)).2.1) k) ?_
    show own_Fin _ _ _ _ _ _ _ T73 (mkF m 133 #[.val (.long q1), .second, .val (.long q2), .second, .val (.long q3), .second, .val (.long q4), .second, .val (.long q5), .second, .val (.long q6), .second, .val (.long (4503599627370495 : Int64)), .second, .val (.long ((q1 &&& (4503599627370495 : Int64)) + (1 : Int64))), .second, .val (.long ((q2 &&& (4503599627370495 : Int64)) + (1 : Int64))), .second, .val (.long (q3 &&& (65535 : Int64))), .second, .val (.long ((q4 &&& (268435455 : Int64)) + (1 : Int64))), .second, .val (.ref b1), .val (.ref b29), .val (.double (FP.ddiv (FP.l2d ((q1 &&& (4503599627370495 : Int64)) + (1 : Int64))) (FP.l2d ((q2 &&& (4503599627370495 : Int64)) + (1 : Int64))))), .second, .val (.double (FP.ddiv (FP.l2d ((q3 &&& (65535 : Int64)) * ((q4 &&& (268435455 : Int64)) + (1 : Int64)))) (FP.l2d ((q4 &&& (268435455 : Int64)) + (1 : Int64))))), .second, .unset, .unset, .unset] [])
    refine own_via (fun _ k => XS.iconst X73.here hx rfl (hb hby at_133) k) ?_
    show own_Fin _ _ _ _ _ _ _ T73 (mkF m 134 #[.val (.long q1), .second, .val (.long q2), .second, .val (.long q3), .second, .val (.long q4), .second, .val (.long q5), .second, .val (.long q6), .second, .val (.long (4503599627370495 : Int64)), .second, .val (.long ((q1 &&& (4503599627370495 : Int64)) + (1 : Int64))), .second, .val (.long ((q2 &&& (4503599627370495 : Int64)) + (1 : Int64))), .second, .val (.long (q3 &&& (65535 : Int64))), .second, .val (.long ((q4 &&& (268435455 : Int64)) + (1 : Int64))), .second, .val (.ref b1), .val (.ref b29), .val (.double (FP.ddiv (FP.l2d ((q1 &&& (4503599627370495 : Int64)) + (1 : Int64))) (FP.l2d ((q2 &&& (4503599627370495 : Int64)) + (1 : Int64))))), .second, .val (.double (FP.ddiv (FP.l2d ((q3 &&& (65535 : Int64)) * ((q4 &&& (268435455 : Int64)) + (1 : Int64)))) (FP.l2d ((q4 &&& (268435455 : Int64)) + (1 : Int64))))), .second, .unset, .unset, .unset] [(.int (1 : Int32))])
    refine own_via (fun _ k => XS.goto X73.here hx rfl (pc0 := 134) (pc' := 138) rfl (hb hby at_134) (by decide) (by decide) k) ?_
    show own_Fin _ _ _ _ _ _ _ T73 (mkF m 138 #[.val (.long q1), .second, .val (.long q2), .second, .val (.long q3), .second, .val (.long q4), .second, .val (.long q5), .second, .val (.long q6), .second, .val (.long (4503599627370495 : Int64)), .second, .val (.long ((q1 &&& (4503599627370495 : Int64)) + (1 : Int64))), .second, .val (.long ((q2 &&& (4503599627370495 : Int64)) + (1 : Int64))), .second, .val (.long (q3 &&& (65535 : Int64))), .second, .val (.long ((q4 &&& (268435455 : Int64)) + (1 : Int64))), .second, .val (.ref b1), .val (.ref b29), .val (.double (FP.ddiv (FP.l2d ((q1 &&& (4503599627370495 : Int64)) + (1 : Int64))) (FP.l2d ((q2 &&& (4503599627370495 : Int64)) + (1 : Int64))))), .second, .val (.double (FP.ddiv (FP.l2d ((q3 &&& (65535 : Int64)) * ((q4 &&& (268435455 : Int64)) + (1 : Int64)))) (FP.l2d ((q4 &&& (268435455 : Int64)) + (1 : Int64))))), .second, .unset, .unset, .unset] [(.int (1 : Int32))])
    refine own_via (fun _ k => XS.istore X73.here hx rfl (hb hby at_138) rfl (l' := #[.val (.long q1), .second, .val (.long q2), .second, .val (.long q3), .second, .val (.long q4), .second, .val (.long q5), .second, .val (.long q6), .second, .val (.long (4503599627370495 : Int64)), .second, .val (.long ((q1 &&& (4503599627370495 : Int64)) + (1 : Int64))), .second, .val (.long ((q2 &&& (4503599627370495 : Int64)) + (1 : Int64))), .second, .val (.long (q3 &&& (65535 : Int64))), .second, .val (.long ((q4 &&& (268435455 : Int64)) + (1 : Int64))), .second, .val (.ref b1), .val (.ref b29), .val (.double (FP.ddiv (FP.l2d ((q1 &&& (4503599627370495 : Int64)) + (1 : Int64))) (FP.l2d ((q2 &&& (4503599627370495 : Int64)) + (1 : Int64))))), .second, .val (.double (FP.ddiv (FP.l2d ((q3 &&& (65535 : Int64)) * ((q4 &&& (268435455 : Int64)) + (1 : Int64)))) (FP.l2d ((q4 &&& (268435455 : Int64)) + (1 : Int64))))), .second, .val (.int (1 : Int32)), .unset, .unset]) rfl k) ?_
    show own_Fin _ _ _ _ _ _ _ T73 (mkF m 140 #[.val (.long q1), .second, .val (.long q2), .second, .val (.long q3), .second, .val (.long q4), .second, .val (.long q5), .second, .val (.long q6), .second, .val (.long (4503599627370495 : Int64)), .second, .val (.long ((q1 &&& (4503599627370495 : Int64)) + (1 : Int64))), .second, .val (.long ((q2 &&& (4503599627370495 : Int64)) + (1 : Int64))), .second, .val (.long (q3 &&& (65535 : Int64))), .second, .val (.long ((q4 &&& (268435455 : Int64)) + (1 : Int64))), .second, .val (.ref b1), .val (.ref b29), .val (.double (FP.ddiv (FP.l2d ((q1 &&& (4503599627370495 : Int64)) + (1 : Int64))) (FP.l2d ((q2 &&& (4503599627370495 : Int64)) + (1 : Int64))))), .second, .val (.double (FP.ddiv (FP.l2d ((q3 &&& (65535 : Int64)) * ((q4 &&& (268435455 : Int64)) + (1 : Int64)))) (FP.l2d ((q4 &&& (268435455 : Int64)) + (1 : Int64))))), .second, .val (.int (1 : Int32)), .unset, .unset] [])
    refine own_via (fun _ k => XS.goto X73.here hx rfl (pc0 := 140) (pc' := 182) rfl (hb hby at_140) (by decide) (by decide) k) ?_
    show own_Fin _ _ _ _ _ _ _ T73 (mkF m 182 #[.val (.long q1), .second, .val (.long q2), .second, .val (.long q3), .second, .val (.long q4), .second, .val (.long q5), .second, .val (.long q6), .second, .val (.long (4503599627370495 : Int64)), .second, .val (.long ((q1 &&& (4503599627370495 : Int64)) + (1 : Int64))), .second, .val (.long ((q2 &&& (4503599627370495 : Int64)) + (1 : Int64))), .second, .val (.long (q3 &&& (65535 : Int64))), .second, .val (.long ((q4 &&& (268435455 : Int64)) + (1 : Int64))), .second, .val (.ref b1), .val (.ref b29), .val (.double (FP.ddiv (FP.l2d ((q1 &&& (4503599627370495 : Int64)) + (1 : Int64))) (FP.l2d ((q2 &&& (4503599627370495 : Int64)) + (1 : Int64))))), .second, .val (.double (FP.ddiv (FP.l2d ((q3 &&& (65535 : Int64)) * ((q4 &&& (268435455 : Int64)) + (1 : Int64)))) (FP.l2d ((q4 &&& (268435455 : Int64)) + (1 : Int64))))), .second, .val (.int (1 : Int32)), .unset, .unset] [])
    exact seg ()
  · refine own_via (fun _ k => XS.ifYes X73.here hx rfl (pc0 := 123) (pc' := 143) rfl (hb hby at_123) rfl ((if0 _ _).trans (flt hc).2.1) (by decide) (by decide) k) ?_
    show own_Fin _ _ _ _ _ _ _ T73 (mkF m 143 #[.val (.long q1), .second, .val (.long q2), .second, .val (.long q3), .second, .val (.long q4), .second, .val (.long q5), .second, .val (.long q6), .second, .val (.long (4503599627370495 : Int64)), .second, .val (.long ((q1 &&& (4503599627370495 : Int64)) + (1 : Int64))), .second, .val (.long ((q2 &&& (4503599627370495 : Int64)) + (1 : Int64))), .second, .val (.long (q3 &&& (65535 : Int64))), .second, .val (.long ((q4 &&& (268435455 : Int64)) + (1 : Int64))), .second, .val (.ref b1), .val (.ref b29), .val (.double (FP.ddiv (FP.l2d ((q1 &&& (4503599627370495 : Int64)) + (1 : Int64))) (FP.l2d ((q2 &&& (4503599627370495 : Int64)) + (1 : Int64))))), .second, .val (.double (FP.ddiv (FP.l2d ((q3 &&& (65535 : Int64)) * ((q4 &&& (268435455 : Int64)) + (1 : Int64)))) (FP.l2d ((q4 &&& (268435455 : Int64)) + (1 : Int64))))), .second, .unset, .unset, .unset] [])
    refine own_via (fun _ k => XS.lload X73.here hx rfl (hb hby at_143) rfl k) ?_
    show own_Fin _ _ _ _ _ _ _ T73 (mkF m 145 #[.val (.long q1), .second, .val (.long q2), .second, .val (.long q3), .second, .val (.long q4), .second, .val (.long q5), .second, .val (.long q6), .second, .val (.long (4503599627370495 : Int64)), .second, .val (.long ((q1 &&& (4503599627370495 : Int64)) + (1 : Int64))), .second, .val (.long ((q2 &&& (4503599627370495 : Int64)) + (1 : Int64))), .second, .val (.long (q3 &&& (65535 : Int64))), .second, .val (.long ((q4 &&& (268435455 : Int64)) + (1 : Int64))), .second, .val (.ref b1), .val (.ref b29), .val (.double (FP.ddiv (FP.l2d ((q1 &&& (4503599627370495 : Int64)) + (1 : Int64))) (FP.l2d ((q2 &&& (4503599627370495 : Int64)) + (1 : Int64))))), .second, .val (.double (FP.ddiv (FP.l2d ((q3 &&& (65535 : Int64)) * ((q4 &&& (268435455 : Int64)) + (1 : Int64)))) (FP.l2d ((q4 &&& (268435455 : Int64)) + (1 : Int64))))), .second, .unset, .unset, .unset] [(.long ((q1 &&& (4503599627370495 : Int64)) + (1 : Int64)))])
    refine own_via (fun _ k => XS.lload X73.here hx rfl (hb hby at_145) rfl k) ?_
    show own_Fin _ _ _ _ _ _ _ T73 (mkF m 147 #[.val (.long q1), .second, .val (.long q2), .second, .val (.long q3), .second, .val (.long q4), .second, .val (.long q5), .second, .val (.long q6), .second, .val (.long (4503599627370495 : Int64)), .second, .val (.long ((q1 &&& (4503599627370495 : Int64)) + (1 : Int64))), .second, .val (.long ((q2 &&& (4503599627370495 : Int64)) + (1 : Int64))), .second, .val (.long (q3 &&& (65535 : Int64))), .second, .val (.long ((q4 &&& (268435455 : Int64)) + (1 : Int64))), .second, .val (.ref b1), .val (.ref b29), .val (.double (FP.ddiv (FP.l2d ((q1 &&& (4503599627370495 : Int64)) + (1 : Int64))) (FP.l2d ((q2 &&& (4503599627370495 : Int64)) + (1 : Int64))))), .second, .val (.double (FP.ddiv (FP.l2d ((q3 &&& (65535 : Int64)) * ((q4 &&& (268435455 : Int64)) + (1 : Int64)))) (FP.l2d ((q4 &&& (268435455 : Int64)) + (1 : Int64))))), .second, .unset, .unset, .unset] [(.long ((q2 &&& (4503599627370495 : Int64)) + (1 : Int64))), (.long ((q1 &&& (4503599627370495 : Int64)) + (1 : Int64)))])
    refine own_via (fun _ k => XS.lcmp X73.here hx rfl (hb hby at_147) rfl k) ?_
    show own_Fin _ _ _ _ _ _ _ T73 (mkF m 148 #[.val (.long q1), .second, .val (.long q2), .second, .val (.long q3), .second, .val (.long q4), .second, .val (.long q5), .second, .val (.long q6), .second, .val (.long (4503599627370495 : Int64)), .second, .val (.long ((q1 &&& (4503599627370495 : Int64)) + (1 : Int64))), .second, .val (.long ((q2 &&& (4503599627370495 : Int64)) + (1 : Int64))), .second, .val (.long (q3 &&& (65535 : Int64))), .second, .val (.long ((q4 &&& (268435455 : Int64)) + (1 : Int64))), .second, .val (.ref b1), .val (.ref b29), .val (.double (FP.ddiv (FP.l2d ((q1 &&& (4503599627370495 : Int64)) + (1 : Int64))) (FP.l2d ((q2 &&& (4503599627370495 : Int64)) + (1 : Int64))))), .second, .val (.double (FP.ddiv (FP.l2d ((q3 &&& (65535 : Int64)) * ((q4 &&& (268435455 : Int64)) + (1 : Int64)))) (FP.l2d ((q4 &&& (268435455 : Int64)) + (1 : Int64))))), .second, .unset, .unset, .unset] [(.int (lcmpW ((q1 &&& (4503599627370495 : Int64)) + (1 : Int64)) ((q2 &&& (4503599627370495 : Int64)) + (1 : Int64))))])
    rcases Classical.em ((lcmpW ((q1 &&& (4503599627370495 : Int64)) + (1 : Int64)) ((q2 &&& (4503599627370495 : Int64)) + (1 : Int64))) = (0 : Int32)) with hd | hd
    · refine own_via (fun _ k => XS.ifNo X73.here hx rfl (hb hby at_148) rfl ((if0 _ _).trans (teq hd).2) k) ?_
      show own_Fin _ _ _ _ _ _ _ T73 (mkF m 151 #[.val (.long q1), .second, .val (.long q2), .second, .val (.long q3), .second, .val (.long q4), .second, .val (.long q5), .second, .val (.long q6), .second, .val (.long (4503599627370495 : Int64)), .second, .val (.long ((q1 &&& (4503599627370495 : Int64)) + (1 : Int64))), .second, .val (.long ((q2 &&& (4503599627370495 : Int64)) + (1 : Int64))), .second, .val (.long (q3 &&& (65535 : Int64))), .second, .val (.long ((q4 &&& (268435455 : Int64)) + (1 : Int64))), .second, .val (.ref b1), .val (.ref b29), .val (.double (FP.ddiv (FP.l2d ((q1 &&& (4503599627370495 : Int64)) + (1 : Int64))) (FP.l2d ((q2 &&& (4503599627370495 : Int64)) + (1 : Int64))))), .second, .val (.double (FP.ddiv (FP.l2d ((q3 &&& (65535 : Int64)) * ((q4 &&& (268435455 : Int64)) + (1 : Int64)))) (FP.l2d ((q4 &&& (268435455 : Int64)) + (1 : Int64))))), .second, .unset, .unset, .unset] [])
      refine own_via (fun _ k => XS.dload X73.here hx rfl (hb hby at_151) rfl k) ?_
      show own_Fin _ _ _ _ _ _ _ T73 (mkF m 153 #[.val (.long q1), .second, .val (.long q2), .second, .val (.long q3), .second, .val (.long q4), .second, .val (.long q5), .second, .val (.long q6), .second, .val (.long (4503599627370495 : Int64)), .second, .val (.long ((q1 &&& (4503599627370495 : Int64)) + (1 : Int64))), .second, .val (.long ((q2 &&& (4503599627370495 : Int64)) + (1 : Int64))), .second, .val (.long (q3 &&& (65535 : Int64))), .second, .val (.long ((q4 &&& (268435455 : Int64)) + (1 : Int64))), .second, .val (.ref b1), .val (.ref b29), .val (.double (FP.ddiv (FP.l2d ((q1 &&& (4503599627370495 : Int64)) + (1 : Int64))) (FP.l2d ((q2 &&& (4503599627370495 : Int64)) + (1 : Int64))))), .second, .val (.double (FP.ddiv (FP.l2d ((q3 &&& (65535 : Int64)) * ((q4 &&& (268435455 : Int64)) + (1 : Int64)))) (FP.l2d ((q4 &&& (268435455 : Int64)) + (1 : Int64))))), .second, .unset, .unset, .unset] [(.double (FP.ddiv (FP.l2d ((q1 &&& (4503599627370495 : Int64)) + (1 : Int64))) (FP.l2d ((q2 &&& (4503599627370495 : Int64)) + (1 : Int64)))))])
      refine own_via (fun _ k => XS.dconst1 X73.here hx rfl (hb hby at_153) rfl k) ?_
      show own_Fin _ _ _ _ _ _ _ T73 (mkF m 154 #[.val (.long q1), .second, .val (.long q2), .second, .val (.long q3), .second, .val (.long q4), .second, .val (.long q5), .second, .val (.long q6), .second, .val (.long (4503599627370495 : Int64)), .second, .val (.long ((q1 &&& (4503599627370495 : Int64)) + (1 : Int64))), .second, .val (.long ((q2 &&& (4503599627370495 : Int64)) + (1 : Int64))), .second, .val (.long (q3 &&& (65535 : Int64))), .second, .val (.long ((q4 &&& (268435455 : Int64)) + (1 : Int64))), .second, .val (.ref b1), .val (.ref b29), .val (.double (FP.ddiv (FP.l2d ((q1 &&& (4503599627370495 : Int64)) + (1 : Int64))) (FP.l2d ((q2 &&& (4503599627370495 : Int64)) + (1 : Int64))))), .second, .val (.double (FP.ddiv (FP.l2d ((q3 &&& (65535 : Int64)) * ((q4 &&& (268435455 : Int64)) + (1 : Int64)))) (FP.l2d ((q4 &&& (268435455 : Int64)) + (1 : Int64))))), .second, .unset, .unset, .unset] [(.double FP.dconst1), (.double (FP.ddiv (FP.l2d ((q1 &&& (4503599627370495 : Int64)) + (1 : Int64))) (FP.l2d ((q2 &&& (4503599627370495 : Int64)) + (1 : Int64)))))])
      refine own_via (fun _ k => XS.dcmpS X73.here hx rfl (hb hby at_154) rfl rfl k) ?_
      show own_Fin _ _ _ _ _ _ _ T73 (mkF m 155 #[.val (.long q1), .second, .val (.long q2), .second, .val (.long q3), .second, .val (.long q4), .second, .val (.long q5), .second, .val (.long q6), .second, .val (.long (4503599627370495 : Int64)), .second, .val (.long ((q1 &&& (4503599627370495 : Int64)) + (1 : Int64))), .second, .val (.long ((q2 &&& (4503599627370495 : Int64)) + (1 : Int64))), .second, .val (.long (q3 &&& (65535 : Int64))), .second, .val (.long ((q4 &&& (268435455 : Int64)) + (1 : Int64))), .second, .val (.ref b1), .val (.ref b29), .val (.double (FP.ddiv (FP.l2d ((q1 &&& (4503599627370495 : Int64)) + (1 : Int64))) (FP.l2d ((q2 &&& (4503599627370495 : Int64)) + (1 : Int64))))), .second, .val (.double (FP.ddiv (FP.l2d ((q3 &&& (65535 : Int64)) * ((q4 &&& (268435455 : Int64)) + (1 : Int64)))) (FP.l2d ((q4 &&& (268435455 : Int64)) + (1 : Int64))))), .second, .unset, .unset, .unset] [(.int (cmpValue (FP.dcmp (FP.ddiv (FP.l2d ((q1 &&& (4503599627370495 : Int64)) + (1 : Int64))) (FP.l2d ((q2 &&& (4503599627370495 : Int64)) + (1 : Int64)))) FP.dconst1) .l))])
      refine own_via (fun _ k => XS.ifNo X73.here hx rfl (hb hby at_155) rfl ((if0 _ _).trans (teq (own_eq q1 q2 hd)).2) k) ?_
      show own_Fin _ _ _ _ _ _ _ T73 (mkF m 158 #[.val (.long q1), .second, .val (.long q2), .second, .val (.long q3), .second, .val (.long q4), .second, .val (.long q5), .second, .val (.long q6), .second, .val (.long (4503599627370495 : Int64)), .second, .val (.long ((q1 &&& (4503599627370495 : Int64)) + (1 : Int64))), .second, .val (.long ((q2 &&& (4503599627370495 : Int64)) + (1 : Int64))), .second, .val (.long (q3 &&& (65535 : Int64))), .second, .val (.long ((q4 &&& (268435455 : Int64)) + (1 : Int64))), .second, .val (.ref b1), .val (.ref b29), .val (.double (FP.ddiv (FP.l2d ((q1 &&& (4503599627370495 : Int64)) + (1 : Int64))) (FP.l2d ((q2 &&& (4503599627370495 : Int64)) + (1 : Int64))))), .second, .val (.double (FP.ddiv (FP.l2d ((q3 &&& (65535 : Int64)) * ((q4 &&& (268435455 : Int64)) + (1 : Int64)))) (FP.l2d ((q4 &&& (268435455 : Int64)) + (1 : Int64))))), .second, .unset, .unset, .unset] [])
      refine own_via (fun _ k => XS.iconst X73.here hx rfl (hb hby at_158) k) ?_
      show own_Fin _ _ _ _ _ _ _ T73 (mkF m 159 #[.val (.long q1), .second, .val (.long q2), .second, .val (.long q3), .second, .val (.long q4), .second, .val (.long q5), .second, .val (.long q6), .second, .val (.long (4503599627370495 : Int64)), .second, .val (.long ((q1 &&& (4503599627370495 : Int64)) + (1 : Int64))), .second, .val (.long ((q2 &&& (4503599627370495 : Int64)) + (1 : Int64))), .second, .val (.long (q3 &&& (65535 : Int64))), .second, .val (.long ((q4 &&& (268435455 : Int64)) + (1 : Int64))), .second, .val (.ref b1), .val (.ref b29), .val (.double (FP.ddiv (FP.l2d ((q1 &&& (4503599627370495 : Int64)) + (1 : Int64))) (FP.l2d ((q2 &&& (4503599627370495 : Int64)) + (1 : Int64))))), .second, .val (.double (FP.ddiv (FP.l2d ((q3 &&& (65535 : Int64)) * ((q4 &&& (268435455 : Int64)) + (1 : Int64)))) (FP.l2d ((q4 &&& (268435455 : Int64)) + (1 : Int64))))), .second, .unset, .unset, .unset] [(.int (1 : Int32))])
      refine own_via (fun _ k => XS.goto X73.here hx rfl (pc0 := 159) (pc' := 163) rfl (hb hby at_159) (by decide) (by decide) k) ?_
      show own_Fin _ _ _ _ _ _ _ T73 (mkF m 163 #[.val (.long q1), .second, .val (.long q2), .second, .val (.long q3), .second, .val (.long q4), .second, .val (.long q5), .second, .val (.long q6), .second, .val (.long (4503599627370495 : Int64)), .second, .val (.long ((q1 &&& (4503599627370495 : Int64)) + (1 : Int64))), .second, .val (.long ((q2 &&& (4503599627370495 : Int64)) + (1 : Int64))), .second, .val (.long (q3 &&& (65535 : Int64))), .second, .val (.long ((q4 &&& (268435455 : Int64)) + (1 : Int64))), .second, .val (.ref b1), .val (.ref b29), .val (.double (FP.ddiv (FP.l2d ((q1 &&& (4503599627370495 : Int64)) + (1 : Int64))) (FP.l2d ((q2 &&& (4503599627370495 : Int64)) + (1 : Int64))))), .second, .val (.double (FP.ddiv (FP.l2d ((q3 &&& (65535 : Int64)) * ((q4 &&& (268435455 : Int64)) + (1 : Int64)))) (FP.l2d ((q4 &&& (268435455 : Int64)) + (1 : Int64))))), .second, .unset, .unset, .unset] [(.int (1 : Int32))])
      refine own_via (fun _ k => XS.istore X73.here hx rfl (hb hby at_163) rfl (l' := #[.val (.long q1), .second, .val (.long q2), .second, .val (.long q3), .second, .val (.long q4), .second, .val (.long q5), .second, .val (.long q6), .second, .val (.long (4503599627370495 : Int64)), .second, .val (.long ((q1 &&& (4503599627370495 : Int64)) + (1 : Int64))), .second, .val (.long ((q2 &&& (4503599627370495 : Int64)) + (1 : Int64))), .second, .val (.long (q3 &&& (65535 : Int64))), .second, .val (.long ((q4 &&& (268435455 : Int64)) + (1 : Int64))), .second, .val (.ref b1), .val (.ref b29), .val (.double (FP.ddiv (FP.l2d ((q1 &&& (4503599627370495 : Int64)) + (1 : Int64))) (FP.l2d ((q2 &&& (4503599627370495 : Int64)) + (1 : Int64))))), .second, .val (.double (FP.ddiv (FP.l2d ((q3 &&& (65535 : Int64)) * ((q4 &&& (268435455 : Int64)) + (1 : Int64)))) (FP.l2d ((q4 &&& (268435455 : Int64)) + (1 : Int64))))), .second, .val (.int (1 : Int32)), .unset, .unset]) rfl k) ?_
      show own_Fin _ _ _ _ _ _ _ T73 (mkF m 165 #[.val (.long q1), .second, .val (.long q2), .second, .val (.long q3), .second, .val (.long q4), .second, .val (.long q5), .second, .val (.long q6), .second, .val (.long (4503599627370495 : Int64)), .second, .val (.long ((q1 &&& (4503599627370495 : Int64)) + (1 : Int64))), .second, .val (.long ((q2 &&& (4503599627370495 : Int64)) + (1 : Int64))), .second, .val (.long (q3 &&& (65535 : Int64))), .second, .val (.long ((q4 &&& (268435455 : Int64)) + (1 : Int64))), .second, .val (.ref b1), .val (.ref b29), .val (.double (FP.ddiv (FP.l2d ((q1 &&& (4503599627370495 : Int64)) + (1 : Int64))) (FP.l2d ((q2 &&& (4503599627370495 : Int64)) + (1 : Int64))))), .second, .val (.double (FP.ddiv (FP.l2d ((q3 &&& (65535 : Int64)) * ((q4 &&& (268435455 : Int64)) + (1 : Int64)))) (FP.l2d ((q4 &&& (268435455 : Int64)) + (1 : Int64))))), .second, .val (.int (1 : Int32)), .unset, .unset] [])
      refine own_via (fun _ k => XS.goto X73.here hx rfl (pc0 := 165) (pc' := 182) rfl (hb hby at_165) (by decide) (by decide) k) ?_
      show own_Fin _ _ _ _ _ _ _ T73 (mkF m 182 #[.val (.long q1), .second, .val (.long q2), .second, .val (.long q3), .second, .val (.long q4), .second, .val (.long q5), .second, .val (.long q6), .second, .val (.long (4503599627370495 : Int64)), .second, .val (.long ((q1 &&& (4503599627370495 : Int64)) + (1 : Int64))), .second, .val (.long ((q2 &&& (4503599627370495 : Int64)) + (1 : Int64))), .second, .val (.long (q3 &&& (65535 : Int64))), .second, .val (.long ((q4 &&& (268435455 : Int64)) + (1 : Int64))), .second, .val (.ref b1), .val (.ref b29), .val (.double (FP.ddiv (FP.l2d ((q1 &&& (4503599627370495 : Int64)) + (1 : Int64))) (FP.l2d ((q2 &&& (4503599627370495 : Int64)) + (1 : Int64))))), .second, .val (.double (FP.ddiv (FP.l2d ((q3 &&& (65535 : Int64)) * ((q4 &&& (268435455 : Int64)) + (1 : Int64)))) (FP.l2d ((q4 &&& (268435455 : Int64)) + (1 : Int64))))), .second, .val (.int (1 : Int32)), .unset, .unset] [])
      exact seg ()
    · refine own_via (fun _ k => XS.ifYes X73.here hx rfl (pc0 := 148) (pc' := 168) rfl (hb hby at_148) rfl ((if0 _ _).trans (feq hd).2) (by decide) (by decide) k) ?_
      show own_Fin _ _ _ _ _ _ _ T73 (mkF m 168 #[.val (.long q1), .second, .val (.long q2), .second, .val (.long q3), .second, .val (.long q4), .second, .val (.long q5), .second, .val (.long q6), .second, .val (.long (4503599627370495 : Int64)), .second, .val (.long ((q1 &&& (4503599627370495 : Int64)) + (1 : Int64))), .second, .val (.long ((q2 &&& (4503599627370495 : Int64)) + (1 : Int64))), .second, .val (.long (q3 &&& (65535 : Int64))), .second, .val (.long ((q4 &&& (268435455 : Int64)) + (1 : Int64))), .second, .val (.ref b1), .val (.ref b29), .val (.double (FP.ddiv (FP.l2d ((q1 &&& (4503599627370495 : Int64)) + (1 : Int64))) (FP.l2d ((q2 &&& (4503599627370495 : Int64)) + (1 : Int64))))), .second, .val (.double (FP.ddiv (FP.l2d ((q3 &&& (65535 : Int64)) * ((q4 &&& (268435455 : Int64)) + (1 : Int64)))) (FP.l2d ((q4 &&& (268435455 : Int64)) + (1 : Int64))))), .second, .unset, .unset, .unset] [])
      refine own_via (fun _ k => XS.dload X73.here hx rfl (hb hby at_168) rfl k) ?_
      show own_Fin _ _ _ _ _ _ _ T73 (mkF m 170 #[.val (.long q1), .second, .val (.long q2), .second, .val (.long q3), .second, .val (.long q4), .second, .val (.long q5), .second, .val (.long q6), .second, .val (.long (4503599627370495 : Int64)), .second, .val (.long ((q1 &&& (4503599627370495 : Int64)) + (1 : Int64))), .second, .val (.long ((q2 &&& (4503599627370495 : Int64)) + (1 : Int64))), .second, .val (.long (q3 &&& (65535 : Int64))), .second, .val (.long ((q4 &&& (268435455 : Int64)) + (1 : Int64))), .second, .val (.ref b1), .val (.ref b29), .val (.double (FP.ddiv (FP.l2d ((q1 &&& (4503599627370495 : Int64)) + (1 : Int64))) (FP.l2d ((q2 &&& (4503599627370495 : Int64)) + (1 : Int64))))), .second, .val (.double (FP.ddiv (FP.l2d ((q3 &&& (65535 : Int64)) * ((q4 &&& (268435455 : Int64)) + (1 : Int64)))) (FP.l2d ((q4 &&& (268435455 : Int64)) + (1 : Int64))))), .second, .unset, .unset, .unset] [(.double (FP.ddiv (FP.l2d ((q1 &&& (4503599627370495 : Int64)) + (1 : Int64))) (FP.l2d ((q2 &&& (4503599627370495 : Int64)) + (1 : Int64)))))])
      refine own_via (fun _ k => XS.dconst1 X73.here hx rfl (hb hby at_170) rfl k) ?_
      show own_Fin _ _ _ _ _ _ _ T73 (mkF m 171 #[.val (.long q1), .second, .val (.long q2), .second, .val (.long q3), .second, .val (.long q4), .second, .val (.long q5), .second, .val (.long q6), .second, .val (.long (4503599627370495 : Int64)), .second, .val (.long ((q1 &&& (4503599627370495 : Int64)) + (1 : Int64))), .second, .val (.long ((q2 &&& (4503599627370495 : Int64)) + (1 : Int64))), .second, .val (.long (q3 &&& (65535 : Int64))), .second, .val (.long ((q4 &&& (268435455 : Int64)) + (1 : Int64))), .second, .val (.ref b1), .val (.ref b29), .val (.double (FP.ddiv (FP.l2d ((q1 &&& (4503599627370495 : Int64)) + (1 : Int64))) (FP.l2d ((q2 &&& (4503599627370495 : Int64)) + (1 : Int64))))), .second, .val (.double (FP.ddiv (FP.l2d ((q3 &&& (65535 : Int64)) * ((q4 &&& (268435455 : Int64)) + (1 : Int64)))) (FP.l2d ((q4 &&& (268435455 : Int64)) + (1 : Int64))))), .second, .unset, .unset, .unset] [(.double FP.dconst1), (.double (FP.ddiv (FP.l2d ((q1 &&& (4503599627370495 : Int64)) + (1 : Int64))) (FP.l2d ((q2 &&& (4503599627370495 : Int64)) + (1 : Int64)))))])
      refine own_via (fun _ k => XS.dcmpS X73.here hx rfl (hb hby at_171) rfl rfl k) ?_
      show own_Fin _ _ _ _ _ _ _ T73 (mkF m 172 #[.val (.long q1), .second, .val (.long q2), .second, .val (.long q3), .second, .val (.long q4), .second, .val (.long q5), .second, .val (.long q6), .second, .val (.long (4503599627370495 : Int64)), .second, .val (.long ((q1 &&& (4503599627370495 : Int64)) + (1 : Int64))), .second, .val (.long ((q2 &&& (4503599627370495 : Int64)) + (1 : Int64))), .second, .val (.long (q3 &&& (65535 : Int64))), .second, .val (.long ((q4 &&& (268435455 : Int64)) + (1 : Int64))), .second, .val (.ref b1), .val (.ref b29), .val (.double (FP.ddiv (FP.l2d ((q1 &&& (4503599627370495 : Int64)) + (1 : Int64))) (FP.l2d ((q2 &&& (4503599627370495 : Int64)) + (1 : Int64))))), .second, .val (.double (FP.ddiv (FP.l2d ((q3 &&& (65535 : Int64)) * ((q4 &&& (268435455 : Int64)) + (1 : Int64)))) (FP.l2d ((q4 &&& (268435455 : Int64)) + (1 : Int64))))), .second, .unset, .unset, .unset] [(.int (cmpValue (FP.dcmp (FP.ddiv (FP.l2d ((q1 &&& (4503599627370495 : Int64)) + (1 : Int64))) (FP.l2d ((q2 &&& (4503599627370495 : Int64)) + (1 : Int64)))) FP.dconst1) .l))])
      refine own_via (fun _ k => XS.ifNo X73.here hx rfl (hb hby at_172) rfl ((if0 _ _).trans (tlt (own_gt q1 q2 hc hd)).2.2.2) k) ?_
      show own_Fin _ _ _ _ _ _ _ T73 (mkF m 175 #[.val (.long q1), .second, .val (.long q2), .second, .val (.long q3), .second, .val (.long q4), .second, .val (.long q5), .second, .val (.long q6), .second, .val (.long (4503599627370495 : Int64)), .second, .val (.long ((q1 &&& (4503599627370495 : Int64)) + (1 : Int64))), .second, .val (.long ((q2 &&& (4503599627370495 : Int64)) + (1 : Int64))), .second, .val (.long (q3 &&& (65535 : Int64))), .second, .val (.long ((q4 &&& (268435455 : Int64)) + (1 : Int64))), .second, .val (.ref b1), .val (.ref b29), .val (.double (FP.ddiv (FP.l2d ((q1 &&& (4503599627370495 : Int64)) + (1 : Int64))) (FP.l2d ((q2 &&& (4503599627370495 : Int64)) + (1 : Int64))))), .second, .val (.double (FP.ddiv (FP.l2d ((q3 &&& (65535 : Int64)) * ((q4 &&& (268435455 : Int64)) + (1 : Int64)))) (FP.l2d ((q4 &&& (268435455 : Int64)) + (1 : Int64))))), .second, .unset, .unset, .unset] [])
      refine own_via (fun _ k => XS.iconst X73.here hx rfl (hb hby at_175) k) ?_
      show own_Fin _ _ _ _ _ _ _ T73 (mkF m 176 #[.val (.long q1), .second, .val (.long q2), .second, .val (.long q3), .second, .val (.long q4), .second, .val (.long q5), .second, .val (.long q6), .second, .val (.long (4503599627370495 : Int64)), .second, .val (.long ((q1 &&& (4503599627370495 : Int64)) + (1 : Int64))), .second, .val (.long ((q2 &&& (4503599627370495 : Int64)) + (1 : Int64))), .second, .val (.long (q3 &&& (65535 : Int64))), .second, .val (.long ((q4 &&& (268435455 : Int64)) + (1 : Int64))), .second, .val (.ref b1), .val (.ref b29), .val (.double (FP.ddiv (FP.l2d ((q1 &&& (4503599627370495 : Int64)) + (1 : Int64))) (FP.l2d ((q2 &&& (4503599627370495 : Int64)) + (1 : Int64))))), .second, .val (.double (FP.ddiv (FP.l2d ((q3 &&& (65535 : Int64)) * ((q4 &&& (268435455 : Int64)) + (1 : Int64)))) (FP.l2d ((q4 &&& (268435455 : Int64)) + (1 : Int64))))), .second, .unset, .unset, .unset] [(.int (1 : Int32))])
      refine own_via (fun _ k => XS.goto X73.here hx rfl (pc0 := 176) (pc' := 180) rfl (hb hby at_176) (by decide) (by decide) k) ?_
      show own_Fin _ _ _ _ _ _ _ T73 (mkF m 180 #[.val (.long q1), .second, .val (.long q2), .second, .val (.long q3), .second, .val (.long q4), .second, .val (.long q5), .second, .val (.long q6), .second, .val (.long (4503599627370495 : Int64)), .second, .val (.long ((q1 &&& (4503599627370495 : Int64)) + (1 : Int64))), .second, .val (.long ((q2 &&& (4503599627370495 : Int64)) + (1 : Int64))), .second, .val (.long (q3 &&& (65535 : Int64))), .second, .val (.long ((q4 &&& (268435455 : Int64)) + (1 : Int64))), .second, .val (.ref b1), .val (.ref b29), .val (.double (FP.ddiv (FP.l2d ((q1 &&& (4503599627370495 : Int64)) + (1 : Int64))) (FP.l2d ((q2 &&& (4503599627370495 : Int64)) + (1 : Int64))))), .second, .val (.double (FP.ddiv (FP.l2d ((q3 &&& (65535 : Int64)) * ((q4 &&& (268435455 : Int64)) + (1 : Int64)))) (FP.l2d ((q4 &&& (268435455 : Int64)) + (1 : Int64))))), .second, .unset, .unset, .unset] [(.int (1 : Int32))])
      refine own_via (fun _ k => XS.istore X73.here hx rfl (hb hby at_180) rfl (l' := #[.val (.long q1), .second, .val (.long q2), .second, .val (.long q3), .second, .val (.long q4), .second, .val (.long q5), .second, .val (.long q6), .second, .val (.long (4503599627370495 : Int64)), .second, .val (.long ((q1 &&& (4503599627370495 : Int64)) + (1 : Int64))), .second, .val (.long ((q2 &&& (4503599627370495 : Int64)) + (1 : Int64))), .second, .val (.long (q3 &&& (65535 : Int64))), .second, .val (.long ((q4 &&& (268435455 : Int64)) + (1 : Int64))), .second, .val (.ref b1), .val (.ref b29), .val (.double (FP.ddiv (FP.l2d ((q1 &&& (4503599627370495 : Int64)) + (1 : Int64))) (FP.l2d ((q2 &&& (4503599627370495 : Int64)) + (1 : Int64))))), .second, .val (.double (FP.ddiv (FP.l2d ((q3 &&& (65535 : Int64)) * ((q4 &&& (268435455 : Int64)) + (1 : Int64)))) (FP.l2d ((q4 &&& (268435455 : Int64)) + (1 : Int64))))), .second, .val (.int (1 : Int32)), .unset, .unset]) rfl k) ?_
      show own_Fin _ _ _ _ _ _ _ T73 (mkF m 182 #[.val (.long q1), .second, .val (.long q2), .second, .val (.long q3), .second, .val (.long q4), .second, .val (.long q5), .second, .val (.long q6), .second, .val (.long (4503599627370495 : Int64)), .second, .val (.long ((q1 &&& (4503599627370495 : Int64)) + (1 : Int64))), .second, .val (.long ((q2 &&& (4503599627370495 : Int64)) + (1 : Int64))), .second, .val (.long (q3 &&& (65535 : Int64))), .second, .val (.long ((q4 &&& (268435455 : Int64)) + (1 : Int64))), .second, .val (.ref b1), .val (.ref b29), .val (.double (FP.ddiv (FP.l2d ((q1 &&& (4503599627370495 : Int64)) + (1 : Int64))) (FP.l2d ((q2 &&& (4503599627370495 : Int64)) + (1 : Int64))))), .second, .val (.double (FP.ddiv (FP.l2d ((q3 &&& (65535 : Int64)) * ((q4 &&& (268435455 : Int64)) + (1 : Int64)))) (FP.l2d ((q4 &&& (268435455 : Int64)) + (1 : Int64))))), .second, .val (.int (1 : Int32)), .unset, .unset] [])
      exact seg ()
set_option maxRecDepth 65536 in
set_option maxHeartbeats 40000000 in
theorem comes_1 {Post : Tables → Env → Array Value → State → Outcome → State → Prop} (hpost : ∀ tb e args s v u, (limb_1_1.after args s (.returned v) u = true ∧ limb_1_2.after args s (.returned v) u = true ∧ True) → FrameEnd s (.returned v) u (Jvm.fieldLocs frame_1_writes args s ++ Jvm.arrayLocs frame_1_arrays args s ++ Jvm.staticLocs frame_1_statics s) 24 128 → Post tb e args s (.returned v) u) :
    ArmFor flags0 classFile x code maxLocals ret World_1 tables_1 room_1 Calls_1 rest_1 Pre_1 Post := by
  intro l hfl _ _ p e ha hc hk s m args below hf hA hF happ hP
  obtain ⟨hcalls, hrest, hpre⟩ := hP
  obtain ⟨-, -, -, hnamed, -, -, -, hat⟩ := (Spec.applies_iff hf).mp happ
  obtain ⟨hg, hn⟩ := and_e (Cond.before_iff.mp (show (Jvm.Cond.and given_1 narrow_1).before args s = true from hpre))
  obtain ⟨g0, k0⟩ := and_e hg
  obtain ⟨g1, k1⟩ := and_e k0
  obtain ⟨g2, k2⟩ := and_e k1
  obtain ⟨g3, k3⟩ := and_e k2
  obtain ⟨g4, k4⟩ := and_e k3
  obtain ⟨g5, k5⟩ := and_e k4
  have g6 := k5
  obtain ⟨w0, w1, w2, w3, w4, w5, rfl⟩ : ∃ w0 w1 w2 w3 w4 w5 : Value, args = #[w0, w1, w2, w3, w4, w5] := by
    have hs : args.size = 6 := by simpa [Cond.value, given_1] using g0
    obtain ⟨L⟩ := args
    match L, hs with
    | [w0, w1, w2, w3, w4, w5], _ => exact ⟨w0, w1, w2, w3, w4, w5, rfl⟩
  have hw := fun d (hd : d ∈ tables_1) => atoms_spec (ws := Jvm.Cond.code x code maxLocals ret :: tables_1) hat d (List.mem_cons_of_mem _ hd)
  have hfit : Fit s := fun {y c} hc i hi => by
    obtain ⟨ha, rfl⟩ := Array.getElem?_eq_some_iff.mp hc
    have q := List.all_eq_true.mp ((Array.all_eq_true_iff_forall_mem.mp hF) _ (Array.getElem_mem ha)) i (List.mem_range.mpr hi)
    simpa [Array.getElem?_eq_getElem hi] using q
  obtain ⟨i0, ei0⟩ := isL_v g1
  obtain rfl : w0 = (.long i0) := Option.some.inj ei0
  obtain ⟨i1, ei1⟩ := isL_v g2
  obtain rfl : w1 = (.long i1) := Option.some.inj ei1
  obtain ⟨i2, ei2⟩ := isL_v g3
  obtain rfl : w2 = (.long i2) := Option.some.inj ei2
  obtain ⟨i3, ei3⟩ := isL_v g4
  obtain rfl : w3 = (.long i3) := Option.some.inj ei3
  obtain ⟨i4, ei4⟩ := isL_v g5
  obtain rfl : w4 = (.long i4) := Option.some.inj ei4
  obtain ⟨i5, ei5⟩ := isL_v g6
  obtain rfl : w5 = (.long i5) := Option.some.inj ei5
  obtain ⟨n, o, h1, h2, h3, _, L, rfl, ⟨rfl, N⟩, hq⟩ := own_rm_law l s _ hw tables_1 i0 i1 i2 i3 i4 i5 s.heap s.heap.size (Nat.le_refl _)  p e ha hc hk s m _ below hf ((Spec.applies_iff_loose hf).mp happ).1 ⟨rfl, State.Warmed39.refl s, rfl⟩ trivial
  refine ⟨n, _, h1, h2, h3, hpost _ _ _ _ _ _ ⟨Cond.after_iff.mpr rfl, Cond.after_iff.mpr (eq_i res_at (Term.int_eval (1)) rfl), trivial⟩ ⟨hq.1, hq.2.1, (hq.2.2.sift fun y hy => Or.inr (N y hy)).mono (by decide) (by decide)⟩⟩
theorem main_1_1 : Claimed_1_1 := comes_1 fun _ _ _ _ _ _ h hF => ⟨h.1, hF⟩
theorem main_1_2 : Claimed_1_2 := comes_1 fun _ _ _ _ _ _ h hF => ⟨h.2.1, hF⟩
end Jvm.Pilot.@@N@@
namespace Jvm.Pilot.@@N@@
open Jvm Jvm.ClassFile Sem Op Lib Jvm.Free Jvm.Stand Jvm.Pilot.@@N@@.Jvm.D
/-! MADE BY PROGRAM (witnessworld.py) out of the Statement's table words and the real class files: 11 classes; the members and pool entries that the words name. The judged class is class 1, her method 1. -/
namespace start1
open Jvm.ClassFile
def u (s : String) : CpInfo := .utf8 (stringToUtf16 s)
/-- a pool by its gaps: so many unusable entries, then the entry; so many at the end -/
def gap : Nat → List CpInfo → List CpInfo
  | 0, r => r
  | n + 1, r => .unusable :: gap n r
def poolList (es : List (Nat × CpInfo)) (last : Nat) : List CpInfo := es.foldr (fun e r => gap e.1 (e.2 :: r)) (gap last [])
def pool (es : List (Nat × CpInfo)) (last : Nat) : Array CpInfo := ⟨poolList es last⟩
def fileOf (pool : Array CpInfo) (this : Nat) (attrs : Array Attribute := #[]) (ms : Array MethodInfo := #[]) (fl : Nat := 33) (sup : Nat := 0) (ifs : Array Nat := #[]) (fds : Array FieldInfo := #[]) : ClassFile where
  minorVersion := 0
  majorVersion := 65
  constantPool := pool
  accessFlags := fl
  thisClass := this
  superClass := sup
  interfaces := ifs
  fields := fds
  methods := ms
  attributes := attrs
def plain (name : String) (sup : Option ClassId) : Class where
  name := name
  kind := .ordinary
  loader := none
  accessFlags := 33
  super := sup
  interfaces := #[]
  cf := none
  fields := #[]
  methods := #[]
  instanceTypes := #[]
  staticTypes := #[]
  resolved := #[]
  callSites := []
  init := .initialized
  statics := none
  mirror := none

def pool0 : Array CpInfo := pool [(5, u "<init>"), (0, u "()V"), (1, .class_ 10), (1, u "java/lang/Object")] 113

def k0c0 : Code := { maxStack := 0, maxLocals := 1, code := object_method_1_code, exceptionTable := #[], attributes := #[] }
def k0m0 : Method := { name := "<init>", desc := "()V", sig := { parameters := [], returnType := none }, accessFlags := 1, code := some k0c0 }
/-- java/lang/Object -/
def k0 : Class := { plain "java/lang/Object" none with
  accessFlags := 33
  interfaces := #[]
  cf := some (fileOf pool0 8 #[] #[{ accessFlags := 1, nameIndex := 5, descriptorIndex := 6, attributes := #[] }] 33 0 #[] #[])
  fields := #[]
  methods := #[k0m0]
  instanceTypes := #[]
  staticTypes := #[]
  resolved := Array.replicate 124 none
  statics := none }

def pool1 : Array CpInfo := pool [(2, .class_ 4), (1, u "java/lang/Object"), (0, u "<init>"), (0, u "()V"), (0, .long 4503599627370495), (1, .long 65535), (1, .long 268435455), (1, .class_ 14), (0, u "com/example/dependency_container/dependencycontainer/benchmark/StartupBenchmark$Pair"), (0, .class_ 16), (0, u "com/example/dependency_container/dependencycontainer/benchmark/StartupBenchmark$Run"), (0, .methodref 15 18), (0, .nameAndType 5 19), (0, u "(JJ)V"), (0, .methodref 13 21), (0, .nameAndType 5 22), (0, u "(Lcom/example/dependency_container/dependencycontainer/benchmark/StartupBenchmark$Run;Lcom/example/dependency_container/dependencycontainer/benchmark/StartupBenchmark$Run;)V"), (0, .methodref 13 24), (0, .nameAndType 25 26), (0, u "peakRatio"), (0, u "()D"), (0, .class_ 28), (0, u "com/example/dependency_container/dependencycontainer/benchmark/PairPeakRatioPinLaw"), (2, u "law"), (0, u "(JJJJJJ)Z")] 8

def k1m0 : Method := { name := "<init>", desc := "()V", sig := { parameters := [], returnType := none }, accessFlags := 1, code := none }
def k1c1 : Code := { maxStack := 10, maxLocals := 31, code := code, exceptionTable := #[], attributes := #[] }
def k1m1 : Method := { name := "law", desc := "(JJJJJJ)Z", sig := { parameters := [.long, .long, .long, .long, .long, .long], returnType := some .boolean }, accessFlags := 9, code := some k1c1 }
/-- com/example/dependency_container/dependencycontainer/benchmark/PairPeakRatioPinLaw -/
def k1 : Class := { plain "com/example/dependency_container/dependencycontainer/benchmark/PairPeakRatioPinLaw" (some 0) with
  accessFlags := 49
  interfaces := #[]
  cf := some (fileOf pool1 27 #[] #[{ accessFlags := 1, nameIndex := 5, descriptorIndex := 6, attributes := #[] }, { accessFlags := 9, nameIndex := 31, descriptorIndex := 32, attributes := #[] }] 49 2 #[] #[])
  fields := #[]
  methods := #[k1m0, k1m1]
  instanceTypes := #[]
  staticTypes := #[]
  resolved := Array.replicate 41 none
  statics := none }

def pool2 : Array CpInfo := pool [(1, .methodref 2 3), (0, .class_ 4), (0, .nameAndType 5 6), (0, u "java/lang/Object"), (0, u "<init>"), (0, u "()V"), (0, .fieldref 8 9), (0, .class_ 10), (0, .nameAndType 11 12), (0, u "com/example/dependency_container/dependencycontainer/benchmark/StartupBenchmark$Pair"), (0, u "container"), (0, u "Lcom/example/dependency_container/dependencycontainer/benchmark/StartupBenchmark$Run;"), (0, .fieldref 8 14), (0, .nameAndType 15 12), (0, u "parse"), (1, .class_ 19), (1, u "com/example/dependency_container/dependencycontainer/benchmark/StartupBenchmark$Run"), (1, u "J"), (0, .fieldref 17 23), (0, .nameAndType 24 21), (0, u "peakKilobytes"), (0, u "(Lcom/example/dependency_container/dependencycontainer/benchmark/StartupBenchmark$Run;Lcom/example/dependency_container/dependencycontainer/benchmark/StartupBenchmark$Run;)V"), (3, u "()D"), (0, u "peakRatio"), (3, .class_ 35), (0, u "com/example/dependency_container/dependencycontainer/benchmark/StartupBenchmark")] 3

def k2c0 : Code := { maxStack := 2, maxLocals := 3, code := prog_123_method_1_code, exceptionTable := #[], attributes := #[] }
def k2m0 : Method := { name := "<init>", desc := "(Lcom/example/dependency_container/dependencycontainer/benchmark/StartupBenchmark$Run;Lcom/example/dependency_container/dependencycontainer/benchmark/StartupBenchmark$Run;)V", sig := { parameters := [(.object "com/example/dependency_container/dependencycontainer/benchmark/StartupBenchmark$Run"), (.object "com/example/dependency_container/dependencycontainer/benchmark/StartupBenchmark$Run")], returnType := none }, accessFlags := 0, code := some k2c0 }
def k2c1 : Code := { maxStack := 4, maxLocals := 1, code := prog_123_method_3_code, exceptionTable := #[], attributes := #[] }
def k2m1 : Method := { name := "peakRatio", desc := "()D", sig := { parameters := [], returnType := some .double }, accessFlags := 0, code := some k2c1 }
/-- com/example/dependency_container/dependencycontainer/benchmark/StartupBenchmark$Pair -/
def k2 : Class := { plain "com/example/dependency_container/dependencycontainer/benchmark/StartupBenchmark$Pair" (some 0) with
  accessFlags := 48
  interfaces := #[]
  cf := some (fileOf pool2 8 #[.nestHost 34] #[{ accessFlags := 0, nameIndex := 5, descriptorIndex := 25, attributes := #[] }, { accessFlags := 0, nameIndex := 30, descriptorIndex := 29, attributes := #[] }] 48 2 #[] #[{ accessFlags := 18, nameIndex := 11, descriptorIndex := 12, attributes := #[] }, { accessFlags := 18, nameIndex := 15, descriptorIndex := 12, attributes := #[] }])
  fields := #[{ name := "container", type := (.object "com/example/dependency_container/dependencycontainer/benchmark/StartupBenchmark$Run"), accessFlags := 18, slot := 0, constantValue := 0 }, { name := "parse", type := (.object "com/example/dependency_container/dependencycontainer/benchmark/StartupBenchmark$Run"), accessFlags := 18, slot := 1, constantValue := 0 }]
  methods := #[k2m0, k2m1]
  instanceTypes := #[(.object "com/example/dependency_container/dependencycontainer/benchmark/StartupBenchmark$Run"), (.object "com/example/dependency_container/dependencycontainer/benchmark/StartupBenchmark$Run")]
  staticTypes := #[]
  resolved := Array.replicate 39 none
  statics := none }

def pool3 : Array CpInfo := pool [(1, .methodref 2 3), (0, .class_ 4), (0, .nameAndType 5 6), (0, u "java/lang/Object"), (0, u "<init>"), (0, u "()V"), (0, .fieldref 8 9), (0, .class_ 10), (0, .nameAndType 11 12), (0, u "com/example/dependency_container/dependencycontainer/benchmark/StartupBenchmark$Run"), (0, u "wallNanos"), (0, u "J"), (0, .fieldref 8 14), (0, .nameAndType 15 12), (0, u "peakKilobytes"), (0, u "(JJ)V"), (5, .class_ 23), (0, u "com/example/dependency_container/dependencycontainer/benchmark/StartupBenchmark")] 2

def k3c0 : Code := { maxStack := 3, maxLocals := 5, code := prog_124_method_1_code, exceptionTable := #[], attributes := #[] }
def k3m0 : Method := { name := "<init>", desc := "(JJ)V", sig := { parameters := [.long, .long], returnType := none }, accessFlags := 0, code := some k3c0 }
/-- com/example/dependency_container/dependencycontainer/benchmark/StartupBenchmark$Run -/
def k3 : Class := { plain "com/example/dependency_container/dependencycontainer/benchmark/StartupBenchmark$Run" (some 0) with
  accessFlags := 48
  interfaces := #[]
  cf := some (fileOf pool3 8 #[.nestHost 22] #[{ accessFlags := 0, nameIndex := 5, descriptorIndex := 16, attributes := #[] }] 48 2 #[] #[{ accessFlags := 18, nameIndex := 11, descriptorIndex := 12, attributes := #[] }, { accessFlags := 18, nameIndex := 15, descriptorIndex := 12, attributes := #[] }])
  fields := #[{ name := "wallNanos", type := .long, accessFlags := 18, slot := 0, constantValue := 0 }, { name := "peakKilobytes", type := .long, accessFlags := 18, slot := 1, constantValue := 0 }]
  methods := #[k3m0]
  instanceTypes := #[.long, .long]
  staticTypes := #[]
  resolved := Array.replicate 26 none
  statics := none }

def pool4 : Array CpInfo := pool [(2, .class_ 4), (1, u "java/lang/Object"), (15, u "java"), (25, .class_ 48), (1, u "com/example/dependency_container/dependencycontainer/benchmark/StartupBenchmark"), (0, u "Ljava/util/List;"), (49, u "SIZES"), (0, u "[I"), (13, .class_ 115), (0, u "com/example/dependency_container/dependencycontainer/benchmark/StartupBenchmark$Figures"), (56, .class_ 173), (0, u "com/example/dependency_container/dependencycontainer/benchmark/StartupBenchmark$Pair"), (92, .class_ 267), (0, u "com/example/dependency_container/dependencycontainer/benchmark/StartupBenchmark$Run"), (73, u "MOST_RATIO"), (0, u "Ljava/math/BigDecimal;"), (0, u "PEAK_SIZE"), (0, u "I"), (1, u "COUNTED_PAIRS")] 63

/-- com/example/dependency_container/dependencycontainer/benchmark/StartupBenchmark -/
def k4 : Class := { plain "com/example/dependency_container/dependencycontainer/benchmark/StartupBenchmark" (some 0) with
  accessFlags := 49
  interfaces := #[]
  cf := some (fileOf pool4 46 #[.nestMembers #[114, 172, 266]] #[] 49 2 #[] #[{ accessFlags := 24, nameIndex := 341, descriptorIndex := 342, attributes := #[] }, { accessFlags := 26, nameIndex := 99, descriptorIndex := 100, attributes := #[] }, { accessFlags := 26, nameIndex := 343, descriptorIndex := 344, attributes := #[] }, { accessFlags := 26, nameIndex := 346, descriptorIndex := 344, attributes := #[] }, { accessFlags := 18, nameIndex := 20, descriptorIndex := 49, attributes := #[] }])
  fields := #[{ name := "MOST_RATIO", type := (.object "java/math/BigDecimal"), accessFlags := 24, slot := 0, constantValue := 0 }, { name := "SIZES", type := (.array .int), accessFlags := 26, slot := 1, constantValue := 0 }, { name := "PEAK_SIZE", type := .int, accessFlags := 26, slot := 2, constantValue := 0 }, { name := "COUNTED_PAIRS", type := .int, accessFlags := 26, slot := 3, constantValue := 0 }, { name := "java", type := (.object "java/util/List"), accessFlags := 18, slot := 0, constantValue := 0 }]
  methods := #[]
  instanceTypes := #[(.object "java/util/List")]
  staticTypes := #[(.object "java/math/BigDecimal"), (.array .int), .int, .int]
  resolved := Array.replicate 410 none
  statics := none }

def pool5 : Array CpInfo := pool [(1, u "java/lang/Cloneable"), (0, .class_ 1), (0, u "java/lang/Object"), (0, .class_ 3)] 3

/-- java/lang/Cloneable -/
def k5 : Class := { plain "java/lang/Cloneable" (some 0) with
  accessFlags := 1537
  interfaces := #[]
  cf := some (fileOf pool5 2 #[] #[] 1537 4 #[] #[])
  fields := #[]
  methods := #[]
  instanceTypes := #[]
  staticTypes := #[]
  resolved := Array.replicate 8 none
  statics := none }

def pool6 : Array CpInfo := pool [(1, u "java/io/Serializable"), (0, .class_ 1), (0, u "java/lang/Object"), (0, .class_ 3)] 3

/-- java/io/Serializable -/
def k6 : Class := { plain "java/io/Serializable" (some 0) with
  accessFlags := 1537
  interfaces := #[]
  cf := some (fileOf pool6 2 #[] #[] 1537 4 #[] #[])
  fields := #[]
  methods := #[]
  instanceTypes := #[]
  staticTypes := #[]
  resolved := Array.replicate 8 none
  statics := none }

/-- the primitive byte -/
def k7 : Class := { plain "byte" none with kind := .primitive 'B', accessFlags := 0x411 }
/-- [B -/
def k8 : Class := { plain "[B" (some 0) with kind := .array 7 .byte, interfaces := #[5, 6], accessFlags := 1041 }

/-- the primitive int -/
def k9 : Class := { plain "int" none with kind := .primitive 'I', accessFlags := 0x411 }
/-- [I -/
def k10 : Class := { plain "[I" (some 0) with kind := .array 9 .int, interfaces := #[5, 6], accessFlags := 1041 }

def heap : Heap := #[]
def classes : Array Class := #[k0, k1, k2, k3, k4, k5, k6, k7, k8, k9, k10]
def interned : List (Array UInt16 × Addr) := []
def slotsUsed : Nat := 0
def theMethod : MethodId := ⟨1, 1⟩
def args0 : Array Value := #[.long 5, .long 9, .long 3, .long 4, .long 7, .long 7]
def aboutOver (below : List Frame) : State where
  vm := { classes := classes, interned := interned.toArray }
  heap := heap
  slotsUsed := slotsUsed
  threads := #[{ frames := .invoking theMethod args0 :: below }]
def below0 : List Frame := [.native { method := ⟨0, 0⟩, args := #[] }]
def about1 : State := aboutOver below0
def p0 : Program := .bare "" "" ""
def e0 : Env := launch0.env 0 0 0
theorem w_frames : about1.frames = Frame.invoking theMethod args0 :: below0 := rfl
set_option maxRecDepth 65536 in
theorem w_args : argsFit about1.vm theMethod args0 = true := by decide +kernel
set_option maxRecDepth 65536 in
theorem w_heap : heapFits about1 = true := by decide +kernel
set_option maxRecDepth 65536 in
theorem w_runnable : about1.curStatus? = some .runnable := by decide +kernel
set_option maxRecDepth 65536 in
theorem w_alone : about1.alone = true := by decide +kernel
set_option maxRecDepth 65536 in
theorem w_named : about1.methodNamed? x = some theMethod := by decide +kernel
set_option maxRecDepth 65536 in
theorem w_hears : about1.hears theMethod below0 = true := by decide +kernel
set_option maxRecDepth 65536 in
theorem w_ripe : about1.ripe theMethod args0 below0 = true := by decide +kernel
theorem w_running : about1.status = .running := rfl
set_option maxRecDepth 65536 in
theorem w_room : about1.hasRoom e0.platform room_1 = true :=
  launch0.hasRoom_least _ room_1 (by decide +kernel) (by decide +kernel) (by decide +kernel) (by decide +kernel) (by decide +kernel) (by decide +kernel)
theorem allAtoms_all (ts : List Jvm.Cond) (a : Array Jvm.Value) (st : Jvm.State) : (allAtoms ts).before a st = ts.all (fun c => c.before a st) := by
  induction ts with
  | nil => rfl
  | cons c t ih =>
    show (Jvm.Cond.and c (allAtoms t)).before a st = _
    rw [Jvm.Cond.before_and, ih, List.all_cons]
def words1 : List Jvm.Cond := Jvm.Cond.code x code maxLocals ret :: tables_1
/-- a 'code' word, met by the world's own term for the bytes: nothing is compared byte by byte -/
theorem code_word {y : MethodName} {bytes : ByteArray} {mx : Nat} {rt : Option FieldType} {a : Array Value} {s : State} {m : MethodId} {meth : Method} {c : Code} (h1 : s.methodNamed? y = some m) (h2 : s.vm.method? m = some meth) (h3 : meth.code = some c) (h4 : c.code = bytes)
    (h5 : (c.maxLocals == mx && c.exceptionTable.isEmpty && decide (c.maxStack ≤ mostOperands) && decide (meth.sig.returnType = rt) && !meth.locks && decide (parseMethodDescriptor y.desc = some meth.sig)) = true) : (Jvm.Cond.code y bytes mx rt).before a s = true := by
  simp only [Bool.and_eq_true, beq_iff_eq, Bool.not_eq_true', decide_eq_true_eq] at h5
  obtain ⟨⟨⟨⟨⟨g1, g2⟩, g3⟩, g4⟩, g5⟩, g6⟩ := h5
  simp [Cond.before, Cond.holds, Cond.value, h1, h2, h3, h4, g1, g2, g3, g4, g5, g6]
def isCode : Jvm.Cond → Bool
  | .code _ _ _ _ => true
  | _ => false
theorem all_split {L : List Jvm.Cond} {P : Jvm.Cond → Bool} (h1 : L.all (fun c => isCode c || P c) = true) (h2 : ∀ c ∈ L.filter isCode, P c = true) : L.all P = true := by
  refine List.all_eq_true.mpr fun c hc => ?_
  have h := List.all_eq_true.mp h1 c hc
  rcases Bool.eq_false_or_eq_true (isCode c) with hi | hi
  · exact h2 c (List.mem_filter.mpr ⟨hc, hi⟩)
  · simpa [hi] using h
set_option maxRecDepth 65536 in
theorem w_c0 : (Jvm.Cond.code x code maxLocals ret).before args0 about1 = true := code_word (m := ⟨1, 1⟩) (meth := k1m1) (c := k1c1) (by decide +kernel) rfl rfl rfl (by decide +kernel)
set_option maxRecDepth 65536 in
theorem w_c1 : (Jvm.Cond.code ({ cls := "com/example/dependency_container/dependencycontainer/benchmark/StartupBenchmark$Run", name := "<init>", desc := "(JJ)V" } : Jvm.MethodName) prog_124_method_1_code (5 : Nat) (Option.none : Option Jvm.ClassFile.FieldType)).before args0 about1 = true := code_word (m := ⟨3, 0⟩) (meth := k3m0) (c := k3c0) (by decide +kernel) rfl rfl rfl (by decide +kernel)
set_option maxRecDepth 65536 in
theorem w_c2 : (Jvm.Cond.code ({ cls := "java/lang/Object", name := "<init>", desc := "()V" } : Jvm.MethodName) object_method_1_code (1 : Nat) (Option.none : Option Jvm.ClassFile.FieldType)).before args0 about1 = true := code_word (m := ⟨0, 0⟩) (meth := k0m0) (c := k0c0) (by decide +kernel) rfl rfl rfl (by decide +kernel)
set_option maxRecDepth 65536 in
theorem w_c3 : (Jvm.Cond.code ({ cls := "com/example/dependency_container/dependencycontainer/benchmark/StartupBenchmark$Pair", name := "<init>", desc := "(Lcom/example/dependency_container/dependencycontainer/benchmark/StartupBenchmark$Run;Lcom/example/dependency_container/dependencycontainer/benchmark/StartupBenchmark$Run;)V" } : Jvm.MethodName) prog_123_method_1_code (3 : Nat) (Option.none : Option Jvm.ClassFile.FieldType)).before args0 about1 = true := code_word (m := ⟨2, 0⟩) (meth := k2m0) (c := k2c0) (by decide +kernel) rfl rfl rfl (by decide +kernel)
set_option maxRecDepth 65536 in
theorem w_c4 : (Jvm.Cond.code ({ cls := "com/example/dependency_container/dependencycontainer/benchmark/StartupBenchmark$Pair", name := "peakRatio", desc := "()D" } : Jvm.MethodName) prog_123_method_3_code (1 : Nat) (Option.some Jvm.ClassFile.FieldType.double)).before args0 about1 = true := code_word (m := ⟨2, 1⟩) (meth := k2m1) (c := k2c1) (by decide +kernel) rfl rfl rfl (by decide +kernel)
def codes1 : List Jvm.Cond := [Jvm.Cond.code x code maxLocals ret, Jvm.Cond.code ({ cls := "com/example/dependency_container/dependencycontainer/benchmark/StartupBenchmark$Run", name := "<init>", desc := "(JJ)V" } : Jvm.MethodName) prog_124_method_1_code (5 : Nat) (Option.none : Option Jvm.ClassFile.FieldType), Jvm.Cond.code ({ cls := "java/lang/Object", name := "<init>", desc := "()V" } : Jvm.MethodName) object_method_1_code (1 : Nat) (Option.none : Option Jvm.ClassFile.FieldType), Jvm.Cond.code ({ cls := "com/example/dependency_container/dependencycontainer/benchmark/StartupBenchmark$Pair", name := "<init>", desc := "(Lcom/example/dependency_container/dependencycontainer/benchmark/StartupBenchmark$Run;Lcom/example/dependency_container/dependencycontainer/benchmark/StartupBenchmark$Run;)V" } : Jvm.MethodName) prog_123_method_1_code (3 : Nat) (Option.none : Option Jvm.ClassFile.FieldType), Jvm.Cond.code ({ cls := "com/example/dependency_container/dependencycontainer/benchmark/StartupBenchmark$Pair", name := "peakRatio", desc := "()D" } : Jvm.MethodName) prog_123_method_3_code (1 : Nat) (Option.some Jvm.ClassFile.FieldType.double)]
set_option maxRecDepth 65536 in
theorem codes_eq : words1.filter isCode = codes1 := rfl
theorem w_codes : ∀ c ∈ words1.filter isCode, c.before args0 about1 = true := by
  rw [codes_eq]
  intro c hc
  simp only [codes1, List.mem_cons, List.not_mem_nil, or_false] at hc
  rcases hc with rfl | rfl | rfl | rfl | rfl
  · exact w_c0
  · exact w_c1
  · exact w_c2
  · exact w_c3
  · exact w_c4
set_option maxRecDepth 65536 in
theorem w_t1 : (words1.take 24).all (fun c => isCode c || c.before args0 about1) = true := by decide +kernel
set_option maxRecDepth 65536 in
theorem w_t2 : (words1.drop 24).all (fun c => isCode c || c.before args0 about1) = true := by decide +kernel
theorem w_tables : (allAtoms (Jvm.Cond.code x code maxLocals ret :: tables_1)).before args0 about1 = true := by
  rw [allAtoms_all]
  show words1.all (fun c => c.before args0 about1) = true
  refine all_split ?_ w_codes
  rw [← List.take_append_drop 24 words1, List.all_append, w_t1, w_t2]
  rfl
set_option maxRecDepth 65536 in
theorem w_case : (Jvm.Cond.and given_1 narrow_1).before args0 about1 = true := by decide +kernel
theorem w_applies : (headSpec (Jvm.Cond.code x code maxLocals ret :: tables_1) room_1).applies x e0.platform about1 = true :=
  (Spec.applies_iff w_frames).mpr ⟨w_running, w_runnable, w_alone, w_named, w_hears, w_ripe, w_room, w_tables⟩
theorem atStart : AtStart classFile x code maxLocals ret World_1 tables_1 room_1 Calls_1 rest_1 Pre_1 launch0 p0 e0 about1 theMethod args0 below0 :=
  ⟨lists_1, trivial, launch0.admits_env _ _ _, launch0.least_env, fairChoices_fair.cas, fairChoices_fair.clock, w_frames, w_args, w_heap, w_applies, trivial, trivial, w_case⟩
end start1
theorem witness_1 : WitnessClaimed_1 := ⟨start1.p0, start1.e0, start1.about1, start1.theMethod, start1.args0, start1.below0, start1.atStart⟩
end Jvm.Pilot.@@N@@
