import JvmDerived
import JvmDerived.Pilot.@@N@@Statement
import JvmDerived.Pilot.@@N@@Code
set_option linter.unusedVariables false
set_option linter.unusedSimpArgs false
namespace Jvm.Pilot.@@N@@
open Jvm Jvm.ClassFile Sem Op Lib Jvm.Free Jvm.Stand Jvm.LawKit Jvm.RoadKit Bundle Jvm.Pilot.@@N@@.Jvm.D

section OwnKit
variable {p : Program} {l : Launch} {e : Env} {R : Room} {s : State} {m : MethodId} {args : Array Value} {below : List Frame} {meth : Method} {c : Code} {T : State} {locs : List Loc} {cells slots : Nat} {Q : Option Value → Heap → List Loc → Prop} {kc kn : Nat} {h : Heap}
/-- from T, with the frame g on top, the body comes to its end, and the end is as Q says -/
def own_Fin (p : Program) (e : Env) (s : State) (below : List Frame) (Q : Option Value → Heap → List Loc → Prop) (kc kn : Nat) (T : State) (g : JFrame) : Prop :=
  ∃ s₂ o, Steps p.tables e below (T.setTop g) s₂ ∧ s₂.status = .running ∧ Ended s₂ below o ∧ ∃ v L, o = .returned v ∧ Q v s₂.heap L ∧ FrameEnd s o s₂ L kc kn
theorem own_via {T' : State} {g g' : JFrame} (k : ∀ t, Steps p.tables e below (T'.setTop g') t → Steps p.tables e below (T.setTop g) t) (hf : own_Fin p e s below Q kc kn T' g') : own_Fin p e s below Q kc kn T g := by
  obtain ⟨s2, o, h1, r⟩ := hf
  exact ⟨s2, o, k _ h1, r⟩
theorem own_ret0 (X : Stand p l e R s m args below meth c T locs cells slots) (hx : p.tables.exec = Jvm.exec) (hret : meth.sig.returnType = none) (hlk : meth.locks = false) {pc : Nat} {Ls : Array Slot} (hd : decode c.code pc = .ok (.return_, 1)) (eT : T.heap = h) (hq : Q none h locs) (hc : cells ≤ kc) (hs : slots ≤ kn) : own_Fin p e s below Q kc kn T (mkF m pc Ls []) := by
  obtain ⟨fs, hr, hrun, hended, hW, hsame⟩ := X.leave (v := none) (fun _ => rfl) hlk
  exact ⟨_, _, X.returnOut hx hret hd hr, hrun, hended, none, locs, rfl, by subst eT; exact hq, ⟨_, rfl⟩, hW, hsame.mono hc hs⟩
theorem own_retN (X : Stand p l e R s m args below meth c T locs cells slots) (hx : p.tables.exec = Jvm.exec) {t : FieldType} (hret : meth.sig.returnType = some t) (hlk : meth.locks = false) (ht : t = .boolean ∨ t = .byte ∨ t = .char ∨ t = .short) {pc : Nat} {Ls : Array Slot} {z r : Int32} {rest : List Value} (hd : decode c.code pc = .ok (.ireturn, 1)) (eT : T.heap = h) (hv : nar t z = r) (hq : Q (some (.int r)) h locs) (hc : cells ≤ kc) (hs : slots ≤ kn) : own_Fin p e s below Q kc kn T (mkF m pc Ls (.int z :: rest)) := by
  obtain ⟨fs, hr, hrun, hended, hW, hsame⟩ := X.leave (v := some (.int (nar t z))) (fun h => by rw [hret] at h; cases h) hlk
  exact ⟨_, _, retN X hx hret ht hd hr, hrun, hended, _, locs, rfl, by subst eT; rw [hv]; exact hq, ⟨_, rfl⟩, hW, hsame.mono hc hs⟩
theorem own_retI (X : Stand p l e R s m args below meth c T locs cells slots) (hx : p.tables.exec = Jvm.exec) (hret : meth.sig.returnType = some .int) (hlk : meth.locks = false) {pc : Nat} {Ls : Array Slot} {z r : Int32} {rest : List Value} (hd : decode c.code pc = .ok (.ireturn, 1)) (eT : T.heap = h) (hv : z = r) (hq : Q (some (.int r)) h locs) (hc : cells ≤ kc) (hs : slots ≤ kn) : own_Fin p e s below Q kc kn T (mkF m pc Ls (.int z :: rest)) := by
  subst hv
  obtain ⟨fs, hr, hrun, hended, hW, hsame⟩ := X.leave (v := some (.int z)) (fun h => by rw [hret] at h; cases h) hlk
  exact ⟨_, _, retOut X hx hret rfl (Or.inl ⟨rfl, Or.inl rfl, z, rfl⟩) hd hr, hrun, hended, _, locs, rfl, by subst eT; exact hq, ⟨_, rfl⟩, hW, hsame.mono hc hs⟩
theorem own_retJ (X : Stand p l e R s m args below meth c T locs cells slots) (hx : p.tables.exec = Jvm.exec) (hret : meth.sig.returnType = some .long) (hlk : meth.locks = false) {pc : Nat} {Ls : Array Slot} {z r : Int64} {rest : List Value} (hd : decode c.code pc = .ok (.lreturn, 1)) (eT : T.heap = h) (hv : z = r) (hq : Q (some (.long r)) h locs) (hc : cells ≤ kc) (hs : slots ≤ kn) : own_Fin p e s below Q kc kn T (mkF m pc Ls (.long z :: rest)) := by
  subst hv
  obtain ⟨fs, hr, hrun, hended, hW, hsame⟩ := X.leave (v := some (.long z)) (fun h => by rw [hret] at h; cases h) hlk
  exact ⟨_, _, retOut X hx hret rfl (Or.inr (Or.inl ⟨rfl, rfl, z, rfl⟩)) hd hr, hrun, hended, _, locs, rfl, by subst eT; exact hq, ⟨_, rfl⟩, hW, hsame.mono hc hs⟩
theorem own_retD (X : Stand p l e R s m args below meth c T locs cells slots) (hx : p.tables.exec = Jvm.exec) (hret : meth.sig.returnType = some .double) (hlk : meth.locks = false) {pc : Nat} {Ls : Array Slot} {z r : UInt64} {rest : List Value} (hd : decode c.code pc = .ok (.dreturn, 1)) (eT : T.heap = h) (hv : z = r) (hq : Q (some (.double r)) h locs) (hc : cells ≤ kc) (hs : slots ≤ kn) : own_Fin p e s below Q kc kn T (mkF m pc Ls (.double z :: rest)) := by
  subst hv
  obtain ⟨fs, hr, hrun, hended, hW, hsame⟩ := X.leave (v := some (.double z)) (fun h => by rw [hret] at h; cases h) hlk
  exact ⟨_, _, retOut X hx hret rfl (Or.inr (Or.inr (Or.inl ⟨rfl, rfl, z, rfl⟩))) hd hr, hrun, hended, _, locs, rfl, by subst eT; exact hq, ⟨_, rfl⟩, hW, hsame.mono hc hs⟩
theorem own_retA (X : Stand p l e R s m args below meth c T locs cells slots) (hx : p.tables.exec = Jvm.exec) {t : FieldType} (hret : meth.sig.returnType = some t) (hlk : meth.locks = false) (ht : t.isReference = true) {pc : Nat} {Ls : Array Slot} {w : Value} {rest : List Value} (hw : w.isRef = true) (hd : decode c.code pc = .ok (.areturn, 1)) (eT : T.heap = h) (hq : Q (some w) h locs) (hc : cells ≤ kc) (hs : slots ≤ kn) : own_Fin p e s below Q kc kn T (mkF m pc Ls (w :: rest)) := by
  obtain ⟨fs, hr, hrun, hended, hW, hsame⟩ := X.leave (v := some w) (fun h => by rw [hret] at h; cases h) hlk
  have hn : narrow t w = w := by
    cases t <;> first | (cases ht; done) | rfl
  exact ⟨_, _, retOut X hx hret hn (Or.inr (Or.inr (Or.inr (Or.inr ⟨rfl, ht, hw⟩)))) hd hr, hrun, hended, _, locs, rfl, by subst eT; exact hq, ⟨_, rfl⟩, hW, hsame.mono hc hs⟩
end OwnKit
section OwnFp
open Jvm.FP Jvm.FP.Core
/-- a quotient of whole magnitudes, rounded, stays on its side of a double -/
theorem own_rr_le {s : Bool} {A B : Nat} {V : Datum} (hB : 0 < B) (hV : FP.Core.fits b64 V) (hn : V ≠ .nan) (h : signed s (A * one64) ≤ zval b64 V * (B : Int)) : zval b64 (roundRatio b64 s A B 0) ≤ zval b64 V := by
  have eu : inUnits A 0 b64.qmin = A * one64 := by
    show A * 2 ^ (0 - b64.qmin).toNat = _
    rw [show (0 - b64.qmin) = -b64.qmin by omega, pow_qmin64]
  have e1 : 2 ^ (b64.qmin - b64.qmin).toNat = 1 := by rw [Int.sub_self]; rfl
  have hle := zmag_roundRatio_le good_b64 (s := s) (A := A) (e := 0) (e0 := b64.qmin) hB hV hn (Int.le_refl _) (by decide +kernel)
  have hge := zmag_roundRatio_ge good_b64 (s := s) (A := A) (e := 0) (e0 := b64.qmin) hB hV (Int.le_refl _) (by decide +kernel)
  rw [e1, Nat.mul_one, eu] at hle hge
  unfold zval at h ⊢
  rw [sgn_roundRatio]
  rw [← signed_mul] at h
  have hz : zmag b64 V * B = 0 → zmag b64 V = 0 := fun q => by
    rcases Nat.mul_eq_zero.mp q with q | q
    · exact q
    · omega
  generalize A * one64 = x at *
  generalize zmag b64 V * B = y at *
  generalize sgn V = t at *
  cases s <;> cases t <;> simp only [signed, if_true, Bool.false_eq_true, if_false] at h ⊢
  · have := hle (by omega); omega
  · have := hle (by omega); have := hz (by omega); omega
  · omega
  · have := hge (by omega); omega
theorem own_quot {a b : UInt64} (ha : DFin a) (hb : DFin b) (hz : zval b64 (val64 b) ≠ 0) : val64 (Core.ddiv a b) = roundRatio b64 (sgn (val64 a) != sgn (val64 b)) (zmag b64 (val64 a)) (zmag b64 (val64 b)) 0 := by
  have fa := val64_fits a
  have fb := val64_fits b
  obtain ⟨s, c, q, ea⟩ := ha
  obtain ⟨t, d, r, eb⟩ := hb
  rw [val64_ddiv]
  rw [eb] at hz
  rw [ea] at fa ⊢
  rw [eb] at fb ⊢
  have hd : d ≠ 0 := fun z => hz (by rw [z]; simp [zval, zmag, inUnits, signed])
  show (if d = 0 then _ else roundRatio b64 (s != t) c d (q - r)) = _
  rw [if_neg hd]
  have hqa : b64.qmin ≤ q := fa.2.1
  have hqb : b64.qmin ≤ r := fb.2.1
  have p1 := Nat.two_pow_pos (r - b64.qmin).toNat
  refine roundRatio_congr (by omega) (Nat.mul_pos (by omega) p1) ?_
  show c * (d * 2 ^ (r - b64.qmin).toNat) * 2 ^ (q - r - 0).toNat = c * 2 ^ (q - b64.qmin).toNat * d * 2 ^ (0 - (q - r)).toNat
  have e : 2 ^ (r - b64.qmin).toNat * 2 ^ (q - r - 0).toNat = 2 ^ (q - b64.qmin).toNat * 2 ^ (0 - (q - r)).toNat := by
    rw [← Nat.pow_add, ← Nat.pow_add]
    congr 1
    omega
  calc c * (d * 2 ^ (r - b64.qmin).toNat) * 2 ^ (q - r - 0).toNat = c * d * (2 ^ (r - b64.qmin).toNat * 2 ^ (q - r - 0).toNat) := by ac_rfl
    _ = c * d * (2 ^ (q - b64.qmin).toNat * 2 ^ (0 - (q - r)).toNat) := by rw [e]
    _ = c * 2 ^ (q - b64.qmin).toNat * d * 2 ^ (0 - (q - r)).toNat := by ac_rfl
/-- x / y ≤ V, with y positive -/
theorem own_div_le {a b V : UInt64} (ha : DFin a) (hb : DFin b) (hV : val64 V ≠ .nan) (hp : 0 < zval b64 (val64 b)) (h : zval b64 (val64 a) * (one64 : Int) ≤ zval b64 (val64 V) * zval b64 (val64 b)) : zval b64 (val64 (Core.ddiv a b)) ≤ zval b64 (val64 V) := by
  rw [own_quot ha hb (by omega)]
  obtain ⟨e1, e2⟩ := signed_pos (show 0 < signed (sgn (val64 b)) (zmag b64 (val64 b)) from hp)
  have es : sgn (val64 b) = false := by
    cases hs : sgn (val64 b)
    · rfl
    · rw [hs] at e1; simp only [signed, if_true] at e1; omega
  have ez : zval b64 (val64 b) = (zmag b64 (val64 b) : Int) := e1
  refine own_rr_le e2 (val64_fits V) hV ?_
  rw [es, ← ez, signed_mul]
  have : (sgn (val64 a) != false) = sgn (val64 a) := by cases sgn (val64 a) <;> rfl
  rw [this]
  exact h
theorem own_div_ge {a b V : UInt64} (ha : DFin a) (hb : DFin b) (hV : val64 V ≠ .nan) (hp : 0 < zval b64 (val64 b)) (h : zval b64 (val64 V) * zval b64 (val64 b) ≤ zval b64 (val64 a) * (one64 : Int)) : zval b64 (val64 V) ≤ zval b64 (val64 (Core.ddiv a b)) := by
  have ha' : DFin (Core.dneg a) := by
    obtain ⟨s, c, q, e⟩ := ha
    exact ⟨!s, c, q, by rw [Core.val64_dneg, e]; rfl⟩
  have hV' : val64 (Core.dneg V) ≠ .nan := by rw [Core.val64_dneg]; exact negate_ne_nan hV
  have q := own_div_le (V := Core.dneg V) ha' hb hV' hp (by
    rw [Core.val64_dneg, Core.val64_dneg, zval_negate, zval_negate, Int.neg_mul, Int.neg_mul]
    omega)
  rw [ddiv_dneg, Core.val64_dneg, Core.val64_dneg, zval_negate, zval_negate] at q
  omega
/-- the sign of the divisor turned along with the dividend's -/
theorem own_div_flip {a b : UInt64} (ha : DFin a) (hb : DFin b) (hz : zval b64 (val64 b) ≠ 0) : val64 (Core.ddiv (Core.dneg a) (Core.dneg b)) = val64 (Core.ddiv a b) := by
  have ha' : DFin (Core.dneg a) := by
    obtain ⟨s, c, q, e⟩ := ha
    exact ⟨!s, c, q, by rw [Core.val64_dneg, e]; rfl⟩
  have hb' : DFin (Core.dneg b) := by
    obtain ⟨s, c, q, e⟩ := hb
    exact ⟨!s, c, q, by rw [Core.val64_dneg, e]; rfl⟩
  have en : ∀ d : Datum, zmag b64 (negate d) = zmag b64 d := fun d => by cases d <;> rfl
  rw [own_quot ha hb hz, own_quot ha' hb' (by rw [Core.val64_dneg, zval_negate]; omega), Core.val64_dneg, Core.val64_dneg, en, en]
  obtain ⟨s, c, q, e⟩ := ha
  obtain ⟨t, d, r, e'⟩ := hb
  rw [e, e']
  show roundRatio b64 ((!s) != (!t)) _ _ 0 = roundRatio b64 (s != t) _ _ 0
  cases s <;> cases t <;> rfl
theorem own_divn_le {a b V : UInt64} (ha : DFin a) (hb : DFin b) (hV : val64 V ≠ .nan) (hp : zval b64 (val64 b) < 0) (h : zval b64 (val64 V) * zval b64 (val64 b) ≤ zval b64 (val64 a) * (one64 : Int)) : zval b64 (val64 (Core.ddiv a b)) ≤ zval b64 (val64 V) := by
  rw [← own_div_flip ha hb (by omega)]
  have ha' : DFin (Core.dneg a) := by
    obtain ⟨s, c, q, e⟩ := ha
    exact ⟨!s, c, q, by rw [Core.val64_dneg, e]; rfl⟩
  have hb' : DFin (Core.dneg b) := by
    obtain ⟨s, c, q, e⟩ := hb
    exact ⟨!s, c, q, by rw [Core.val64_dneg, e]; rfl⟩
  refine own_div_le ha' hb' hV (by rw [Core.val64_dneg, zval_negate]; omega) ?_
  rw [Core.val64_dneg, Core.val64_dneg, zval_negate, zval_negate, Int.neg_mul, Int.mul_neg]
  omega
theorem own_divn_ge {a b V : UInt64} (ha : DFin a) (hb : DFin b) (hV : val64 V ≠ .nan) (hp : zval b64 (val64 b) < 0) (h : zval b64 (val64 a) * (one64 : Int) ≤ zval b64 (val64 V) * zval b64 (val64 b)) : zval b64 (val64 V) ≤ zval b64 (val64 (Core.ddiv a b)) := by
  rw [← own_div_flip ha hb (by omega)]
  have ha' : DFin (Core.dneg a) := by
    obtain ⟨s, c, q, e⟩ := ha
    exact ⟨!s, c, q, by rw [Core.val64_dneg, e]; rfl⟩
  have hb' : DFin (Core.dneg b) := by
    obtain ⟨s, c, q, e⟩ := hb
    exact ⟨!s, c, q, by rw [Core.val64_dneg, e]; rfl⟩
  refine own_div_ge ha' hb' hV (by rw [Core.val64_dneg, zval_negate]; omega) ?_
  rw [Core.val64_dneg, Core.val64_dneg, zval_negate, zval_negate, Int.neg_mul, Int.mul_neg]
  omega
/-- an exact quotient -/
theorem own_div_eq {a b V : UInt64} (ha : DFin a) (hb : DFin b) (hV : val64 V ≠ .nan) (hz : zval b64 (val64 b) ≠ 0) (h : zval b64 (val64 a) * (one64 : Int) = zval b64 (val64 V) * zval b64 (val64 b)) : zval b64 (val64 (Core.ddiv a b)) = zval b64 (val64 V) := by
  rcases Int.lt_or_gt_of_ne hz with q | q
  · exact Int.le_antisymm (own_divn_le ha hb hV q (Int.le_of_eq h.symm)) (own_divn_ge ha hb hV q (Int.le_of_eq h))
  · exact Int.le_antisymm (own_div_le ha hb hV q (Int.le_of_eq h)) (own_div_ge ha hb hV q (Int.le_of_eq h.symm))
/-- a double that is n * 2^q -/
theorem own_repr (n : Int) (q : Int) (hn : n.natAbs < 2 ^ 53) (h1 : -1074 ≤ q) (h2 : q ≤ 971) : ∃ V : UInt64, val64 V ≠ .nan ∧ DFin V ∧ zval b64 (val64 V) = n * ((2 ^ (q + 1074).toNat : Nat) : Int) := by
  have hq1 : b64.qmin ≤ q := by rw [qmin_b64]; exact h1
  have hq2 : q ≤ b64.qmax := by rw [show b64.qmax = 971 by decide +kernel]; exact h2
  obtain ⟨c', q', e, eu⟩ := round_exact good_b64 (decide (n < 0)) (c := n.natAbs) (q := q) (by show n.natAbs < 2 ^ 53; exact hn) hq1 hq2
  have ev : val64 (of64 (round b64 (.fin (decide (n < 0)) n.natAbs q))) = .fin (decide (n < 0)) c' q' := by
    rw [val64_of64 (round_fits good_b64 _), e]
  refine ⟨_, ?_, ⟨_, _, _, ev⟩, ?_⟩
  · rw [ev]; exact Datum.noConfusion
  · rw [ev]
    show signed (decide (n < 0)) (inUnits c' q' b64.qmin) = _
    rw [eu]
    show signed (decide (n < 0)) (n.natAbs * 2 ^ (q - b64.qmin).toNat) = _
    rw [signed_mul, show q - b64.qmin = q + 1074 by rw [qmin_b64]; omega]
    congr 1
    unfold signed
    by_cases z : n < 0 <;> simp [z] <;> omega
theorem own_one64 (k : Nat) (hk : k ≤ 1074) : one64 = 2 ^ k * 2 ^ (1074 - k) := by
  unfold one64
  rw [← Nat.pow_add]
  congr 1
  omega
/-- a long that has at most 53 digits and some noughts is a double exactly -/
theorem own_l2d (n : Int64) (N : Int) (k : Nat) (hk : k ≤ 900) (hN : N.natAbs < 2 ^ 53) (e : n.toInt = N * ((2 ^ k : Nat) : Int)) : zval b64 (val64 (Core.l2d n)) = n.toInt * (one64 : Int) := by
  obtain ⟨V, v1, -, v3⟩ := own_repr N (k : Int) hN (by omega) (by omega)
  have ez : zval b64 (val64 V) = n.toInt * (one64 : Int) := by
    rw [v3, e, show ((k : Int) + 1074).toNat = k + 1074 by omega, Nat.pow_add, Int.mul_assoc, ← Int.natCast_mul]
    rfl
  exact Int.le_antisymm (ez ▸ l2d_zval_le v1 (Int.le_of_eq ez.symm)) (ez ▸ l2d_zval_ge v1 (Int.le_of_eq ez))
theorem own_i2d (n : Int32) : zval b64 (val64 (Core.i2d n)) = n.toInt * (one64 : Int) := DInt_zval (i2d_int n)
theorem own_dadd_eq {a b V : UInt64} (ha : DFin a) (hb : DFin b) (hV : val64 V ≠ .nan) (h : zval b64 (val64 a) + zval b64 (val64 b) = zval b64 (val64 V)) : zval b64 (val64 (Core.dadd a b)) = zval b64 (val64 V) := by
  rw [val64_dadd]
  exact Int.le_antisymm (sum_le good_b64 ha hb (val64_fits _) (val64_fits _) (val64_fits _) hV (Int.le_of_eq h)) (sum_ge good_b64 ha hb (val64_fits _) (val64_fits _) (val64_fits _) hV (Int.le_of_eq h.symm))
theorem own_div_fin {a b V : UInt64} (hn : val64 (Core.ddiv a b) ≠ .nan) (hV : DFin V) (h : zval b64 (val64 (Core.ddiv a b)) = zval b64 (val64 V)) : DFin (Core.ddiv a b) := by
  have hv := hV.zval_lt
  have e : zmag b64 (val64 (Core.ddiv a b)) = zmag b64 (val64 V) := by
    have := congrArg Int.natAbs h
    unfold zval at this
    rw [natAbs_signed, natAbs_signed] at this
    exact this
  rw [← e] at hv
  unfold DFin
  cases hc : val64 (Core.ddiv a b) with
  | nan => exact absurd hc hn
  | inf s => rw [hc] at hv; exact absurd hv (Nat.lt_irrefl _)
  | fin s c q => exact ⟨s, c, q, rfl⟩
theorem own_nn {x : UInt64} : Jvm.Free.Fl.NoNaN64 x ↔ val64 x ≠ .nan := Jvm.Free.Fl.val64_no
/-- the quotient of two finite doubles is a number where the divisor isn't nought -/
theorem own_div_nn {a b : UInt64} (ha : DFin a) (hb : DFin b) (hz : zval b64 (val64 b) ≠ 0) : val64 (Core.ddiv a b) ≠ .nan := by
  rw [own_quot ha hb hz]; exact roundRatio_ne_nan _ _ _ _ _
theorem own_cmp_eq {x y : UInt64} (hx : val64 x ≠ .nan) (hy : val64 y ≠ .nan) (h : zval b64 (val64 x) = zval b64 (val64 y)) (o : CmpOp) : cmpValue (FP.dcmp x y) o = 0 := by
  rw [show FP.dcmp x y = some .eq from dcmp_eq.mpr ⟨hx, hy, h⟩]; rfl
theorem own_cmp_lt {x y : UInt64} (hx : val64 x ≠ .nan) (hy : val64 y ≠ .nan) (h : zval b64 (val64 x) < zval b64 (val64 y)) (o : CmpOp) : cmpValue (FP.dcmp x y) o = -1 := by
  rw [show FP.dcmp x y = some .lt from dcmp_lt.mpr ⟨hx, hy, h⟩]; rfl
theorem own_cmp_gt {x y : UInt64} (hx : val64 x ≠ .nan) (hy : val64 y ≠ .nan) (h : zval b64 (val64 y) < zval b64 (val64 x)) (o : CmpOp) : cmpValue (FP.dcmp x y) o = 1 := by
  rw [show FP.dcmp x y = some .gt from dcmp_gt.mpr ⟨hx, hy, h⟩]; rfl
end OwnFp

/-- what m may be: not nought, at most 2^29 -/
def own_M (mm : Int64) : Prop := mm.toInt ≠ 0 ∧ -536870912 ≤ mm.toInt ∧ mm.toInt ≤ 536870912
theorem own_M_one : own_M (1 : Int64) := by unfold own_M; decide
theorem own_M_of (p2 : Int32) (hc : ¬ lcmpW ((p2 >>> ((2 : Int32) &&& 31)).toInt64) (0 : Int64) = (0 : Int32)) : own_M ((p2 >>> ((2 : Int32) &&& 31)).toInt64) := by
  have e1 := c_i2l (p2 >>> ((2 : Int32) &&& 31))
  have e2 := c_ishr p2 2 2 (by decide)
  have r := rng32 p2
  refine ⟨fun z => hc ((lw_eq _ _).mpr (Int64.toInt_inj.mp z)), ?_, ?_⟩
  · rw [e1, e2]; omega
  · rw [e1, e2]; omega
abbrev own_pw (p3 : Int32) (mm : Int64) : Int64 := (((4 : Int64) * mm) <<< ((((p3.toUInt32 >>> ((2 : Int32) &&& 31).toUInt32).toInt32) &&& (7 : Int32)) &&& 0x3f).toInt64)
abbrev own_cw (p1 p3 : Int32) (mm : Int64) : Int64 := ((((((p1 >>> ((10 : Int32) &&& 31)).toInt64) * (4 : Int64)) * mm) + (((p3 &&& (3 : Int32)).toInt64) * mm)) <<< ((((p3.toUInt32 >>> ((2 : Int32) &&& 31).toUInt32).toInt32) &&& (7 : Int32)) &&& 0x3f).toInt64)
abbrev own_kk (p1 : Int32) : Int64 := ((p1 >>> ((10 : Int32) &&& 31)).toInt64)
abbrev own_j (p3 : Int32) : Int32 := (p3 &&& (3 : Int32))
abbrev own_s (p3 : Int32) : Int32 := (((p3.toUInt32 >>> ((2 : Int32) &&& 31).toUInt32).toInt32) &&& (7 : Int32))
theorem own_j_rng (p3 : Int32) : 0 ≤ (own_j p3).toInt ∧ (own_j p3).toInt ≤ 3 := by
  have q := c_and p3 3 (by decide)
  exact q
theorem own_s_val (p3 : Int32) : ∃ k : Nat, k ≤ 7 ∧ (own_s p3).toBitVec.toNat % 64 = k := by
  have q := c_and ((p3.toUInt32 >>> ((2 : Int32) &&& 31).toUInt32).toInt32) 7 (by decide)
  have q1 : 0 ≤ (own_s p3).toInt := q.1
  have q2 : (own_s p3).toInt ≤ 7 := q.2
  have e : (own_s p3).toInt = ((own_s p3).toBitVec.toNat : Int) := by
    have := BitVec.toInt_eq_toNat_cond (own_s p3).toBitVec
    have hlt := (own_s p3).toBitVec.isLt
    show (own_s p3).toBitVec.toInt = _
    split at this
    · exact this
    · exfalso
      have : (own_s p3).toInt = _ := this
      omega
  exact ⟨_, by omega, Nat.mod_eq_of_lt (by omega)⟩
theorem own_kk_rng (p1 : Int32) : -2097152 ≤ (own_kk p1).toInt ∧ (own_kk p1).toInt ≤ 2097151 := by
  have e1 := c_i2l (p1 >>> ((10 : Int32) &&& 31))
  have e2 := c_ishr p1 10 10 (by decide)
  have r := rng32 p1
  constructor
  · show _ ≤ (p1 >>> ((10 : Int32) &&& 31)).toInt64.toInt; rw [e1, e2]; omega
  · show (p1 >>> ((10 : Int32) &&& 31)).toInt64.toInt ≤ _; rw [e1, e2]; omega
theorem own_near {a b M : Int} (h : (a - b) % M = 0) (h1 : -M < 2 * a) (h2 : 2 * a < M) (h3 : -M < 2 * b) (h4 : 2 * b < M) : a = b := by
  obtain ⟨k, hk⟩ := Int.dvd_of_emod_eq_zero h
  have : k = 0 := by
    rcases Int.lt_trichotomy k 0 with q | q | q
    · have : M * k ≤ M * (-1) := Int.mul_le_mul_of_nonneg_left (by omega) (by omega)
      omega
    · exact q
    · have : M * 1 ≤ M * k := Int.mul_le_mul_of_nonneg_left (by omega) (by omega)
      omega
  rw [this] at hk
  omega
theorem own_pow7 {k : Nat} (hk : k ≤ 7) : ((2 ^ k : Nat) : Int) ≤ 128 ∧ 1 ≤ ((2 ^ k : Nat) : Int) := by
  have h1 : 2 ^ k ≤ 2 ^ 7 := Nat.pow_le_pow_right (by decide) hk
  have h2 := Nat.two_pow_pos k
  constructor <;> omega
/-- a 64-bit number whose remainder is that of a small one is the small one -/
theorem own_eq64 {a : Int64} {b : Int} (h : (a.toInt - b) % 18446744073709551616 = 0) (h3 : -9223372036854775808 ≤ b) (h4 : b < 9223372036854775808) : a.toInt = b := by
  have r := rng64 a
  omega
theorem own_pw_val (p3 : Int32) {mm : Int64} (hm : own_M mm) : ∃ k : Nat, k ≤ 7 ∧ (own_s p3).toBitVec.toNat % 64 = k ∧ (own_pw p3 mm).toInt = 4 * mm.toInt * ((2 ^ k : Nat) : Int) := by
  obtain ⟨k, hk, ek⟩ := own_s_val p3
  refine ⟨k, hk, ek, ?_⟩
  obtain ⟨-, m1, m2⟩ := hm
  have e4 : ((4 : Int64) * mm).toInt = 4 * mm.toInt := own_eq64 (by have := c_lmul (4 : Int64) mm; exact this) (by omega) (by omega)
  have e := c_lshl ((4 : Int64) * mm) (own_s p3) k ek
  rw [e4] at e
  obtain ⟨p1, p2⟩ := own_pow7 hk
  have a1 : 4 * mm.toInt * ((2 ^ k : Nat) : Int) ≤ 2147483648 * 128 := by
    rcases Int.le_total 0 mm.toInt with z | z
    · exact Int.mul_le_mul (by omega) p1 (by omega) (by omega)
    · have : 4 * mm.toInt * ((2 ^ k : Nat) : Int) ≤ 0 := Int.mul_nonpos_of_nonpos_of_nonneg (by omega) (by omega)
      omega
  have a2 : -(2147483648 * 128) ≤ 4 * mm.toInt * ((2 ^ k : Nat) : Int) := by
    rcases Int.le_total 0 mm.toInt with z | z
    · have : 0 ≤ 4 * mm.toInt * ((2 ^ k : Nat) : Int) := Int.mul_nonneg (by omega) (by omega)
      omega
    · have : (-(4 * mm.toInt)) * ((2 ^ k : Nat) : Int) ≤ 2147483648 * 128 := Int.mul_le_mul (by omega) p1 (by omega) (by omega)
      rw [Int.neg_mul] at this
      omega
  exact own_eq64 e (by omega) (by omega)
theorem own_mulb {a b A B : Int} (a1 : -A ≤ a) (a2 : a ≤ A) (b1 : -B ≤ b) (b2 : b ≤ B) (hA : 0 ≤ A) (hB : 0 ≤ B) : -(A * B) ≤ a * b ∧ a * b ≤ A * B := by
  have h : (a * b).natAbs ≤ A.natAbs * B.natAbs := by
    rw [Int.natAbs_mul]
    exact Nat.mul_le_mul (by omega) (by omega)
  have e : ((A.natAbs * B.natAbs : Nat) : Int) = A * B := by
    rw [Int.natCast_mul]
    congr 1 <;> omega
  omega
theorem own_cw_val (p1 p3 : Int32) {mm : Int64} (hm : own_M mm) {k : Nat} (hk : k ≤ 7) (ek : (own_s p3).toBitVec.toNat % 64 = k) : (own_cw p1 p3 mm).toInt = ((4 * (own_kk p1).toInt + (own_j p3).toInt) * mm.toInt) * ((2 ^ k : Nat) : Int) := by
  obtain ⟨-, m1, m2⟩ := hm
  obtain ⟨k1, k2⟩ := own_kk_rng p1
  obtain ⟨j1, j2⟩ := own_j_rng p3
  obtain ⟨p1', p2'⟩ := own_pow7 hk
  have e1 : (own_kk p1 * (4 : Int64)).toInt = (own_kk p1).toInt * 4 := own_eq64 (by have := c_lmul (own_kk p1) (4 : Int64); exact this) (by omega) (by omega)
  have b1 := own_mulb (a := (own_kk p1).toInt * 4) (b := mm.toInt) (A := 8388608) (B := 536870912) (by omega) (by omega) (by omega) (by omega) (by decide) (by decide)
  have e2 : (own_kk p1 * (4 : Int64) * mm).toInt = (own_kk p1).toInt * 4 * mm.toInt := own_eq64 (by have := c_lmul (own_kk p1 * (4 : Int64)) mm; rw [e1] at this; exact this) (by omega) (by omega)
  have e3 : ((own_j p3).toInt64).toInt = (own_j p3).toInt := c_i2l _
  have b2 := own_mulb (a := (own_j p3).toInt) (b := mm.toInt) (A := 3) (B := 536870912) (by omega) (by omega) (by omega) (by omega) (by decide) (by decide)
  have e4 : ((own_j p3).toInt64 * mm).toInt = (own_j p3).toInt * mm.toInt := own_eq64 (by have := c_lmul ((own_j p3).toInt64) mm; rw [e3] at this; exact this) (by omega) (by omega)
  have e5 : (own_kk p1 * (4 : Int64) * mm + (own_j p3).toInt64 * mm).toInt = (4 * (own_kk p1).toInt + (own_j p3).toInt) * mm.toInt := own_eq64 (by
    have := c_ladd (own_kk p1 * (4 : Int64) * mm) ((own_j p3).toInt64 * mm)
    rw [e2, e4] at this
    rw [Int.add_mul, Int.mul_comm 4]
    exact this) (by rw [Int.add_mul, Int.mul_comm 4]; omega) (by rw [Int.add_mul, Int.mul_comm 4]; omega)
  have e6 := c_lshl (own_kk p1 * (4 : Int64) * mm + (own_j p3).toInt64 * mm) (own_s p3) k ek
  rw [e5] at e6
  have b3 := own_mulb (a := (4 * (own_kk p1).toInt + (own_j p3).toInt)) (b := mm.toInt) (A := 8388608) (B := 536870912) (by omega) (by omega) (by omega) (by omega) (by decide) (by decide)
  have b4 := own_mulb (a := (4 * (own_kk p1).toInt + (own_j p3).toInt) * mm.toInt) (b := ((2 ^ k : Nat) : Int)) (A := 4503599627370496) (B := 128) (by omega) (by omega) (by omega) (by omega) (by decide) (by decide)
  exact own_eq64 e6 (by omega) (by omega)
open Jvm.FP.Core in
theorem own_pw_z (p3 : Int32) {mm : Int64} (hm : own_M mm) : zval b64 (val64 (FP.l2d (own_pw p3 mm))) = (own_pw p3 mm).toInt * (one64 : Int) ∧ (own_pw p3 mm).toInt ≠ 0 := by
  obtain ⟨k, hk, ek, e⟩ := own_pw_val p3 hm
  obtain ⟨m0, m1, m2⟩ := hm
  refine ⟨own_l2d _ (4 * mm.toInt) k (by omega) (by omega) e, ?_⟩
  rw [e]
  have := (own_pow7 hk).2
  exact Int.mul_ne_zero (by omega) (by omega)
open Jvm.FP.Core in
theorem own_cw_z (p1 p3 : Int32) {mm : Int64} (hm : own_M mm) : zval b64 (val64 (FP.l2d (own_cw p1 p3 mm))) = (own_cw p1 p3 mm).toInt * (one64 : Int) := by
  obtain ⟨k, hk, ek, -⟩ := own_pw_val p3 hm
  have e := own_cw_val p1 p3 hm hk ek
  obtain ⟨m0, m1, m2⟩ := hm
  obtain ⟨k1, k2⟩ := own_kk_rng p1
  obtain ⟨j1, j2⟩ := own_j_rng p3
  have b3 := own_mulb (a := (4 * (own_kk p1).toInt + (own_j p3).toInt)) (b := mm.toInt) (A := 8388608) (B := 536870912) (by omega) (by omega) (by omega) (by omega) (by decide) (by decide)
  exact own_l2d _ _ k (by omega) (by omega) e
open Jvm.FP.Core in
theorem own_nz {b : UInt64} {j : Int} (h : zval b64 (val64 b) = j * (one64 : Int)) (hj : j ≠ 0) : zval b64 (val64 b) ≠ 0 := by
  rw [h]
  have := one64_pos
  exact Int.mul_ne_zero hj (by omega)
open Jvm.FP.Core in
theorem own_four : zval b64 (val64 4616189618054758400) = 4 * (one64 : Int) ∧ DFin 4616189618054758400 := by
  refine ⟨by decide +kernel, ?_⟩
  rw [fin_bits]; decide
open Jvm.FP.Core in
theorem own_nn4 (j : Int32) : Jvm.Free.Fl.NoNaN64 (FP.ddiv (FP.i2d j) 4616189618054758400) := own_nn.mpr (own_div_nn (i2d_fin j) own_four.2 (own_nz own_four.1 (by decide)))
open Jvm.FP.Core in
/-- j / 4 is exact -/
theorem own_q4 (j : Int32) : zval b64 (val64 (FP.ddiv (FP.i2d j) 4616189618054758400)) = j.toInt * ((2 ^ 1072 : Nat) : Int) ∧ DFin (FP.ddiv (FP.i2d j) 4616189618054758400) := by
  have r := rng32 j
  obtain ⟨V, v1, v2, v3⟩ := own_repr j.toInt (-2) (by omega) (by omega) (by omega)
  rw [show ((-2 : Int) + 1074).toNat = 1072 from rfl] at v3
  have e1 : (one64 : Int) = 4 * ((2 ^ 1072 : Nat) : Int) := by
    rw [own_one64 2 (by decide), Int.natCast_mul]; rfl
  have q := own_div_eq (V := V) (i2d_fin j) own_four.2 v1 (own_nz own_four.1 (by decide)) (by
    rw [own_i2d, own_four.1, v3]
    generalize ((2 ^ 1072 : Nat) : Int) = M at *
    rw [e1]
    simp only [Int.mul_assoc, Int.mul_comm, Int.mul_left_comm])
  exact ⟨q.trans v3, own_div_fin (own_nn.mp (own_nn4 j)) v2 q⟩
open Jvm.FP.Core in
theorem own_nns (kk : Int64) (j : Int32) : Jvm.Free.Fl.NoNaN64 (FP.dadd (FP.l2d kk) (FP.ddiv (FP.i2d j) 4616189618054758400)) := Jvm.Free.Fl.dadd_out (Jvm.Free.Fl.l2d_fin kk).noNaN (Jvm.Free.Fl.fin64_core.mpr (own_q4 j).2)
open Jvm.FP.Core in
theorem own_nnr (p1 p3 : Int32) (mm : Int64) (hm : own_M mm) : Jvm.Free.Fl.NoNaN64 (FP.ddiv (FP.l2d (own_cw p1 p3 mm)) (FP.l2d (own_pw p3 mm))) := own_nn.mpr (own_div_nn (l2d_fin _) (l2d_fin _) (own_nz (own_pw_z p3 hm).1 (own_pw_z p3 hm).2))
open Jvm.FP.Core in
theorem own_main (p1 p3 : Int32) (mm : Int64) (hm : own_M mm) : cmpValue (FP.dcmp (FP.ddiv (FP.l2d (own_cw p1 p3 mm)) (FP.l2d (own_pw p3 mm))) (FP.dadd (FP.l2d (own_kk p1)) (FP.ddiv (FP.i2d (own_j p3)) 4616189618054758400))) .l = 0 := by
  obtain ⟨k1, k2⟩ := own_kk_rng p1
  obtain ⟨j1, j2⟩ := own_j_rng p3
  obtain ⟨V, v1, v2, v3⟩ := own_repr (4 * (own_kk p1).toInt + (own_j p3).toInt) (-2) (by omega) (by omega) (by omega)
  rw [show ((-2 : Int) + 1074).toNat = 1072 from rfl] at v3
  have e1 : (one64 : Int) = 4 * ((2 ^ 1072 : Nat) : Int) := by
    rw [own_one64 2 (by decide), Int.natCast_mul]; rfl
  obtain ⟨k, hk, ek, epw⟩ := own_pw_val p3 hm
  have ecw := own_cw_val p1 p3 hm hk ek
  have hnz := own_nz (own_pw_z p3 hm).1 (own_pw_z p3 hm).2
  have q1 := own_div_eq (V := V) (l2d_fin (own_cw p1 p3 mm)) (l2d_fin (own_pw p3 mm)) v1 hnz (by
    rw [own_cw_z p1 p3 hm, (own_pw_z p3 hm).1, v3, ecw, epw]
    generalize ((2 ^ 1072 : Nat) : Int) = M at *
    generalize ((2 ^ k : Nat) : Int) = P at *
    rw [e1]
    simp only [Int.mul_assoc, Int.mul_comm, Int.mul_left_comm])
  have ek : zval b64 (val64 (FP.l2d (own_kk p1))) = (own_kk p1).toInt * (one64 : Int) := own_l2d _ _ 0 (by omega) (show (own_kk p1).toInt.natAbs < 2 ^ 53 by omega) (by simp)
  have q2 := own_dadd_eq (V := V) (l2d_fin (own_kk p1)) (own_q4 (own_j p3)).2 v1 (by
    rw [ek, (own_q4 (own_j p3)).1, v3]
    generalize ((2 ^ 1072 : Nat) : Int) = M at *
    rw [e1, Int.add_mul]
    simp only [Int.mul_assoc, Int.mul_comm, Int.mul_left_comm])
  exact own_cmp_eq (own_nn.mp (own_nnr p1 p3 mm hm)) (own_nn.mp (own_nns _ _)) (q1.trans q2.symm) .l
theorem own_d_prog_124_1_0 : decode prog_124_method_1_code 0 = .ok (.aload_n 0, 1) := by decide +kernel
theorem own_d_prog_124_1_1 : decode prog_124_method_1_code 1 = .ok (.invokespecial 1, 3) := by decide +kernel
theorem own_d_prog_124_1_4 : decode prog_124_method_1_code 4 = .ok (.aload_n 0, 1) := by decide +kernel
theorem own_d_prog_124_1_5 : decode prog_124_method_1_code 5 = .ok (.lload_n 1, 1) := by decide +kernel
theorem own_d_prog_124_1_6 : decode prog_124_method_1_code 6 = .ok (.putfield 7, 3) := by decide +kernel
theorem own_d_prog_124_1_9 : decode prog_124_method_1_code 9 = .ok (.aload_n 0, 1) := by decide +kernel
theorem own_d_prog_124_1_10 : decode prog_124_method_1_code 10 = .ok (.lload_n 3, 1) := by decide +kernel
theorem own_d_prog_124_1_11 : decode prog_124_method_1_code 11 = .ok (.putfield 13, 3) := by decide +kernel
theorem own_d_prog_124_1_14 : decode prog_124_method_1_code 14 = .ok (.return_, 1) := by decide +kernel
theorem own_pn0 : plainName "com/example/dependency_container/dependencycontainer/benchmark/StartupBenchmark$Run" = true := by first | (simp [plainName, overriddenIn]; done) | decide +kernel
theorem own_ef_runInit (m : MethodId) (a1 : Addr) (q2 : Int64) (q3 : Int64) : entryFrame m #[(.ref a1), (.long q2), (.long q3)] 5 = mkF m 0 #[.val (.ref a1), .val (.long q2), .second, .val (.long q3), .second] [] := by (first | (simp [entryFrame, mkF, argsToLocals, Value.category]; done) | rfl)
def own_Q_runInit (Z : State) (a1 : Addr) (q2 : Int64) (q3 : Int64) (u1 : Value) (u2 : Value) (h0 : Heap) (n0 : Nat) (v : Option Value) (h : Heap) (L : List Loc) : Prop := (v = none) ∧ (Fr n0 L) ∧ (Keep h0 h [a1]) ∧ (Exa Z h a1 "com/example/dependency_container/dependencycontainer/benchmark/StartupBenchmark$Run") ∧ (Fld Z h a1 "com/example/dependency_container/dependencycontainer/benchmark/StartupBenchmark$Run" "wallNanos" "J" (.long q2)) ∧ (Fld Z h a1 "com/example/dependency_container/dependencycontainer/benchmark/StartupBenchmark$Run" "peakKilobytes" "J" (.long q3))
set_option maxRecDepth 65536 in
set_option maxHeartbeats 40000000 in
theorem own_rm_runInit (l : Launch) (Z : State) (a0 : Array Value) (hw : ∀ d ∈ tables_1, d.before a0 Z = true) (ws : List Jvm.Cond) (a1 : Addr) (q2 : Int64) (q3 : Int64) (u1 : Value) (u2 : Value) (h0 : Heap) (n0 : Nat) (Z0 : n0 ≤ h0.size) (E1 : Exa Z h0 a1 "com/example/dependency_container/dependencycontainer/benchmark/StartupBenchmark$Run") (F1 : Fld Z h0 a1 "com/example/dependency_container/dependencycontainer/benchmark/StartupBenchmark$Run" "wallNanos" "J" u1) (F2 : Fld Z h0 a1 "com/example/dependency_container/dependencycontainer/benchmark/StartupBenchmark$Run" "peakKilobytes" "J" u2) (g1 : n0 ≤ a1) :
    MetFree l (⟨"com/example/dependency_container/dependencycontainer/benchmark/StartupBenchmark$Run", "<init>", "(JJ)V"⟩ : MethodName) (head1 (Jvm.Cond.code (⟨"com/example/dependency_container/dependencycontainer/benchmark/StartupBenchmark$Run", "<init>", "(JJ)V"⟩ : MethodName) prog_124_method_1_code 5 none :: ws) ({ frames := 1, cells := 0, slots := 0, locals := 12 } : Room)) (fun a U => a = #[(.ref a1), (.long q2), (.long q3)] ∧ Z.Warmed39 U.vm ∧ U.heap = h0) (fun _ _ _ _ _ => True) (fun _ U o U' => ∃ v L, o = .returned v ∧ own_Q_runInit Z a1 q2 q3 u1 u2 h0 n0 v U'.heap L ∧ FrameEnd U o U' L ({ frames := 1, cells := 0, slots := 0, locals := 12 } : Room).cells ({ frames := 1, cells := 0, slots := 0, locals := 12 } : Room).slots) := by
  refine MetFree.of_bodySF (plainFor_of_name own_pn0) hisR ?_
  intro p e s m args below meth cde s₁ Bd hml0 hP hK
  obtain ⟨rfl, hZ, hh⟩ := hP
  have hx := Bd.exec
  have hby := Bd.bytes
  have hml : cde.maxLocals = 5 := hml0
  have hown : s.vm.findClass "com/example/dependency_container/dependencycontainer/benchmark/StartupBenchmark$Run" = some m.cls := findClass_of_methodNamed Bd.named
  have hnm := (name_of_methodNamed Bd.named Bd.method).1
  have X0 : Stand p l e ({ frames := 1, cells := 0, slots := 0, locals := 12 } : Room) s m #[(.ref a1), (.long q2), (.long q3)] below meth cde s₁ [] 0 0 := Stand.of_body Bd
  have e0 : s₁.heap = h0 := by rw [← hh, Bd.state]; rfl
  have N0 := Fr.nil n0
  show own_Fin p e s below (own_Q_runInit Z a1 q2 q3 u1 u2 h0 n0) ({ frames := 1, cells := 0, slots := 0, locals := 12 } : Room).cells ({ frames := 1, cells := 0, slots := 0, locals := 12 } : Room).slots s₁ (entryFrame m #[(.ref a1), (.long q2), (.long q3)] 5)
  rw [own_ef_runInit m a1 q2 q3]
  refine own_via (fun _ k => XS.aloadN X0.here hx rfl (hb hby own_d_prog_124_1_0) rfl rfl k) ?_
  show own_Fin _ _ _ _ _ _ _ s₁ (mkF m 1 #[.val (.ref a1), .val (.long q2), .second, .val (.long q3), .second] [(.ref a1)])
  obtain ⟨T1, X1, e1, st1⟩ := initO X0 hx hZ hown (hw _ (List.mem_of_getElem? (i := 7) rfl)) (hw _ (List.mem_of_getElem? (i := 8) rfl)) (hw _ (List.mem_of_getElem? (i := 9) rfl)) e0 (g := (mkF m 1 #[.val (.ref a1), .val (.long q2), .second, .val (.long q3), .second] [(.ref a1)])) rfl (by rw [hml]; rfl) rfl (hb hby own_d_prog_124_1_1) (by decide) (W := 0) (by show 2 * 0 + _ ≤ _; exact Nat.le_of_eq rfl) (by decide)
  refine own_via (fun _ k => st1 _ k) ?_
  show own_Fin _ _ _ _ _ _ _ T1 (mkF m 4 #[.val (.ref a1), .val (.long q2), .second, .val (.long q3), .second] [])
  refine own_via (fun _ k => XS.aloadN X1.here hx rfl (hb hby own_d_prog_124_1_4) rfl rfl k) ?_
  show own_Fin _ _ _ _ _ _ _ T1 (mkF m 5 #[.val (.ref a1), .val (.long q2), .second, .val (.long q3), .second] [(.ref a1)])
  refine own_via (fun _ k => XS.lloadN X1.here hx rfl (hb hby own_d_prog_124_1_5) rfl k) ?_
  show own_Fin _ _ _ _ _ _ _ T1 (mkF m 6 #[.val (.ref a1), .val (.long q2), .second, .val (.long q3), .second] [(.long q2), (.ref a1)])
  obtain ⟨T2, h2, X2, e2, W2, st2⟩ := putF X1 hx hZ hown (host := "") (Or.inl (hw _ (List.mem_of_getElem? (i := 10) rfl))) Via.refl e1 F1 E1 (Or.inr ⟨(hw _ (List.mem_of_getElem? (i := 11) rfl)), rfl, hnm⟩) (hw _ (List.mem_of_getElem? (i := 2) rfl)) (ty := .long) (by decide) rfl rfl (g := (mkF m 6 #[.val (.ref a1), .val (.long q2), .second, .val (.long q3), .second] [(.long q2), (.ref a1)])) rfl rfl (hb hby own_d_prog_124_1_6)
  have Fw2 := F1.same W2
  have N2 := Fr.snoc X2 N0 g1
  refine own_via (fun _ k => st2 _ k) ?_
  show own_Fin _ _ _ _ _ _ _ T2 (mkF m 9 #[.val (.ref a1), .val (.long q2), .second, .val (.long q3), .second] [])
  refine own_via (fun _ k => XS.aloadN X2.here hx rfl (hb hby own_d_prog_124_1_9) rfl rfl k) ?_
  show own_Fin _ _ _ _ _ _ _ T2 (mkF m 10 #[.val (.ref a1), .val (.long q2), .second, .val (.long q3), .second] [(.ref a1)])
  refine own_via (fun _ k => XS.lloadN X2.here hx rfl (hb hby own_d_prog_124_1_10) rfl k) ?_
  show own_Fin _ _ _ _ _ _ _ T2 (mkF m 11 #[.val (.ref a1), .val (.long q2), .second, .val (.long q3), .second] [(.long q3), (.ref a1)])
  have f4 := (F2.other W2 (Or.inr (slot_ne (Or.inr (hw _ (List.mem_of_getElem? (i := 13) rfl))) (Or.inr (hw _ (List.mem_of_getElem? (i := 11) rfl))) (by decide) (t := .long) (t' := .long) (by decide) (by decide))))
  obtain ⟨T3, h3, X3, e3, W3, st3⟩ := putF X2 hx hZ hown (host := "") (Or.inl (hw _ (List.mem_of_getElem? (i := 12) rfl))) Via.refl e2 f4 (E1.wr W2) (Or.inr ⟨(hw _ (List.mem_of_getElem? (i := 13) rfl)), rfl, hnm⟩) (hw _ (List.mem_of_getElem? (i := 2) rfl)) (ty := .long) (by decide) rfl rfl (g := (mkF m 11 #[.val (.ref a1), .val (.long q2), .second, .val (.long q3), .second] [(.long q3), (.ref a1)])) rfl rfl (hb hby own_d_prog_124_1_11)
  have Fw3 := f4.same W3
  have N3 := Fr.snoc X3 N2 g1
  refine own_via (fun _ k => st3 _ k) ?_
  show own_Fin _ _ _ _ _ _ _ T3 (mkF m 14 #[.val (.ref a1), .val (.long q2), .second, .val (.long q3), .second] [])
  have f5 := (Fw2.other W3 (Or.inr (slot_ne (Or.inr (hw _ (List.mem_of_getElem? (i := 11) rfl))) (Or.inr (hw _ (List.mem_of_getElem? (i := 13) rfl))) (by decide) (t := .long) (t' := .long) (by decide) (by decide))))
  exact own_ret0 X3 hx Bd.returns Bd.notSynchronized (hb hby own_d_prog_124_1_14) e3 ⟨rfl, N3, (((Keep.refl h0 [a1]).wr W2 (Or.inl (List.mem_of_getElem? (i := 0) rfl))).wr W3 (Or.inl (List.mem_of_getElem? (i := 0) rfl))), ((E1.wr W2).wr W3), f5, Fw3⟩ (by decide) (by decide)
theorem own_d_prog_123_1_0 : decode prog_123_method_1_code 0 = .ok (.aload_n 0, 1) := by decide +kernel
theorem own_d_prog_123_1_1 : decode prog_123_method_1_code 1 = .ok (.invokespecial 1, 3) := by decide +kernel
theorem own_d_prog_123_1_4 : decode prog_123_method_1_code 4 = .ok (.aload_n 0, 1) := by decide +kernel
theorem own_d_prog_123_1_5 : decode prog_123_method_1_code 5 = .ok (.aload_n 1, 1) := by decide +kernel
theorem own_d_prog_123_1_6 : decode prog_123_method_1_code 6 = .ok (.putfield 7, 3) := by decide +kernel
theorem own_d_prog_123_1_9 : decode prog_123_method_1_code 9 = .ok (.aload_n 0, 1) := by decide +kernel
theorem own_d_prog_123_1_10 : decode prog_123_method_1_code 10 = .ok (.aload_n 2, 1) := by decide +kernel
theorem own_d_prog_123_1_11 : decode prog_123_method_1_code 11 = .ok (.putfield 13, 3) := by decide +kernel
theorem own_d_prog_123_1_14 : decode prog_123_method_1_code 14 = .ok (.return_, 1) := by decide +kernel
theorem own_pn1 : plainName "com/example/dependency_container/dependencycontainer/benchmark/StartupBenchmark$Pair" = true := by first | (simp [plainName, overriddenIn]; done) | decide +kernel
theorem own_ef_pairInit (m : MethodId) (a1 : Addr) (a2 : Addr) (a3 : Addr) : entryFrame m #[(.ref a1), (.ref a2), (.ref a3)] 3 = mkF m 0 #[.val (.ref a1), .val (.ref a2), .val (.ref a3)] [] := by (first | (simp [entryFrame, mkF, argsToLocals, Value.category]; done) | rfl)
def own_Q_pairInit (Z : State) (a1 : Addr) (a2 : Addr) (a3 : Addr) (u1 : Value) (u2 : Value) (h0 : Heap) (n0 : Nat) (v : Option Value) (h : Heap) (L : List Loc) : Prop := (v = none) ∧ (Fr n0 L) ∧ (Keep h0 h [a1]) ∧ (Exa Z h a1 "com/example/dependency_container/dependencycontainer/benchmark/StartupBenchmark$Pair") ∧ (Fld Z h a1 "com/example/dependency_container/dependencycontainer/benchmark/StartupBenchmark$Pair" "container" "Lcom/example/dependency_container/dependencycontainer/benchmark/StartupBenchmark$Run;" (.ref a2)) ∧ (Fld Z h a1 "com/example/dependency_container/dependencycontainer/benchmark/StartupBenchmark$Pair" "parse" "Lcom/example/dependency_container/dependencycontainer/benchmark/StartupBenchmark$Run;" (.ref a3))
set_option maxRecDepth 65536 in
set_option maxHeartbeats 40000000 in
theorem own_rm_pairInit (l : Launch) (Z : State) (a0 : Array Value) (hw : ∀ d ∈ tables_1, d.before a0 Z = true) (ws : List Jvm.Cond) (a1 : Addr) (a2 : Addr) (a3 : Addr) (u1 : Value) (u2 : Value) (h0 : Heap) (n0 : Nat) (Z0 : n0 ≤ h0.size) (E1 : Exa Z h0 a1 "com/example/dependency_container/dependencycontainer/benchmark/StartupBenchmark$Pair") (F1 : Fld Z h0 a1 "com/example/dependency_container/dependencycontainer/benchmark/StartupBenchmark$Pair" "container" "Lcom/example/dependency_container/dependencycontainer/benchmark/StartupBenchmark$Run;" u1) (F2 : Fld Z h0 a1 "com/example/dependency_container/dependencycontainer/benchmark/StartupBenchmark$Pair" "parse" "Lcom/example/dependency_container/dependencycontainer/benchmark/StartupBenchmark$Run;" u2) (g1 : n0 ≤ a1) :
    MetFree l (⟨"com/example/dependency_container/dependencycontainer/benchmark/StartupBenchmark$Pair", "<init>", "(Lcom/example/dependency_container/dependencycontainer/benchmark/StartupBenchmark$Run;Lcom/example/dependency_container/dependencycontainer/benchmark/StartupBenchmark$Run;)V"⟩ : MethodName) (head1 (Jvm.Cond.code (⟨"com/example/dependency_container/dependencycontainer/benchmark/StartupBenchmark$Pair", "<init>", "(Lcom/example/dependency_container/dependencycontainer/benchmark/StartupBenchmark$Run;Lcom/example/dependency_container/dependencycontainer/benchmark/StartupBenchmark$Run;)V"⟩ : MethodName) prog_123_method_1_code 3 none :: ws) ({ frames := 1, cells := 0, slots := 0, locals := 12 } : Room)) (fun a U => a = #[(.ref a1), (.ref a2), (.ref a3)] ∧ Z.Warmed39 U.vm ∧ U.heap = h0) (fun _ _ _ _ _ => True) (fun _ U o U' => ∃ v L, o = .returned v ∧ own_Q_pairInit Z a1 a2 a3 u1 u2 h0 n0 v U'.heap L ∧ FrameEnd U o U' L ({ frames := 1, cells := 0, slots := 0, locals := 12 } : Room).cells ({ frames := 1, cells := 0, slots := 0, locals := 12 } : Room).slots) := by
  refine MetFree.of_bodySF (plainFor_of_name own_pn1) hisR ?_
  intro p e s m args below meth cde s₁ Bd hml0 hP hK
  obtain ⟨rfl, hZ, hh⟩ := hP
  have hx := Bd.exec
  have hby := Bd.bytes
  have hml : cde.maxLocals = 3 := hml0
  have hown : s.vm.findClass "com/example/dependency_container/dependencycontainer/benchmark/StartupBenchmark$Pair" = some m.cls := findClass_of_methodNamed Bd.named
  have hnm := (name_of_methodNamed Bd.named Bd.method).1
  have X0 : Stand p l e ({ frames := 1, cells := 0, slots := 0, locals := 12 } : Room) s m #[(.ref a1), (.ref a2), (.ref a3)] below meth cde s₁ [] 0 0 := Stand.of_body Bd
  have e0 : s₁.heap = h0 := by rw [← hh, Bd.state]; rfl
  have N0 := Fr.nil n0
  show own_Fin p e s below (own_Q_pairInit Z a1 a2 a3 u1 u2 h0 n0) ({ frames := 1, cells := 0, slots := 0, locals := 12 } : Room).cells ({ frames := 1, cells := 0, slots := 0, locals := 12 } : Room).slots s₁ (entryFrame m #[(.ref a1), (.ref a2), (.ref a3)] 3)
  rw [own_ef_pairInit m a1 a2 a3]
  refine own_via (fun _ k => XS.aloadN X0.here hx rfl (hb hby own_d_prog_123_1_0) rfl rfl k) ?_
  show own_Fin _ _ _ _ _ _ _ s₁ (mkF m 1 #[.val (.ref a1), .val (.ref a2), .val (.ref a3)] [(.ref a1)])
  obtain ⟨T1, X1, e1, st1⟩ := initO X0 hx hZ hown (hw _ (List.mem_of_getElem? (i := 20) rfl)) (hw _ (List.mem_of_getElem? (i := 8) rfl)) (hw _ (List.mem_of_getElem? (i := 9) rfl)) e0 (g := (mkF m 1 #[.val (.ref a1), .val (.ref a2), .val (.ref a3)] [(.ref a1)])) rfl (by rw [hml]; rfl) rfl (hb hby own_d_prog_123_1_1) (by decide) (W := 0) (by show 2 * 0 + _ ≤ _; exact Nat.le_of_eq rfl) (by decide)
  refine own_via (fun _ k => st1 _ k) ?_
  show own_Fin _ _ _ _ _ _ _ T1 (mkF m 4 #[.val (.ref a1), .val (.ref a2), .val (.ref a3)] [])
  refine own_via (fun _ k => XS.aloadN X1.here hx rfl (hb hby own_d_prog_123_1_4) rfl rfl k) ?_
  show own_Fin _ _ _ _ _ _ _ T1 (mkF m 5 #[.val (.ref a1), .val (.ref a2), .val (.ref a3)] [(.ref a1)])
  refine own_via (fun _ k => XS.aloadN X1.here hx rfl (hb hby own_d_prog_123_1_5) rfl rfl k) ?_
  show own_Fin _ _ _ _ _ _ _ T1 (mkF m 6 #[.val (.ref a1), .val (.ref a2), .val (.ref a3)] [(.ref a2), (.ref a1)])
  obtain ⟨T2, h2, X2, e2, W2, st2⟩ := putF X1 hx hZ hown (host := "") (Or.inl (hw _ (List.mem_of_getElem? (i := 21) rfl))) Via.refl e1 F1 E1 (Or.inr ⟨(hw _ (List.mem_of_getElem? (i := 22) rfl)), rfl, hnm⟩) (hw _ (List.mem_of_getElem? (i := 15) rfl)) (ty := (.object "com/example/dependency_container/dependencycontainer/benchmark/StartupBenchmark$Run")) (by decide) rfl rfl (g := (mkF m 6 #[.val (.ref a1), .val (.ref a2), .val (.ref a3)] [(.ref a2), (.ref a1)])) rfl rfl (hb hby own_d_prog_123_1_6)
  have Fw2 := F1.same W2
  have N2 := Fr.snoc X2 N0 g1
  refine own_via (fun _ k => st2 _ k) ?_
  show own_Fin _ _ _ _ _ _ _ T2 (mkF m 9 #[.val (.ref a1), .val (.ref a2), .val (.ref a3)] [])
  refine own_via (fun _ k => XS.aloadN X2.here hx rfl (hb hby own_d_prog_123_1_9) rfl rfl k) ?_
  show own_Fin _ _ _ _ _ _ _ T2 (mkF m 10 #[.val (.ref a1), .val (.ref a2), .val (.ref a3)] [(.ref a1)])
  refine own_via (fun _ k => XS.aloadN X2.here hx rfl (hb hby own_d_prog_123_1_10) rfl rfl k) ?_
  show own_Fin _ _ _ _ _ _ _ T2 (mkF m 11 #[.val (.ref a1), .val (.ref a2), .val (.ref a3)] [(.ref a3), (.ref a1)])
  have f4 := (F2.other W2 (Or.inr (slot_ne (Or.inr (hw _ (List.mem_of_getElem? (i := 24) rfl))) (Or.inr (hw _ (List.mem_of_getElem? (i := 22) rfl))) (by decide) (t := (.object "com/example/dependency_container/dependencycontainer/benchmark/StartupBenchmark$Run")) (t' := (.object "com/example/dependency_container/dependencycontainer/benchmark/StartupBenchmark$Run")) (by decide) (by decide))))
  obtain ⟨T3, h3, X3, e3, W3, st3⟩ := putF X2 hx hZ hown (host := "") (Or.inl (hw _ (List.mem_of_getElem? (i := 23) rfl))) Via.refl e2 f4 (E1.wr W2) (Or.inr ⟨(hw _ (List.mem_of_getElem? (i := 24) rfl)), rfl, hnm⟩) (hw _ (List.mem_of_getElem? (i := 15) rfl)) (ty := (.object "com/example/dependency_container/dependencycontainer/benchmark/StartupBenchmark$Run")) (by decide) rfl rfl (g := (mkF m 11 #[.val (.ref a1), .val (.ref a2), .val (.ref a3)] [(.ref a3), (.ref a1)])) rfl rfl (hb hby own_d_prog_123_1_11)
  have Fw3 := f4.same W3
  have N3 := Fr.snoc X3 N2 g1
  refine own_via (fun _ k => st3 _ k) ?_
  show own_Fin _ _ _ _ _ _ _ T3 (mkF m 14 #[.val (.ref a1), .val (.ref a2), .val (.ref a3)] [])
  have f5 := (Fw2.other W3 (Or.inr (slot_ne (Or.inr (hw _ (List.mem_of_getElem? (i := 22) rfl))) (Or.inr (hw _ (List.mem_of_getElem? (i := 24) rfl))) (by decide) (t := (.object "com/example/dependency_container/dependencycontainer/benchmark/StartupBenchmark$Run")) (t' := (.object "com/example/dependency_container/dependencycontainer/benchmark/StartupBenchmark$Run")) (by decide) (by decide))))
  exact own_ret0 X3 hx Bd.returns Bd.notSynchronized (hb hby own_d_prog_123_1_14) e3 ⟨rfl, N3, (((Keep.refl h0 [a1]).wr W2 (Or.inl (List.mem_of_getElem? (i := 0) rfl))).wr W3 (Or.inl (List.mem_of_getElem? (i := 0) rfl))), ((E1.wr W2).wr W3), f5, Fw3⟩ (by decide) (by decide)
theorem own_d_prog_123_2_0 : decode prog_123_method_2_code 0 = .ok (.aload_n 0, 1) := by decide +kernel
theorem own_d_prog_123_2_1 : decode prog_123_method_2_code 1 = .ok (.getfield 7, 3) := by decide +kernel
theorem own_d_prog_123_2_4 : decode prog_123_method_2_code 4 = .ok (.getfield 16, 3) := by decide +kernel
theorem own_d_prog_123_2_7 : decode prog_123_method_2_code 7 = .ok (.l2d, 1) := by decide +kernel
theorem own_d_prog_123_2_8 : decode prog_123_method_2_code 8 = .ok (.aload_n 0, 1) := by decide +kernel
theorem own_d_prog_123_2_9 : decode prog_123_method_2_code 9 = .ok (.getfield 13, 3) := by decide +kernel
theorem own_d_prog_123_2_12 : decode prog_123_method_2_code 12 = .ok (.getfield 16, 3) := by decide +kernel
theorem own_d_prog_123_2_15 : decode prog_123_method_2_code 15 = .ok (.l2d, 1) := by decide +kernel
theorem own_d_prog_123_2_16 : decode prog_123_method_2_code 16 = .ok (.ddiv, 1) := by decide +kernel
theorem own_d_prog_123_2_17 : decode prog_123_method_2_code 17 = .ok (.dreturn, 1) := by decide +kernel
theorem own_ef_wallRatio (m : MethodId) (a1 : Addr) : entryFrame m #[(.ref a1)] 1 = mkF m 0 #[.val (.ref a1)] [] := by (first | (simp [entryFrame, mkF, argsToLocals, Value.category]; done) | rfl)
def own_Q_wallRatio (Z : State) (a1 : Addr) (a2 : Addr) (a3 : Addr) (x : Int64) (y : Int64) (h0 : Heap) (n0 : Nat) (v : Option Value) (h : Heap) (L : List Loc) : Prop := (v = some (.double (FP.ddiv (FP.l2d x) (FP.l2d y)))) ∧ (Fr n0 L) ∧ (h = h0)
set_option maxRecDepth 65536 in
set_option maxHeartbeats 40000000 in
theorem own_rm_wallRatio (l : Launch) (Z : State) (a0 : Array Value) (hw : ∀ d ∈ tables_1, d.before a0 Z = true) (ws : List Jvm.Cond) (a1 : Addr) (a2 : Addr) (a3 : Addr) (x : Int64) (y : Int64) (h0 : Heap) (n0 : Nat) (Z0 : n0 ≤ h0.size) (F1 : Fld Z h0 a1 "com/example/dependency_container/dependencycontainer/benchmark/StartupBenchmark$Pair" "container" "Lcom/example/dependency_container/dependencycontainer/benchmark/StartupBenchmark$Run;" (.ref a2)) (F2 : Fld Z h0 a1 "com/example/dependency_container/dependencycontainer/benchmark/StartupBenchmark$Pair" "parse" "Lcom/example/dependency_container/dependencycontainer/benchmark/StartupBenchmark$Run;" (.ref a3)) (F3 : Fld Z h0 a2 "com/example/dependency_container/dependencycontainer/benchmark/StartupBenchmark$Run" "wallNanos" "J" (.long x)) (F4 : Fld Z h0 a3 "com/example/dependency_container/dependencycontainer/benchmark/StartupBenchmark$Run" "wallNanos" "J" (.long y)) (hn : Jvm.Free.Fl.NoNaN64 (FP.ddiv (FP.l2d x) (FP.l2d y))) :
    MetFree l (⟨"com/example/dependency_container/dependencycontainer/benchmark/StartupBenchmark$Pair", "wallRatio", "()D"⟩ : MethodName) (head1 (Jvm.Cond.code (⟨"com/example/dependency_container/dependencycontainer/benchmark/StartupBenchmark$Pair", "wallRatio", "()D"⟩ : MethodName) prog_123_method_2_code 1 (some .double) :: ws) ({ frames := 0, cells := 0, slots := 0, locals := 0 } : Room)) (fun a U => a = #[(.ref a1)] ∧ Z.Warmed39 U.vm ∧ U.heap = h0) (fun _ _ _ _ _ => True) (fun _ U o U' => ∃ v L, o = .returned v ∧ own_Q_wallRatio Z a1 a2 a3 x y h0 n0 v U'.heap L ∧ FrameEnd U o U' L ({ frames := 0, cells := 0, slots := 0, locals := 0 } : Room).cells ({ frames := 0, cells := 0, slots := 0, locals := 0 } : Room).slots) := by
  refine MetFree.of_bodySF (plainFor_of_name own_pn1) hisR ?_
  intro p e s m args below meth cde s₁ Bd hml0 hP hK
  obtain ⟨rfl, hZ, hh⟩ := hP
  have hx := Bd.exec
  have hby := Bd.bytes
  have hml : cde.maxLocals = 1 := hml0
  have hown : s.vm.findClass "com/example/dependency_container/dependencycontainer/benchmark/StartupBenchmark$Pair" = some m.cls := findClass_of_methodNamed Bd.named
  have hnm := (name_of_methodNamed Bd.named Bd.method).1
  have X0 : Stand p l e ({ frames := 0, cells := 0, slots := 0, locals := 0 } : Room) s m #[(.ref a1)] below meth cde s₁ [] 0 0 := Stand.of_body Bd
  have e0 : s₁.heap = h0 := by rw [← hh, Bd.state]; rfl
  have N0 := Fr.nil n0
  show own_Fin p e s below (own_Q_wallRatio Z a1 a2 a3 x y h0 n0) ({ frames := 0, cells := 0, slots := 0, locals := 0 } : Room).cells ({ frames := 0, cells := 0, slots := 0, locals := 0 } : Room).slots s₁ (entryFrame m #[(.ref a1)] 1)
  rw [own_ef_wallRatio m a1]
  refine own_via (fun _ k => XS.aloadN X0.here hx rfl (hb hby own_d_prog_123_2_0) rfl rfl k) ?_
  show own_Fin _ _ _ _ _ _ _ s₁ (mkF m 1 #[.val (.ref a1)] [(.ref a1)])
  obtain ⟨T1, X1, e1, st1⟩ := getF X0 hx hZ hown (host := "") (Or.inl (hw _ (List.mem_of_getElem? (i := 21) rfl))) Via.refl e0 F1 (g := (mkF m 1 #[.val (.ref a1)] [(.ref a1)])) rfl rfl (hb hby own_d_prog_123_2_1)
  refine own_via (fun _ k => st1 _ k) ?_
  show own_Fin _ _ _ _ _ _ _ T1 (mkF m 4 #[.val (.ref a1)] [(.ref a2)])
  obtain ⟨T2, X2, e2, st2⟩ := getF X1 hx hZ hown (Or.inr (hw _ (List.mem_of_getElem? (i := 31) rfl))) Via.refl e1 F3 (g := (mkF m 4 #[.val (.ref a1)] [(.ref a2)])) rfl rfl (hb hby own_d_prog_123_2_4)
  refine own_via (fun _ k => st2 _ k) ?_
  show own_Fin _ _ _ _ _ _ _ T2 (mkF m 7 #[.val (.ref a1)] [(.long x)])
  refine own_via (fun _ k => XS.l2dS X2.here hx rfl (hb hby own_d_prog_123_2_7) rfl rfl k) ?_
  show own_Fin _ _ _ _ _ _ _ T2 (mkF m 8 #[.val (.ref a1)] [(.double (FP.l2d x))])
  refine own_via (fun _ k => XS.aloadN X2.here hx rfl (hb hby own_d_prog_123_2_8) rfl rfl k) ?_
  show own_Fin _ _ _ _ _ _ _ T2 (mkF m 9 #[.val (.ref a1)] [(.ref a1), (.double (FP.l2d x))])
  obtain ⟨T3, X3, e3, st3⟩ := getF X2 hx hZ hown (host := "") (Or.inl (hw _ (List.mem_of_getElem? (i := 23) rfl))) Via.refl e2 F2 (g := (mkF m 9 #[.val (.ref a1)] [(.ref a1), (.double (FP.l2d x))])) rfl rfl (hb hby own_d_prog_123_2_9)
  refine own_via (fun _ k => st3 _ k) ?_
  show own_Fin _ _ _ _ _ _ _ T3 (mkF m 12 #[.val (.ref a1)] [(.ref a3), (.double (FP.l2d x))])
  obtain ⟨T4, X4, e4, st4⟩ := getF X3 hx hZ hown (Or.inr (hw _ (List.mem_of_getElem? (i := 31) rfl))) Via.refl e3 F4 (g := (mkF m 12 #[.val (.ref a1)] [(.ref a3), (.double (FP.l2d x))])) rfl rfl (hb hby own_d_prog_123_2_12)
  refine own_via (fun _ k => st4 _ k) ?_
  show own_Fin _ _ _ _ _ _ _ T4 (mkF m 15 #[.val (.ref a1)] [(.long y), (.double (FP.l2d x))])
  refine own_via (fun _ k => XS.l2dS X4.here hx rfl (hb hby own_d_prog_123_2_15) rfl rfl k) ?_
  show own_Fin _ _ _ _ _ _ _ T4 (mkF m 16 #[.val (.ref a1)] [(.double (FP.l2d y)), (.double (FP.l2d x))])
  refine own_via (fun _ k => XS.ddivS X4.here hx rfl (hb hby own_d_prog_123_2_16) rfl hn rfl k) ?_
  show own_Fin _ _ _ _ _ _ _ T4 (mkF m 17 #[.val (.ref a1)] [(.double (FP.ddiv (FP.l2d x) (FP.l2d y)))])
  exact own_retD X4 hx Bd.returns Bd.notSynchronized (hb hby own_d_prog_123_2_17) e4 rfl ⟨rfl, N0, rfl⟩ (by decide) (by decide)
theorem own_pd0 : parseMethodDescriptor "(JJ)V" = some ⟨[.long, .long], none⟩ := by decide +kernel
theorem own_pd1 : parseMethodDescriptor "(Lcom/example/dependency_container/dependencycontainer/benchmark/StartupBenchmark$Run;Lcom/example/dependency_container/dependencycontainer/benchmark/StartupBenchmark$Run;)V" = some ⟨[(.object "com/example/dependency_container/dependencycontainer/benchmark/StartupBenchmark$Run"), (.object "com/example/dependency_container/dependencycontainer/benchmark/StartupBenchmark$Run")], none⟩ := by decide +kernel
theorem own_pd2 : parseMethodDescriptor "()D" = some ⟨[], some .double⟩ := by decide +kernel
theorem own_pn2 : plainName "com/example/dependency_container/dependencycontainer/benchmark/PairWallRatioPinLaw" = true := by first | (simp [plainName, overriddenIn]; done) | decide +kernel
theorem own_ef_law (m : MethodId) (p1 : Int32) (p2 : Int32) (p3 : Int32) (q4 : Int64) (q5 : Int64) : entryFrame m #[(.int p1), (.int p2), (.int p3), (.long q4), (.long q5)] maxLocals = mkF m 0 #[.val (.int p1), .val (.int p2), .val (.int p3), .val (.long q4), .second, .val (.long q5), .second, .unset, .unset, .unset, .unset, .unset, .unset, .unset, .unset, .unset, .unset, .unset, .unset, .unset, .unset, .unset] [] := by (first | (simp [entryFrame, mkF, argsToLocals, Value.category, maxLocals]; done) | rfl)
def own_Q_law (Z : State) (p1 : Int32) (p2 : Int32) (p3 : Int32) (q4 : Int64) (q5 : Int64) (h0 : Heap) (n0 : Nat) (v : Option Value) (h : Heap) (L : List Loc) : Prop := (v = some (.int (1 : Int32))) ∧ (Fr n0 L)
set_option maxRecDepth 65536 in
set_option maxHeartbeats 40000000 in
theorem own_rm_law (l : Launch) (Z : State) (a0 : Array Value) (hw : ∀ d ∈ tables_1, d.before a0 Z = true) (ws : List Jvm.Cond) (p1 : Int32) (p2 : Int32) (p3 : Int32) (q4 : Int64) (q5 : Int64) (h0 : Heap) (n0 : Nat) (Z0 : n0 ≤ h0.size) :
    MetFree l x (head1 (Jvm.Cond.code x code maxLocals ret :: ws) room_1) (fun a U => a = #[(.int p1), (.int p2), (.int p3), (.long q4), (.long q5)] ∧ Z.Warmed39 U.vm ∧ U.heap = h0) (fun _ _ _ _ _ => True) (fun _ U o U' => ∃ v L, o = .returned v ∧ own_Q_law Z p1 p2 p3 q4 q5 h0 n0 v U'.heap L ∧ FrameEnd U o U' L room_1.cells room_1.slots) := by
  refine MetFree.of_bodySF (plainFor_of_name own_pn2) hisR ?_
  intro p e s m args below meth cde s₁ Bd hml0 hP hK
  obtain ⟨rfl, hZ, hh⟩ := hP
  have hx := Bd.exec
  have hby := Bd.bytes
  have hml : cde.maxLocals = 22 := hml0
  have hown : s.vm.findClass "com/example/dependency_container/dependencycontainer/benchmark/PairWallRatioPinLaw" = some m.cls := findClass_of_methodNamed Bd.named
  have hnm := (name_of_methodNamed Bd.named Bd.method).1
  have X0 : Stand p l e room_1 s m #[(.int p1), (.int p2), (.int p3), (.long q4), (.long q5)] below meth cde s₁ [] 0 0 := Stand.of_body Bd
  have e0 : s₁.heap = h0 := by rw [← hh, Bd.state]; rfl
  have N0 := Fr.nil n0
  show own_Fin p e s below (own_Q_law Z p1 p2 p3 q4 q5 h0 n0) room_1.cells room_1.slots s₁ (entryFrame m #[(.int p1), (.int p2), (.int p3), (.long q4), (.long q5)] maxLocals)
  rw [own_ef_law m p1 p2 p3 q4 q5]
  refine own_via (fun _ k => XS.iloadN X0.here hx rfl (hb hby at_0) rfl k) ?_
  show own_Fin _ _ _ _ _ _ _ s₁ (mkF m 1 #[.val (.int p1), .val (.int p2), .val (.int p3), .val (.long q4), .second, .val (.long q5), .second, .unset, .unset, .unset, .unset, .unset, .unset, .unset, .unset, .unset, .unset, .unset, .unset, .unset, .unset, .unset] [(.int p1)])
  refine own_via (fun _ k => XS.bipush X0.here hx rfl (hb hby at_1) k) ?_
  show own_Fin _ _ _ _ _ _ _ s₁ (mkF m 3 #[.val (.int p1), .val (.int p2), .val (.int p3), .val (.long q4), .second, .val (.long q5), .second, .unset, .unset, .unset, .unset, .unset, .unset, .unset, .unset, .unset, .unset, .unset, .unset, .unset, .unset, .unset] [(.int (10 : Int32)), (.int p1)])
  refine own_via (fun _ k => XS.ishr X0.here hx rfl (hb hby at_3) rfl k) ?_
  show own_Fin _ _ _ _ _ _ _ s₁ (mkF m 4 #[.val (.int p1), .val (.int p2), .val (.int p3), .val (.long q4), .second, .val (.long q5), .second, .unset, .unset, .unset, .unset, .unset, .unset, .unset, .unset, .unset, .unset, .unset, .unset, .unset, .unset, .unset] [(.int (p1 >>> ((10 : Int32) &&& 31)))])
  refine own_via (fun _ k => XS.i2l X0.here hx rfl (hb hby at_4) rfl k) ?_
  show own_Fin _ _ _ _ _ _ _ s₁ (mkF m 5 #[.val (.int p1), .val (.int p2), .val (.int p3), .val (.long q4), .second, .val (.long q5), .second, .unset, .unset, .unset, .unset, .unset, .unset, .unset, .unset, .unset, .unset, .unset, .unset, .unset, .unset, .unset] [(.long ((p1 >>> ((10 : Int32) &&& 31)).toInt64))])
  refine own_via (fun _ k => XS.lstore X0.here hx rfl (hb hby at_5) rfl (l' := #[.val (.int p1), .val (.int p2), .val (.int p3), .val (.long q4), .second, .val (.long q5), .second, .val (.long ((p1 >>> ((10 : Int32) &&& 31)).toInt64)), .second, .unset, .unset, .unset, .unset, .unset, .unset, .unset, .unset, .unset, .unset, .unset, .unset, .unset]) rfl k) ?_
  show own_Fin _ _ _ _ _ _ _ s₁ (mkF m 7 #[.val (.int p1), .val (.int p2), .val (.int p3), .val (.long q4), .second, .val (.long q5), .second, .val (.long ((p1 >>> ((10 : Int32) &&& 31)).toInt64)), .second, .unset, .unset, .unset, .unset, .unset, .unset, .unset, .unset, .unset, .unset, .unset, .unset, .unset] [])
  refine own_via (fun _ k => XS.iloadN X0.here hx rfl (hb hby at_7) rfl k) ?_
  show own_Fin _ _ _ _ _ _ _ s₁ (mkF m 8 #[.val (.int p1), .val (.int p2), .val (.int p3), .val (.long q4), .second, .val (.long q5), .second, .val (.long ((p1 >>> ((10 : Int32) &&& 31)).toInt64)), .second, .unset, .unset, .unset, .unset, .unset, .unset, .unset, .unset, .unset, .unset, .unset, .unset, .unset] [(.int p2)])
  refine own_via (fun _ k => XS.iconst X0.here hx rfl (hb hby at_8) k) ?_
  show own_Fin _ _ _ _ _ _ _ s₁ (mkF m 9 #[.val (.int p1), .val (.int p2), .val (.int p3), .val (.long q4), .second, .val (.long q5), .second, .val (.long ((p1 >>> ((10 : Int32) &&& 31)).toInt64)), .second, .unset, .unset, .unset, .unset, .unset, .unset, .unset, .unset, .unset, .unset, .unset, .unset, .unset] [(.int (2 : Int32)), (.int p2)])
  refine own_via (fun _ k => XS.ishr X0.here hx rfl (hb hby at_9) rfl k) ?_
  show own_Fin _ _ _ _ _ _ _ s₁ (mkF m 10 #[.val (.int p1), .val (.int p2), .val (.int p3), .val (.long q4), .second, .val (.long q5), .second, .val (.long ((p1 >>> ((10 : Int32) &&& 31)).toInt64)), .second, .unset, .unset, .unset, .unset, .unset, .unset, .unset, .unset, .unset, .unset, .unset, .unset, .unset] [(.int (p2 >>> ((2 : Int32) &&& 31)))])
  refine own_via (fun _ k => XS.i2l X0.here hx rfl (hb hby at_10) rfl k) ?_
  show own_Fin _ _ _ _ _ _ _ s₁ (mkF m 11 #[.val (.int p1), .val (.int p2), .val (.int p3), .val (.long q4), .second, .val (.long q5), .second, .val (.long ((p1 >>> ((10 : Int32) &&& 31)).toInt64)), .second, .unset, .unset, .unset, .unset, .unset, .unset, .unset, .unset, .unset, .unset, .unset, .unset, .unset] [(.long ((p2 >>> ((2 : Int32) &&& 31)).toInt64))])
  refine own_via (fun _ k => XS.lstore X0.here hx rfl (hb hby at_11) rfl (l' := #[.val (.int p1), .val (.int p2), .val (.int p3), .val (.long q4), .second, .val (.long q5), .second, .val (.long ((p1 >>> ((10 : Int32) &&& 31)).toInt64)), .second, .val (.long ((p2 >>> ((2 : Int32) &&& 31)).toInt64)), .second, .unset, .unset, .unset, .unset, .unset, .unset, .unset, .unset, .unset, .unset, .unset]) rfl k) ?_
  show own_Fin _ _ _ _ _ _ _ s₁ (mkF m 13 #[.val (.int p1), .val (.int p2), .val (.int p3), .val (.long q4), .second, .val (.long q5), .second, .val (.long ((p1 >>> ((10 : Int32) &&& 31)).toInt64)), .second, .val (.long ((p2 >>> ((2 : Int32) &&& 31)).toInt64)), .second, .unset, .unset, .unset, .unset, .unset, .unset, .unset, .unset, .unset, .unset, .unset] [])
  refine own_via (fun _ k => XS.lload X0.here hx rfl (hb hby at_13) rfl k) ?_
  show own_Fin _ _ _ _ _ _ _ s₁ (mkF m 15 #[.val (.int p1), .val (.int p2), .val (.int p3), .val (.long q4), .second, .val (.long q5), .second, .val (.long ((p1 >>> ((10 : Int32) &&& 31)).toInt64)), .second, .val (.long ((p2 >>> ((2 : Int32) &&& 31)).toInt64)), .second, .unset, .unset, .unset, .unset, .unset, .unset, .unset, .unset, .unset, .unset, .unset] [(.long ((p2 >>> ((2 : Int32) &&& 31)).toInt64))])
  refine own_via (fun _ k => XS.lconst X0.here hx rfl (hb hby at_15) k) ?_
  show own_Fin _ _ _ _ _ _ _ s₁ (mkF m 16 #[.val (.int p1), .val (.int p2), .val (.int p3), .val (.long q4), .second, .val (.long q5), .second, .val (.long ((p1 >>> ((10 : Int32) &&& 31)).toInt64)), .second, .val (.long ((p2 >>> ((2 : Int32) &&& 31)).toInt64)), .second, .unset, .unset, .unset, .unset, .unset, .unset, .unset, .unset, .unset, .unset, .unset] [(.long (0 : Int64)), (.long ((p2 >>> ((2 : Int32) &&& 31)).toInt64))])
  refine own_via (fun _ k => XS.lcmp X0.here hx rfl (hb hby at_16) rfl k) ?_
  show own_Fin _ _ _ _ _ _ _ s₁ (mkF m 17 #[.val (.int p1), .val (.int p2), .val (.int p3), .val (.long q4), .second, .val (.long q5), .second, .val (.long ((p1 >>> ((10 : Int32) &&& 31)).toInt64)), .second, .val (.long ((p2 >>> ((2 : Int32) &&& 31)).toInt64)), .second, .unset, .unset, .unset, .unset, .unset, .unset, .unset, .unset, .unset, .unset, .unset] [(.int (lcmpW ((p2 >>> ((2 : Int32) &&& 31)).toInt64) (0 : Int64)))])
  have seg : ∀ (mm : Int64) (hm : own_M mm), own_Fin p e s below (own_Q_law Z p1 p2 p3 q4 q5 h0 n0) room_1.cells room_1.slots s₁ (mkF m 23 #[.val (.int p1), .val (.int p2), .val (.int p3), .val (.long q4), .second, .val (.long q5), .second, .val (.long ((p1 >>> ((10 : Int32) &&& 31)).toInt64)), .second, .val (.long mm), .second, .unset, .unset, .unset, .unset, .unset, .unset, .unset, .unset, .unset, .unset, .unset] []) := by
    intro mm hm
    refine own_via (fun _ k => XS.iloadN X0.here hx rfl (hb hby at_23) rfl k) ?_
    show own_Fin _ _ _ _ _ _ _ s₁ (mkF m 24 #[.val (.int p1), .val (.int p2), .val (.int p3), .val (.long q4), .second, .val (.long q5), .second, .val (.long ((p1 >>> ((10 : Int32) &&& 31)).toInt64)), .second, .val (.long mm), .second, .unset, .unset, .unset, .unset, .unset, .unset, .unset, .unset, .unset, .unset, .unset] [(.int p3)])
    refine own_via (fun _ k => XS.iconst X0.here hx rfl (hb hby at_24) k) ?_
    show own_Fin _ _ _ _ _ _ _ s₁ (mkF m 25 #[.val (.int p1), .val (.int p2), .val (.int p3), .val (.long q4), .second, .val (.long q5), .second, .val (.long ((p1 >>> ((10 : Int32) &&& 31)).toInt64)), .second, .val (.long mm), .second, .unset, .unset, .unset, .unset, .unset, .unset, .unset, .unset, .unset, .unset, .unset] [(.int (3 : Int32)), (.int p3)])
    refine own_via (fun _ k => XS.iand X0.here hx rfl (hb hby at_25) rfl k) ?_
    show own_Fin _ _ _ _ _ _ _ s₁ (mkF m 26 #[.val (.int p1), .val (.int p2), .val (.int p3), .val (.long q4), .second, .val (.long q5), .second, .val (.long ((p1 >>> ((10 : Int32) &&& 31)).toInt64)), .second, .val (.long mm), .second, .unset, .unset, .unset, .unset, .unset, .unset, .unset, .unset, .unset, .unset, .unset] [(.int (p3 &&& (3 : Int32)))])
    refine own_via (fun _ k => XS.istore X0.here hx rfl (hb hby at_26) rfl (l' := #[.val (.int p1), .val (.int p2), .val (.int p3), .val (.long q4), .second, .val (.long q5), .second, .val (.long ((p1 >>> ((10 : Int32) &&& 31)).toInt64)), .second, .val (.long mm), .second, .val (.int (p3 &&& (3 : Int32))), .unset, .unset, .unset, .unset, .unset, .unset, .unset, .unset, .unset, .unset]) rfl k) ?_
    show own_Fin _ _ _ _ _ _ _ s₁ (mkF m 28 #[.val (.int p1), .val (.int p2), .val (.int p3), .val (.long q4), .second, .val (.long q5), .second, .val (.long ((p1 >>> ((10 : Int32) &&& 31)).toInt64)), .second, .val (.long mm), .second, .val (.int (p3 &&& (3 : Int32))), .unset, .unset, .unset, .unset, .unset, .unset, .unset, .unset, .unset, .unset] [])
    refine own_via (fun _ k => XS.iloadN X0.here hx rfl (hb hby at_28) rfl k) ?_
    show own_Fin _ _ _ _ _ _ _ s₁ (mkF m 29 #[.val (.int p1), .val (.int p2), .val (.int p3), .val (.long q4), .second, .val (.long q5), .second, .val (.long ((p1 >>> ((10 : Int32) &&& 31)).toInt64)), .second, .val (.long mm), .second, .val (.int (p3 &&& (3 : Int32))), .unset, .unset, .unset, .unset, .unset, .unset, .unset, .unset, .unset, .unset] [(.int p3)])
    refine own_via (fun _ k => XS.iconst X0.here hx rfl (hb hby at_29) k) ?_
    show own_Fin _ _ _ _ _ _ _ s₁ (mkF m 30 #[.val (.int p1), .val (.int p2), .val (.int p3), .val (.long q4), .second, .val (.long q5), .second, .val (.long ((p1 >>> ((10 : Int32) &&& 31)).toInt64)), .second, .val (.long mm), .second, .val (.int (p3 &&& (3 : Int32))), .unset, .unset, .unset, .unset, .unset, .unset, .unset, .unset, .unset, .unset] [(.int (2 : Int32)), (.int p3)])
    refine own_via (fun _ k => XS.iushr X0.here hx rfl (hb hby at_30) rfl k) ?_
    show own_Fin _ _ _ _ _ _ _ s₁ (mkF m 31 #[.val (.int p1), .val (.int p2), .val (.int p3), .val (.long q4), .second, .val (.long q5), .second, .val (.long ((p1 >>> ((10 : Int32) &&& 31)).toInt64)), .second, .val (.long mm), .second, .val (.int (p3 &&& (3 : Int32))), .unset, .unset, .unset, .unset, .unset, .unset, .unset, .unset, .unset, .unset] [(.int ((p3.toUInt32 >>> ((2 : Int32) &&& 31).toUInt32).toInt32))])
    refine own_via (fun _ k => XS.bipush X0.here hx rfl (hb hby at_31) k) ?_
    show own_Fin _ _ _ _ _ _ _ s₁ (mkF m 33 #[.val (.int p1), .val (.int p2), .val (.int p3), .val (.long q4), .second, .val (.long q5), .second, .val (.long ((p1 >>> ((10 : Int32) &&& 31)).toInt64)), .second, .val (.long mm), .second, .val (.int (p3 &&& (3 : Int32))), .unset, .unset, .unset, .unset, .unset, .unset, .unset, .unset, .unset, .unset] [(.int (7 : Int32)), (.int ((p3.toUInt32 >>> ((2 : Int32) &&& 31).toUInt32).toInt32))])
    refine own_via (fun _ k => XS.iand X0.here hx rfl (hb hby at_33) rfl k) ?_
    show own_Fin _ _ _ _ _ _ _ s₁ (mkF m 34 #[.val (.int p1), .val (.int p2), .val (.int p3), .val (.long q4), .second, .val (.long q5), .second, .val (.long ((p1 >>> ((10 : Int32) &&& 31)).toInt64)), .second, .val (.long mm), .second, .val (.int (p3 &&& (3 : Int32))), .unset, .unset, .unset, .unset, .unset, .unset, .unset, .unset, .unset, .unset] [(.int (((p3.toUInt32 >>> ((2 : Int32) &&& 31).toUInt32).toInt32) &&& (7 : Int32)))])
    refine own_via (fun _ k => XS.istore X0.here hx rfl (hb hby at_34) rfl (l' := #[.val (.int p1), .val (.int p2), .val (.int p3), .val (.long q4), .second, .val (.long q5), .second, .val (.long ((p1 >>> ((10 : Int32) &&& 31)).toInt64)), .second, .val (.long mm), .second, .val (.int (p3 &&& (3 : Int32))), .val (.int (((p3.toUInt32 >>> ((2 : Int32) &&& 31).toUInt32).toInt32) &&& (7 : Int32))), .unset, .unset, .unset, .unset, .unset, .unset, .unset, .unset, .unset]) rfl k) ?_
    show own_Fin _ _ _ _ _ _ _ s₁ (mkF m 36 #[.val (.int p1), .val (.int p2), .val (.int p3), .val (.long q4), .second, .val (.long q5), .second, .val (.long ((p1 >>> ((10 : Int32) &&& 31)).toInt64)), .second, .val (.long mm), .second, .val (.int (p3 &&& (3 : Int32))), .val (.int (((p3.toUInt32 >>> ((2 : Int32) &&& 31).toUInt32).toInt32) &&& (7 : Int32))), .unset, .unset, .unset, .unset, .unset, .unset, .unset, .unset, .unset] [])
    refine own_via (fun _ k => X0.ldc2Long hx hown (mvT hZ (hw _ (List.mem_of_getElem? (i := 0) rfl))) (g := (mkF m 36 #[.val (.int p1), .val (.int p2), .val (.int p3), .val (.long q4), .second, .val (.long q5), .second, .val (.long ((p1 >>> ((10 : Int32) &&& 31)).toInt64)), .second, .val (.long mm), .second, .val (.int (p3 &&& (3 : Int32))), .val (.int (((p3.toUInt32 >>> ((2 : Int32) &&& 31).toUInt32).toInt32) &&& (7 : Int32))), .unset, .unset, .unset, .unset, .unset, .unset, .unset, .unset, .unset] [])) rfl (hb hby at_36) _ k) ?_
    show own_Fin _ _ _ _ _ _ _ s₁ (mkF m 39 #[.val (.int p1), .val (.int p2), .val (.int p3), .val (.long q4), .second, .val (.long q5), .second, .val (.long ((p1 >>> ((10 : Int32) &&& 31)).toInt64)), .second, .val (.long mm), .second, .val (.int (p3 &&& (3 : Int32))), .val (.int (((p3.toUInt32 >>> ((2 : Int32) &&& 31).toUInt32).toInt32) &&& (7 : Int32))), .unset, .unset, .unset, .unset, .unset, .unset, .unset, .unset, .unset] [(.long (4 : Int64))])
    refine own_via (fun _ k => XS.lload X0.here hx rfl (hb hby at_39) rfl k) ?_
    show own_Fin _ _ _ _ _ _ _ s₁ (mkF m 41 #[.val (.int p1), .val (.int p2), .val (.int p3), .val (.long q4), .second, .val (.long q5), .second, .val (.long ((p1 >>> ((10 : Int32) &&& 31)).toInt64)), .second, .val (.long mm), .second, .val (.int (p3 &&& (3 : Int32))), .val (.int (((p3.toUInt32 >>> ((2 : Int32) &&& 31).toUInt32).toInt32) &&& (7 : Int32))), .unset, .unset, .unset, .unset, .unset, .unset, .unset, .unset, .unset] [(.long mm), (.long (4 : Int64))])
    refine own_via (fun _ k => XS.lmul X0.here hx rfl (hb hby at_41) rfl k) ?_
    show own_Fin _ _ _ _ _ _ _ s₁ (mkF m 42 #[.val (.int p1), .val (.int p2), .val (.int p3), .val (.long q4), .second, .val (.long q5), .second, .val (.long ((p1 >>> ((10 : Int32) &&& 31)).toInt64)), .second, .val (.long mm), .second, .val (.int (p3 &&& (3 : Int32))), .val (.int (((p3.toUInt32 >>> ((2 : Int32) &&& 31).toUInt32).toInt32) &&& (7 : Int32))), .unset, .unset, .unset, .unset, .unset, .unset, .unset, .unset, .unset] [(.long ((4 : Int64) * mm))])
    refine own_via (fun _ k => XS.iload X0.here hx rfl (hb hby at_42) rfl k) ?_
    show own_Fin _ _ _ _ _ _ _ s₁ (mkF m 44 #[.val (.int p1), .val (.int p2), .val (.int p3), .val (.long q4), .second, .val (.long q5), .second, .val (.long ((p1 >>> ((10 : Int32) &&& 31)).toInt64)), .second, .val (.long mm), .second, .val (.int (p3 &&& (3 : Int32))), .val (.int (((p3.toUInt32 >>> ((2 : Int32) &&& 31).toUInt32).toInt32) &&& (7 : Int32))), .unset, .unset, .unset, .unset, .unset, .unset, .unset, .unset, .unset] [(.int (((p3.toUInt32 >>> ((2 : Int32) &&& 31).toUInt32).toInt32) &&& (7 : Int32))), (.long ((4 : Int64) * mm))])
    refine own_via (fun _ k => XS.lshl X0.here hx rfl (hb hby at_44) rfl k) ?_
    show own_Fin _ _ _ _ _ _ _ s₁ (mkF m 45 #[.val (.int p1), .val (.int p2), .val (.int p3), .val (.long q4), .second, .val (.long q5), .second, .val (.long ((p1 >>> ((10 : Int32) &&& 31)).toInt64)), .second, .val (.long mm), .second, .val (.int (p3 &&& (3 : Int32))), .val (.int (((p3.toUInt32 >>> ((2 : Int32) &&& 31).toUInt32).toInt32) &&& (7 : Int32))), .unset, .unset, .unset, .unset, .unset, .unset, .unset, .unset, .unset] [(.long (((4 : Int64) * mm) <<< ((((p3.toUInt32 >>> ((2 : Int32) &&& 31).toUInt32).toInt32) &&& (7 : Int32)) &&& 0x3f).toInt64))])
    refine own_via (fun _ k => XS.lstore X0.here hx rfl (hb hby at_45) rfl (l' := #[.val (.int p1), .val (.int p2), .val (.int p3), .val (.long q4), .second, .val (.long q5), .second, .val (.long ((p1 >>> ((10 : Int32) &&& 31)).toInt64)), .second, .val (.long mm), .second, .val (.int (p3 &&& (3 : Int32))), .val (.int (((p3.toUInt32 >>> ((2 : Int32) &&& 31).toUInt32).toInt32) &&& (7 : Int32))), .val (.long (((4 : Int64) * mm) <<< ((((p3.toUInt32 >>> ((2 : Int32) &&& 31).toUInt32).toInt32) &&& (7 : Int32)) &&& 0x3f).toInt64)), .second, .unset, .unset, .unset, .unset, .unset, .unset, .unset]) rfl k) ?_
    show own_Fin _ _ _ _ _ _ _ s₁ (mkF m 47 #[.val (.int p1), .val (.int p2), .val (.int p3), .val (.long q4), .second, .val (.long q5), .second, .val (.long ((p1 >>> ((10 : Int32) &&& 31)).toInt64)), .second, .val (.long mm), .second, .val (.int (p3 &&& (3 : Int32))), .val (.int (((p3.toUInt32 >>> ((2 : Int32) &&& 31).toUInt32).toInt32) &&& (7 : Int32))), .val (.long (((4 : Int64) * mm) <<< ((((p3.toUInt32 >>> ((2 : Int32) &&& 31).toUInt32).toInt32) &&& (7 : Int32)) &&& 0x3f).toInt64)), .second, .unset, .unset, .unset, .unset, .unset, .unset, .unset] [])
    refine own_via (fun _ k => XS.lload X0.here hx rfl (hb hby at_47) rfl k) ?_
    show own_Fin _ _ _ _ _ _ _ s₁ (mkF m 49 #[.val (.int p1), .val (.int p2), .val (.int p3), .val (.long q4), .second, .val (.long q5), .second, .val (.long ((p1 >>> ((10 : Int32) &&& 31)).toInt64)), .second, .val (.long mm), .second, .val (.int (p3 &&& (3 : Int32))), .val (.int (((p3.toUInt32 >>> ((2 : Int32) &&& 31).toUInt32).toInt32) &&& (7 : Int32))), .val (.long (((4 : Int64) * mm) <<< ((((p3.toUInt32 >>> ((2 : Int32) &&& 31).toUInt32).toInt32) &&& (7 : Int32)) &&& 0x3f).toInt64)), .second, .unset, .unset, .unset, .unset, .unset, .unset, .unset] [(.long ((p1 >>> ((10 : Int32) &&& 31)).toInt64))])
    refine own_via (fun _ k => X0.ldc2Long hx hown (mvT hZ (hw _ (List.mem_of_getElem? (i := 0) rfl))) (g := (mkF m 49 #[.val (.int p1), .val (.int p2), .val (.int p3), .val (.long q4), .second, .val (.long q5), .second, .val (.long ((p1 >>> ((10 : Int32) &&& 31)).toInt64)), .second, .val (.long mm), .second, .val (.int (p3 &&& (3 : Int32))), .val (.int (((p3.toUInt32 >>> ((2 : Int32) &&& 31).toUInt32).toInt32) &&& (7 : Int32))), .val (.long (((4 : Int64) * mm) <<< ((((p3.toUInt32 >>> ((2 : Int32) &&& 31).toUInt32).toInt32) &&& (7 : Int32)) &&& 0x3f).toInt64)), .second, .unset, .unset, .unset, .unset, .unset, .unset, .unset] [(.long ((p1 >>> ((10 : Int32) &&& 31)).toInt64))])) rfl (hb hby at_49) _ k) ?_
    show own_Fin _ _ _ _ _ _ _ s₁ (mkF m 52 #[.val (.int p1), .val (.int p2), .val (.int p3), .val (.long q4), .second, .val (.long q5), .second, .val (.long ((p1 >>> ((10 : Int32) &&& 31)).toInt64)), .second, .val (.long mm), .second, .val (.int (p3 &&& (3 : Int32))), .val (.int (((p3.toUInt32 >>> ((2 : Int32) &&& 31).toUInt32).toInt32) &&& (7 : Int32))), .val (.long (((4 : Int64) * mm) <<< ((((p3.toUInt32 >>> ((2 : Int32) &&& 31).toUInt32).toInt32) &&& (7 : Int32)) &&& 0x3f).toInt64)), .second, .unset, .unset, .unset, .unset, .unset, .unset, .unset] [(.long (4 : Int64)), (.long ((p1 >>> ((10 : Int32) &&& 31)).toInt64))])
    refine own_via (fun _ k => XS.lmul X0.here hx rfl (hb hby at_52) rfl k) ?_
    show own_Fin _ _ _ _ _ _ _ s₁ (mkF m 53 #[.val (.int p1), .val (.int p2), .val (.int p3), .val (.long q4), .second, .val (.long q5), .second, .val (.long ((p1 >>> ((10 : Int32) &&& 31)).toInt64)), .second, .val (.long mm), .second, .val (.int (p3 &&& (3 : Int32))), .val (.int (((p3.toUInt32 >>> ((2 : Int32) &&& 31).toUInt32).toInt32) &&& (7 : Int32))), .val (.long (((4 : Int64) * mm) <<< ((((p3.toUInt32 >>> ((2 : Int32) &&& 31).toUInt32).toInt32) &&& (7 : Int32)) &&& 0x3f).toInt64)), .second, .unset, .unset, .unset, .unset, .unset, .unset, .unset] [(.long (((p1 >>> ((10 : Int32) &&& 31)).toInt64) * (4 : Int64)))])
    refine own_via (fun _ k => XS.lload X0.here hx rfl (hb hby at_53) rfl k) ?_
    show own_Fin _ _ _ _ _ _ _ s₁ (mkF m 55 #[.val (.int p1), .val (.int p2), .val (.int p3), .val (.long q4), .second, .val (.long q5), .second, .val (.long ((p1 >>> ((10 : Int32) &&& 31)).toInt64)), .second, .val (.long mm), .second, .val (.int (p3 &&& (3 : Int32))), .val (.int (((p3.toUInt32 >>> ((2 : Int32) &&& 31).toUInt32).toInt32) &&& (7 : Int32))), .val (.long (((4 : Int64) * mm) <<< ((((p3.toUInt32 >>> ((2 : Int32) &&& 31).toUInt32).toInt32) &&& (7 : Int32)) &&& 0x3f).toInt64)), .second, .unset, .unset, .unset, .unset, .unset, .unset, .unset] [(.long mm), (.long (((p1 >>> ((10 : Int32) &&& 31)).toInt64) * (4 : Int64)))])
    refine own_via (fun _ k => XS.lmul X0.here hx rfl (hb hby at_55) rfl k) ?_
    show own_Fin _ _ _ _ _ _ _ s₁ (mkF m 56 #[.val (.int p1), .val (.int p2), .val (.int p3), .val (.long q4), .second, .val (.long q5), .second, .val (.long ((p1 >>> ((10 : Int32) &&& 31)).toInt64)), .second, .val (.long mm), .second, .val (.int (p3 &&& (3 : Int32))), .val (.int (((p3.toUInt32 >>> ((2 : Int32) &&& 31).toUInt32).toInt32) &&& (7 : Int32))), .val (.long (((4 : Int64) * mm) <<< ((((p3.toUInt32 >>> ((2 : Int32) &&& 31).toUInt32).toInt32) &&& (7 : Int32)) &&& 0x3f).toInt64)), .second, .unset, .unset, .unset, .unset, .unset, .unset, .unset] [(.long ((((p1 >>> ((10 : Int32) &&& 31)).toInt64) * (4 : Int64)) * mm))])
    refine own_via (fun _ k => XS.iload X0.here hx rfl (hb hby at_56) rfl k) ?_
    show own_Fin _ _ _ _ _ _ _ s₁ (mkF m 58 #[.val (.int p1), .val (.int p2), .val (.int p3), .val (.long q4), .second, .val (.long q5), .second, .val (.long ((p1 >>> ((10 : Int32) &&& 31)).toInt64)), .second, .val (.long mm), .second, .val (.int (p3 &&& (3 : Int32))), .val (.int (((p3.toUInt32 >>> ((2 : Int32) &&& 31).toUInt32).toInt32) &&& (7 : Int32))), .val (.long (((4 : Int64) * mm) <<< ((((p3.toUInt32 >>> ((2 : Int32) &&& 31).toUInt32).toInt32) &&& (7 : Int32)) &&& 0x3f).toInt64)), .second, .unset, .unset, .unset, .unset, .unset, .unset, .unset] [(.int (p3 &&& (3 : Int32))), (.long ((((p1 >>> ((10 : Int32) &&& 31)).toInt64) * (4 : Int64)) * mm))])
    refine own_via (fun _ k => XS.i2l X0.here hx rfl (hb hby at_58) rfl k) ?_
    show own_Fin _ _ _ _ _ _ _ s₁ (mkF m 59 #[.val (.int p1), .val (.int p2), .val (.int p3), .val (.long q4), .second, .val (.long q5), .second, .val (.long ((p1 >>> ((10 : Int32) &&& 31)).toInt64)), .second, .val (.long mm), .second, .val (.int (p3 &&& (3 : Int32))), .val (.int (((p3.toUInt32 >>> ((2 : Int32) &&& 31).toUInt32).toInt32) &&& (7 : Int32))), .val (.long (((4 : Int64) * mm) <<< ((((p3.toUInt32 >>> ((2 : Int32) &&& 31).toUInt32).toInt32) &&& (7 : Int32)) &&& 0x3f).toInt64)), .second, .unset, .unset, .unset, .unset, .unset, .unset, .unset] [(.long ((p3 &&& (3 : Int32)).toInt64)), (.long ((((p1 >>> ((10 : Int32) &&& 31)).toInt64) * (4 : Int64)) * mm))])
    refine own_via (fun _ k => XS.lload X0.here hx rfl (hb hby at_59) rfl k) ?_
    show own_Fin _ _ _ _ _ _ _ s₁ (mkF m 61 #[.val (.int p1), .val (.int p2), .val (.int p3), .val (.long q4), .second, .val (.long q5), .second, .val (.long ((p1 >>> ((10 : Int32) &&& 31)).toInt64)), .second, .val (.long mm), .second, .val (.int (p3 &&& (3 : Int32))), .val (.int (((p3.toUInt32 >>> ((2 : Int32) &&& 31).toUInt32).toInt32) &&& (7 : Int32))), .val (.long (((4 : Int64) * mm) <<< ((((p3.toUInt32 >>> ((2 : Int32) &&& 31).toUInt32).toInt32) &&& (7 : Int32)) &&& 0x3f).toInt64)), .second, .unset, .unset, .unset, .unset, .unset, .unset, .unset] [(.long mm), (.long ((p3 &&& (3 : Int32)).toInt64)), (.long ((((p1 >>> ((10 : Int32) &&& 31)).toInt64) * (4 : Int64)) * mm))])
    refine own_via (fun _ k => XS.lmul X0.here hx rfl (hb hby at_61) rfl k) ?_
    show own_Fin _ _ _ _ _ _ _ s₁ (mkF m 62 #[.val (.int p1), .val (.int p2), .val (.int p3), .val (.long q4), .second, .val (.long q5), .second, .val (.long ((p1 >>> ((10 : Int32) &&& 31)).toInt64)), .second, .val (.long mm), .second, .val (.int (p3 &&& (3 : Int32))), .val (.int (((p3.toUInt32 >>> ((2 : Int32) &&& 31).toUInt32).toInt32) &&& (7 : Int32))), .val (.long (((4 : Int64) * mm) <<< ((((p3.toUInt32 >>> ((2 : Int32) &&& 31).toUInt32).toInt32) &&& (7 : Int32)) &&& 0x3f).toInt64)), .second, .unset, .unset, .unset, .unset, .unset, .unset, .unset] [(.long (((p3 &&& (3 : Int32)).toInt64) * mm)), (.long ((((p1 >>> ((10 : Int32) &&& 31)).toInt64) * (4 : Int64)) * mm))])
    refine own_via (fun _ k => XS.ladd X0.here hx rfl (hb hby at_62) rfl k) ?_
    show own_Fin _ _ _ _ _ _ _ s₁ (mkF m 63 #[.val (.int p1), .val (.int p2), .val (.int p3), .val (.long q4), .second, .val (.long q5), .second, .val (.long ((p1 >>> ((10 : Int32) &&& 31)).toInt64)), .second, .val (.long mm), .second, .val (.int (p3 &&& (3 : Int32))), .val (.int (((p3.toUInt32 >>> ((2 : Int32) &&& 31).toUInt32).toInt32) &&& (7 : Int32))), .val (.long (((4 : Int64) * mm) <<< ((((p3.toUInt32 >>> ((2 : Int32) &&& 31).toUInt32).toInt32) &&& (7 : Int32)) &&& 0x3f).toInt64)), .second, .unset, .unset, .unset, .unset, .unset, .unset, .unset] [(.long (((((p1 >>> ((10 : Int32) &&& 31)).toInt64) * (4 : Int64)) * mm) + (((p3 &&& (3 : Int32)).toInt64) * mm)))])
    refine own_via (fun _ k => XS.iload X0.here hx rfl (hb hby at_63) rfl k) ?_
    show own_Fin _ _ _ _ _ _ _ s₁ (mkF m 65 #[.val (.int p1), .val (.int p2), .val (.int p3), .val (.long q4), .second, .val (.long q5), .second, .val (.long ((p1 >>> ((10 : Int32) &&& 31)).toInt64)), .second, .val (.long mm), .second, .val (.int (p3 &&& (3 : Int32))), .val (.int (((p3.toUInt32 >>> ((2 : Int32) &&& 31).toUInt32).toInt32) &&& (7 : Int32))), .val (.long (((4 : Int64) * mm) <<< ((((p3.toUInt32 >>> ((2 : Int32) &&& 31).toUInt32).toInt32) &&& (7 : Int32)) &&& 0x3f).toInt64)), .second, .unset, .unset, .unset, .unset, .unset, .unset, .unset] [(.int (((p3.toUInt32 >>> ((2 : Int32) &&& 31).toUInt32).toInt32) &&& (7 : Int32))), (.long (((((p1 >>> ((10 : Int32) &&& 31)).toInt64) * (4 : Int64)) * mm) + (((p3 &&& (3 : Int32)).toInt64) * mm)))])
    refine own_via (fun _ k => XS.lshl X0.here hx rfl (hb hby at_65) rfl k) ?_
    show own_Fin _ _ _ _ _ _ _ s₁ (mkF m 66 #[.val (.int p1), .val (.int p2), .val (.int p3), .val (.long q4), .second, .val (.long q5), .second, .val (.long ((p1 >>> ((10 : Int32) &&& 31)).toInt64)), .second, .val (.long mm), .second, .val (.int (p3 &&& (3 : Int32))), .val (.int (((p3.toUInt32 >>> ((2 : Int32) &&& 31).toUInt32).toInt32) &&& (7 : Int32))), .val (.long (((4 : Int64) * mm) <<< ((((p3.toUInt32 >>> ((2 : Int32) &&& 31).toUInt32).toInt32) &&& (7 : Int32)) &&& 0x3f).toInt64)), .second, .unset, .unset, .unset, .unset, .unset, .unset, .unset] [(.long ((((((p1 >>> ((10 : Int32) &&& 31)).toInt64) * (4 : Int64)) * mm) + (((p3 &&& (3 : Int32)).toInt64) * mm)) <<< ((((p3.toUInt32 >>> ((2 : Int32) &&& 31).toUInt32).toInt32) &&& (7 : Int32)) &&& 0x3f).toInt64))])
    refine own_via (fun _ k => XS.lstore X0.here hx rfl (hb hby at_66) rfl (l' := #[.val (.int p1), .val (.int p2), .val (.int p3), .val (.long q4), .second, .val (.long q5), .second, .val (.long ((p1 >>> ((10 : Int32) &&& 31)).toInt64)), .second, .val (.long mm), .second, .val (.int (p3 &&& (3 : Int32))), .val (.int (((p3.toUInt32 >>> ((2 : Int32) &&& 31).toUInt32).toInt32) &&& (7 : Int32))), .val (.long (((4 : Int64) * mm) <<< ((((p3.toUInt32 >>> ((2 : Int32) &&& 31).toUInt32).toInt32) &&& (7 : Int32)) &&& 0x3f).toInt64)), .second, .val (.long ((((((p1 >>> ((10 : Int32) &&& 31)).toInt64) * (4 : Int64)) * mm) + (((p3 &&& (3 : Int32)).toInt64) * mm)) <<< ((((p3.toUInt32 >>> ((2 : Int32) &&& 31).toUInt32).toInt32) &&& (7 : Int32)) &&& 0x3f).toInt64)), .second, .unset, .unset, .unset, .unset, .unset]) rfl k) ?_
    show own_Fin _ _ _ _ _ _ _ s₁ (mkF m 68 #[.val (.int p1), .val (.int p2), .val (.int p3), .val (.long q4), .second, .val (.long q5), .second, .val (.long ((p1 >>> ((10 : Int32) &&& 31)).toInt64)), .second, .val (.long mm), .second, .val (.int (p3 &&& (3 : Int32))), .val (.int (((p3.toUInt32 >>> ((2 : Int32) &&& 31).toUInt32).toInt32) &&& (7 : Int32))), .val (.long (((4 : Int64) * mm) <<< ((((p3.toUInt32 >>> ((2 : Int32) &&& 31).toUInt32).toInt32) &&& (7 : Int32)) &&& 0x3f).toInt64)), .second, .val (.long ((((((p1 >>> ((10 : Int32) &&& 31)).toInt64) * (4 : Int64)) * mm) + (((p3 &&& (3 : Int32)).toInt64) * mm)) <<< ((((p3.toUInt32 >>> ((2 : Int32) &&& 31).toUInt32).toInt32) &&& (7 : Int32)) &&& 0x3f).toInt64)), .second, .unset, .unset, .unset, .unset, .unset] [])
    obtain ⟨T1, h1, X1, e1, E1, A1, D1, -, st1⟩ := newO X0 hx hZ hown (hw _ (List.mem_of_getElem? (i := 1) rfl)) (hw _ (List.mem_of_getElem? (i := 2) rfl)) (hw _ (List.mem_of_getElem? (i := 3) rfl)) e0 (g := (mkF m 68 #[.val (.int p1), .val (.int p2), .val (.int p3), .val (.long q4), .second, .val (.long q5), .second, .val (.long ((p1 >>> ((10 : Int32) &&& 31)).toInt64)), .second, .val (.long mm), .second, .val (.int (p3 &&& (3 : Int32))), .val (.int (((p3.toUInt32 >>> ((2 : Int32) &&& 31).toUInt32).toInt32) &&& (7 : Int32))), .val (.long (((4 : Int64) * mm) <<< ((((p3.toUInt32 >>> ((2 : Int32) &&& 31).toUInt32).toInt32) &&& (7 : Int32)) &&& 0x3f).toInt64)), .second, .val (.long ((((((p1 >>> ((10 : Int32) &&& 31)).toInt64) * (4 : Int64)) * mm) + (((p3 &&& (3 : Int32)).toInt64) * mm)) <<< ((((p3.toUInt32 >>> ((2 : Int32) &&& 31).toUInt32).toInt32) &&& (7 : Int32)) &&& 0x3f).toInt64)), .second, .unset, .unset, .unset, .unset, .unset] [])) rfl (hb hby at_68) (by decide) (by decide)
    obtain ⟨b1, g1⟩ : ∃ z, z = h0.size := ⟨_, rfl⟩
    rw [← g1] at A1 D1 st1
    have F2 : Fld Z h1 b1 "com/example/dependency_container/dependencycontainer/benchmark/StartupBenchmark$Run" "wallNanos" "J" (.long (0 : Int64)) := D1 (Or.inr (hw _ (List.mem_of_getElem? (i := 11) rfl))) (ty := .long) (by decide)
    have F3 : Fld Z h1 b1 "com/example/dependency_container/dependencycontainer/benchmark/StartupBenchmark$Run" "peakKilobytes" "J" (.long (0 : Int64)) := D1 (Or.inr (hw _ (List.mem_of_getElem? (i := 13) rfl))) (ty := .long) (by decide)
    refine own_via (fun _ k => st1 _ k) ?_
    show own_Fin _ _ _ _ _ _ _ T1 (mkF m 71 #[.val (.int p1), .val (.int p2), .val (.int p3), .val (.long q4), .second, .val (.long q5), .second, .val (.long ((p1 >>> ((10 : Int32) &&& 31)).toInt64)), .second, .val (.long mm), .second, .val (.int (p3 &&& (3 : Int32))), .val (.int (((p3.toUInt32 >>> ((2 : Int32) &&& 31).toUInt32).toInt32) &&& (7 : Int32))), .val (.long (((4 : Int64) * mm) <<< ((((p3.toUInt32 >>> ((2 : Int32) &&& 31).toUInt32).toInt32) &&& (7 : Int32)) &&& 0x3f).toInt64)), .second, .val (.long ((((((p1 >>> ((10 : Int32) &&& 31)).toInt64) * (4 : Int64)) * mm) + (((p3 &&& (3 : Int32)).toInt64) * mm)) <<< ((((p3.toUInt32 >>> ((2 : Int32) &&& 31).toUInt32).toInt32) &&& (7 : Int32)) &&& 0x3f).toInt64)), .second, .unset, .unset, .unset, .unset, .unset] [(.ref b1)])
    refine own_via (fun _ k => XS.dup X1.here hx rfl (hb hby at_71) rfl rfl k) ?_
    show own_Fin _ _ _ _ _ _ _ T1 (mkF m 72 #[.val (.int p1), .val (.int p2), .val (.int p3), .val (.long q4), .second, .val (.long q5), .second, .val (.long ((p1 >>> ((10 : Int32) &&& 31)).toInt64)), .second, .val (.long mm), .second, .val (.int (p3 &&& (3 : Int32))), .val (.int (((p3.toUInt32 >>> ((2 : Int32) &&& 31).toUInt32).toInt32) &&& (7 : Int32))), .val (.long (((4 : Int64) * mm) <<< ((((p3.toUInt32 >>> ((2 : Int32) &&& 31).toUInt32).toInt32) &&& (7 : Int32)) &&& 0x3f).toInt64)), .second, .val (.long ((((((p1 >>> ((10 : Int32) &&& 31)).toInt64) * (4 : Int64)) * mm) + (((p3 &&& (3 : Int32)).toInt64) * mm)) <<< ((((p3.toUInt32 >>> ((2 : Int32) &&& 31).toUInt32).toInt32) &&& (7 : Int32)) &&& 0x3f).toInt64)), .second, .unset, .unset, .unset, .unset, .unset] [(.ref b1), (.ref b1)])
    refine own_via (fun _ k => XS.lload X1.here hx rfl (hb hby at_72) rfl k) ?_
    show own_Fin _ _ _ _ _ _ _ T1 (mkF m 74 #[.val (.int p1), .val (.int p2), .val (.int p3), .val (.long q4), .second, .val (.long q5), .second, .val (.long ((p1 >>> ((10 : Int32) &&& 31)).toInt64)), .second, .val (.long mm), .second, .val (.int (p3 &&& (3 : Int32))), .val (.int (((p3.toUInt32 >>> ((2 : Int32) &&& 31).toUInt32).toInt32) &&& (7 : Int32))), .val (.long (((4 : Int64) * mm) <<< ((((p3.toUInt32 >>> ((2 : Int32) &&& 31).toUInt32).toInt32) &&& (7 : Int32)) &&& 0x3f).toInt64)), .second, .val (.long ((((((p1 >>> ((10 : Int32) &&& 31)).toInt64) * (4 : Int64)) * mm) + (((p3 &&& (3 : Int32)).toInt64) * mm)) <<< ((((p3.toUInt32 >>> ((2 : Int32) &&& 31).toUInt32).toInt32) &&& (7 : Int32)) &&& 0x3f).toInt64)), .second, .unset, .unset, .unset, .unset, .unset] [(.long ((((((p1 >>> ((10 : Int32) &&& 31)).toInt64) * (4 : Int64)) * mm) + (((p3 &&& (3 : Int32)).toInt64) * mm)) <<< ((((p3.toUInt32 >>> ((2 : Int32) &&& 31).toUInt32).toInt32) &&& (7 : Int32)) &&& 0x3f).toInt64)), (.ref b1), (.ref b1)])
    refine own_via (fun _ k => XS.lloadN X1.here hx rfl (hb hby at_74) rfl k) ?_
    show own_Fin _ _ _ _ _ _ _ T1 (mkF m 75 #[.val (.int p1), .val (.int p2), .val (.int p3), .val (.long q4), .second, .val (.long q5), .second, .val (.long ((p1 >>> ((10 : Int32) &&& 31)).toInt64)), .second, .val (.long mm), .second, .val (.int (p3 &&& (3 : Int32))), .val (.int (((p3.toUInt32 >>> ((2 : Int32) &&& 31).toUInt32).toInt32) &&& (7 : Int32))), .val (.long (((4 : Int64) * mm) <<< ((((p3.toUInt32 >>> ((2 : Int32) &&& 31).toUInt32).toInt32) &&& (7 : Int32)) &&& 0x3f).toInt64)), .second, .val (.long ((((((p1 >>> ((10 : Int32) &&& 31)).toInt64) * (4 : Int64)) * mm) + (((p3 &&& (3 : Int32)).toInt64) * mm)) <<< ((((p3.toUInt32 >>> ((2 : Int32) &&& 31).toUInt32).toInt32) &&& (7 : Int32)) &&& 0x3f).toInt64)), .second, .unset, .unset, .unset, .unset, .unset] [(.long q4), (.long ((((((p1 >>> ((10 : Int32) &&& 31)).toInt64) * (4 : Int64)) * mm) + (((p3 &&& (3 : Int32)).toInt64) * mm)) <<< ((((p3.toUInt32 >>> ((2 : Int32) &&& 31).toUInt32).toInt32) &&& (7 : Int32)) &&& 0x3f).toInt64)), (.ref b1), (.ref b1)])
    have g5 : n0 ≤ b1 := Nat.le_trans Z0 (Nat.le_of_eq g1.symm)
    obtain ⟨_, _, ⟨T4, L4, k4, n4⟩, -, X4, ⟨Lc4, hQ4, l4, y4, z4⟩, st4⟩ := X1.specialBack hx (y := (⟨"com/example/dependency_container/dependencycontainer/benchmark/StartupBenchmark$Run", "<init>", "(JJ)V"⟩ : MethodName)) rfl hown (mvT hZ (hw _ (List.mem_of_getElem? (i := 4) rfl))) (mvT hZ (hw _ (List.mem_of_getElem? (i := 5) rfl))) (mvT hZ (hw _ (List.mem_of_getElem? (i := 6) rfl))) (by decide) (backOf (W := 1) (own_rm_runInit l Z a0 hw [] b1 ((((((p1 >>> ((10 : Int32) &&& 31)).toInt64) * (4 : Int64)) * mm) + (((p3 &&& (3 : Int32)).toInt64) * mm)) <<< ((((p3.toUInt32 >>> ((2 : Int32) &&& 31).toUInt32).toInt32) &&& (7 : Int32)) &&& 0x3f).toInt64) q4 (.long (0 : Int64)) (.long (0 : Int64)) h1 n0 (Nat.le_trans Z0 E1.1) A1 F2 F3 g5) hZ (hw _ (List.mem_of_getElem? (i := 6) rfl)) (hw _ (List.mem_of_getElem? (i := 3) rfl)) (by decide) (by decide)) (g := (mkF m 75 #[.val (.int p1), .val (.int p2), .val (.int p3), .val (.long q4), .second, .val (.long q5), .second, .val (.long ((p1 >>> ((10 : Int32) &&& 31)).toInt64)), .second, .val (.long mm), .second, .val (.int (p3 &&& (3 : Int32))), .val (.int (((p3.toUInt32 >>> ((2 : Int32) &&& 31).toUInt32).toInt32) &&& (7 : Int32))), .val (.long (((4 : Int64) * mm) <<< ((((p3.toUInt32 >>> ((2 : Int32) &&& 31).toUInt32).toInt32) &&& (7 : Int32)) &&& 0x3f).toInt64)), .second, .val (.long ((((((p1 >>> ((10 : Int32) &&& 31)).toInt64) * (4 : Int64)) * mm) + (((p3 &&& (3 : Int32)).toInt64) * mm)) <<< ((((p3.toUInt32 >>> ((2 : Int32) &&& 31).toUInt32).toInt32) &&& (7 : Int32)) &&& 0x3f).toInt64)), .second, .unset, .unset, .unset, .unset, .unset] [(.long q4), (.long ((((((p1 >>> ((10 : Int32) &&& 31)).toInt64) * (4 : Int64)) * mm) + (((p3 &&& (3 : Int32)).toInt64) * mm)) <<< ((((p3.toUInt32 >>> ((2 : Int32) &&& 31).toUInt32).toInt32) &&& (7 : Int32)) &&& 0x3f).toInt64)), (.ref b1), (.ref b1)])) rfl (by rw [hml]; rfl) (Steps.refl _) (a := b1) (argsL := [(.long ((((((p1 >>> ((10 : Int32) &&& 31)).toInt64) * (4 : Int64)) * mm) + (((p3 &&& (3 : Int32)).toInt64) * mm)) <<< ((((p3.toUInt32 >>> ((2 : Int32) &&& 31).toUInt32).toInt32) &&& (7 : Int32)) &&& 0x3f).toInt64)), (.long q4)]) (rest := [(.ref b1)]) (lenOf own_pd0 rfl) rfl (by show 2 * 0 + _ ≤ _; exact Nat.le_of_eq rfl) (hb hby at_75) (fun _ _ => ⟨rfl, e1, (by decide : 0 + 1 + 0 ≤ _), (by decide : 0 + 2 + 0 ≤ _)⟩)
    dsimp only [Pt.U, Pt.locs, Pt.cells, Pt.slots] at X4 l4 y4 z4 st4 hQ4
    subst l4 y4 z4
    obtain ⟨rfl, Nq4, K4, r6, r7, r8⟩ := hQ4
    have N4 := Fr.app N0 Nq4
    refine own_via (fun _ k => st4.trans k) ?_
    show own_Fin _ _ _ _ _ _ _ T4 (mkF m 78 #[.val (.int p1), .val (.int p2), .val (.int p3), .val (.long q4), .second, .val (.long q5), .second, .val (.long ((p1 >>> ((10 : Int32) &&& 31)).toInt64)), .second, .val (.long mm), .second, .val (.int (p3 &&& (3 : Int32))), .val (.int (((p3.toUInt32 >>> ((2 : Int32) &&& 31).toUInt32).toInt32) &&& (7 : Int32))), .val (.long (((4 : Int64) * mm) <<< ((((p3.toUInt32 >>> ((2 : Int32) &&& 31).toUInt32).toInt32) &&& (7 : Int32)) &&& 0x3f).toInt64)), .second, .val (.long ((((((p1 >>> ((10 : Int32) &&& 31)).toInt64) * (4 : Int64)) * mm) + (((p3 &&& (3 : Int32)).toInt64) * mm)) <<< ((((p3.toUInt32 >>> ((2 : Int32) &&& 31).toUInt32).toInt32) &&& (7 : Int32)) &&& 0x3f).toInt64)), .second, .unset, .unset, .unset, .unset, .unset] [(.ref b1)])
    refine own_via (fun _ k => XS.astore X4.here hx rfl (hb hby at_78) rfl rfl (l' := #[.val (.int p1), .val (.int p2), .val (.int p3), .val (.long q4), .second, .val (.long q5), .second, .val (.long ((p1 >>> ((10 : Int32) &&& 31)).toInt64)), .second, .val (.long mm), .second, .val (.int (p3 &&& (3 : Int32))), .val (.int (((p3.toUInt32 >>> ((2 : Int32) &&& 31).toUInt32).toInt32) &&& (7 : Int32))), .val (.long (((4 : Int64) * mm) <<< ((((p3.toUInt32 >>> ((2 : Int32) &&& 31).toUInt32).toInt32) &&& (7 : Int32)) &&& 0x3f).toInt64)), .second, .val (.long ((((((p1 >>> ((10 : Int32) &&& 31)).toInt64) * (4 : Int64)) * mm) + (((p3 &&& (3 : Int32)).toInt64) * mm)) <<< ((((p3.toUInt32 >>> ((2 : Int32) &&& 31).toUInt32).toInt32) &&& (7 : Int32)) &&& 0x3f).toInt64)), .second, .val (.ref b1), .unset, .unset, .unset, .unset]) rfl k) ?_
    show own_Fin _ _ _ _ _ _ _ T4 (mkF m 80 #[.val (.int p1), .val (.int p2), .val (.int p3), .val (.long q4), .second, .val (.long q5), .second, .val (.long ((p1 >>> ((10 : Int32) &&& 31)).toInt64)), .second, .val (.long mm), .second, .val (.int (p3 &&& (3 : Int32))), .val (.int (((p3.toUInt32 >>> ((2 : Int32) &&& 31).toUInt32).toInt32) &&& (7 : Int32))), .val (.long (((4 : Int64) * mm) <<< ((((p3.toUInt32 >>> ((2 : Int32) &&& 31).toUInt32).toInt32) &&& (7 : Int32)) &&& 0x3f).toInt64)), .second, .val (.long ((((((p1 >>> ((10 : Int32) &&& 31)).toInt64) * (4 : Int64)) * mm) + (((p3 &&& (3 : Int32)).toInt64) * mm)) <<< ((((p3.toUInt32 >>> ((2 : Int32) &&& 31).toUInt32).toInt32) &&& (7 : Int32)) &&& 0x3f).toInt64)), .second, .val (.ref b1), .unset, .unset, .unset, .unset] [])
    obtain ⟨T9, h9, X9, e9, E9, A9, D9, -, st9⟩ := newO X4 hx hZ hown (hw _ (List.mem_of_getElem? (i := 1) rfl)) (hw _ (List.mem_of_getElem? (i := 2) rfl)) (hw _ (List.mem_of_getElem? (i := 3) rfl)) rfl (g := (mkF m 80 #[.val (.int p1), .val (.int p2), .val (.int p3), .val (.long q4), .second, .val (.long q5), .second, .val (.long ((p1 >>> ((10 : Int32) &&& 31)).toInt64)), .second, .val (.long mm), .second, .val (.int (p3 &&& (3 : Int32))), .val (.int (((p3.toUInt32 >>> ((2 : Int32) &&& 31).toUInt32).toInt32) &&& (7 : Int32))), .val (.long (((4 : Int64) * mm) <<< ((((p3.toUInt32 >>> ((2 : Int32) &&& 31).toUInt32).toInt32) &&& (7 : Int32)) &&& 0x3f).toInt64)), .second, .val (.long ((((((p1 >>> ((10 : Int32) &&& 31)).toInt64) * (4 : Int64)) * mm) + (((p3 &&& (3 : Int32)).toInt64) * mm)) <<< ((((p3.toUInt32 >>> ((2 : Int32) &&& 31).toUInt32).toInt32) &&& (7 : Int32)) &&& 0x3f).toInt64)), .second, .val (.ref b1), .unset, .unset, .unset, .unset] [])) rfl (hb hby at_80) (by decide) (by decide)
    obtain ⟨b9, g9⟩ : ∃ z, z = T4.heap.size := ⟨_, rfl⟩
    rw [← g9] at A9 D9 st9
    have F10 : Fld Z h9 b9 "com/example/dependency_container/dependencycontainer/benchmark/StartupBenchmark$Run" "wallNanos" "J" (.long (0 : Int64)) := D9 (Or.inr (hw _ (List.mem_of_getElem? (i := 11) rfl))) (ty := .long) (by decide)
    have F11 : Fld Z h9 b9 "com/example/dependency_container/dependencycontainer/benchmark/StartupBenchmark$Run" "peakKilobytes" "J" (.long (0 : Int64)) := D9 (Or.inr (hw _ (List.mem_of_getElem? (i := 13) rfl))) (ty := .long) (by decide)
    refine own_via (fun _ k => st9 _ k) ?_
    show own_Fin _ _ _ _ _ _ _ T9 (mkF m 83 #[.val (.int p1), .val (.int p2), .val (.int p3), .val (.long q4), .second, .val (.long q5), .second, .val (.long ((p1 >>> ((10 : Int32) &&& 31)).toInt64)), .second, .val (.long mm), .second, .val (.int (p3 &&& (3 : Int32))), .val (.int (((p3.toUInt32 >>> ((2 : Int32) &&& 31).toUInt32).toInt32) &&& (7 : Int32))), .val (.long (((4 : Int64) * mm) <<< ((((p3.toUInt32 >>> ((2 : Int32) &&& 31).toUInt32).toInt32) &&& (7 : Int32)) &&& 0x3f).toInt64)), .second, .val (.long ((((((p1 >>> ((10 : Int32) &&& 31)).toInt64) * (4 : Int64)) * mm) + (((p3 &&& (3 : Int32)).toInt64) * mm)) <<< ((((p3.toUInt32 >>> ((2 : Int32) &&& 31).toUInt32).toInt32) &&& (7 : Int32)) &&& 0x3f).toInt64)), .second, .val (.ref b1), .unset, .unset, .unset, .unset] [(.ref b9)])
    refine own_via (fun _ k => XS.dup X9.here hx rfl (hb hby at_83) rfl rfl k) ?_
    show own_Fin _ _ _ _ _ _ _ T9 (mkF m 84 #[.val (.int p1), .val (.int p2), .val (.int p3), .val (.long q4), .second, .val (.long q5), .second, .val (.long ((p1 >>> ((10 : Int32) &&& 31)).toInt64)), .second, .val (.long mm), .second, .val (.int (p3 &&& (3 : Int32))), .val (.int (((p3.toUInt32 >>> ((2 : Int32) &&& 31).toUInt32).toInt32) &&& (7 : Int32))), .val (.long (((4 : Int64) * mm) <<< ((((p3.toUInt32 >>> ((2 : Int32) &&& 31).toUInt32).toInt32) &&& (7 : Int32)) &&& 0x3f).toInt64)), .second, .val (.long ((((((p1 >>> ((10 : Int32) &&& 31)).toInt64) * (4 : Int64)) * mm) + (((p3 &&& (3 : Int32)).toInt64) * mm)) <<< ((((p3.toUInt32 >>> ((2 : Int32) &&& 31).toUInt32).toInt32) &&& (7 : Int32)) &&& 0x3f).toInt64)), .second, .val (.ref b1), .unset, .unset, .unset, .unset] [(.ref b9), (.ref b9)])
    refine own_via (fun _ k => XS.lload X9.here hx rfl (hb hby at_84) rfl k) ?_
    show own_Fin _ _ _ _ _ _ _ T9 (mkF m 86 #[.val (.int p1), .val (.int p2), .val (.int p3), .val (.long q4), .second, .val (.long q5), .second, .val (.long ((p1 >>> ((10 : Int32) &&& 31)).toInt64)), .second, .val (.long mm), .second, .val (.int (p3 &&& (3 : Int32))), .val (.int (((p3.toUInt32 >>> ((2 : Int32) &&& 31).toUInt32).toInt32) &&& (7 : Int32))), .val (.long (((4 : Int64) * mm) <<< ((((p3.toUInt32 >>> ((2 : Int32) &&& 31).toUInt32).toInt32) &&& (7 : Int32)) &&& 0x3f).toInt64)), .second, .val (.long ((((((p1 >>> ((10 : Int32) &&& 31)).toInt64) * (4 : Int64)) * mm) + (((p3 &&& (3 : Int32)).toInt64) * mm)) <<< ((((p3.toUInt32 >>> ((2 : Int32) &&& 31).toUInt32).toInt32) &&& (7 : Int32)) &&& 0x3f).toInt64)), .second, .val (.ref b1), .unset, .unset, .unset, .unset] [(.long (((4 : Int64) * mm) <<< ((((p3.toUInt32 >>> ((2 : Int32) &&& 31).toUInt32).toInt32) &&& (7 : Int32)) &&& 0x3f).toInt64)), (.ref b9), (.ref b9)])
    refine own_via (fun _ k => XS.lload X9.here hx rfl (hb hby at_86) rfl k) ?_
    show own_Fin _ _ _ _ _ _ _ T9 (mkF m 88 #[.val (.int p1), .val (.int p2), .val (.int p3), .val (.long q4), .second, .val (.long q5), .second, .val (.long ((p1 >>> ((10 : Int32) &&& 31)).toInt64)), .second, .val (.long mm), .second, .val (.int (p3 &&& (3 : Int32))), .val (.int (((p3.toUInt32 >>> ((2 : Int32) &&& 31).toUInt32).toInt32) &&& (7 : Int32))), .val (.long (((4 : Int64) * mm) <<< ((((p3.toUInt32 >>> ((2 : Int32) &&& 31).toUInt32).toInt32) &&& (7 : Int32)) &&& 0x3f).toInt64)), .second, .val (.long ((((((p1 >>> ((10 : Int32) &&& 31)).toInt64) * (4 : Int64)) * mm) + (((p3 &&& (3 : Int32)).toInt64) * mm)) <<< ((((p3.toUInt32 >>> ((2 : Int32) &&& 31).toUInt32).toInt32) &&& (7 : Int32)) &&& 0x3f).toInt64)), .second, .val (.ref b1), .unset, .unset, .unset, .unset] [(.long q5), (.long (((4 : Int64) * mm) <<< ((((p3.toUInt32 >>> ((2 : Int32) &&& 31).toUInt32).toInt32) &&& (7 : Int32)) &&& 0x3f).toInt64)), (.ref b9), (.ref b9)])
    have g13 : n0 ≤ b9 := Nat.le_trans (Nat.le_trans Z0 (Nat.le_trans E1.1 K4.1)) (Nat.le_of_eq g9.symm)
    obtain ⟨_, _, ⟨T12, L12, k12, n12⟩, -, X12, ⟨Lc12, hQ12, l12, y12, z12⟩, st12⟩ := X9.specialBack hx (y := (⟨"com/example/dependency_container/dependencycontainer/benchmark/StartupBenchmark$Run", "<init>", "(JJ)V"⟩ : MethodName)) rfl hown (mvT hZ (hw _ (List.mem_of_getElem? (i := 4) rfl))) (mvT hZ (hw _ (List.mem_of_getElem? (i := 5) rfl))) (mvT hZ (hw _ (List.mem_of_getElem? (i := 6) rfl))) (by decide) (backOf (W := 1) (own_rm_runInit l Z a0 hw [] b9 (((4 : Int64) * mm) <<< ((((p3.toUInt32 >>> ((2 : Int32) &&& 31).toUInt32).toInt32) &&& (7 : Int32)) &&& 0x3f).toInt64) q5 (.long (0 : Int64)) (.long (0 : Int64)) h9 n0 (Nat.le_trans Z0 (Nat.le_trans (Nat.le_trans E1.1 K4.1) E9.1)) A9 F10 F11 g13) hZ (hw _ (List.mem_of_getElem? (i := 6) rfl)) (hw _ (List.mem_of_getElem? (i := 3) rfl)) (by decide) (by decide)) (g := (mkF m 88 #[.val (.int p1), .val (.int p2), .val (.int p3), .val (.long q4), .second, .val (.long q5), .second, .val (.long ((p1 >>> ((10 : Int32) &&& 31)).toInt64)), .second, .val (.long mm), .second, .val (.int (p3 &&& (3 : Int32))), .val (.int (((p3.toUInt32 >>> ((2 : Int32) &&& 31).toUInt32).toInt32) &&& (7 : Int32))), .val (.long (((4 : Int64) * mm) <<< ((((p3.toUInt32 >>> ((2 : Int32) &&& 31).toUInt32).toInt32) &&& (7 : Int32)) &&& 0x3f).toInt64)), .second, .val (.long ((((((p1 >>> ((10 : Int32) &&& 31)).toInt64) * (4 : Int64)) * mm) + (((p3 &&& (3 : Int32)).toInt64) * mm)) <<< ((((p3.toUInt32 >>> ((2 : Int32) &&& 31).toUInt32).toInt32) &&& (7 : Int32)) &&& 0x3f).toInt64)), .second, .val (.ref b1), .unset, .unset, .unset, .unset] [(.long q5), (.long (((4 : Int64) * mm) <<< ((((p3.toUInt32 >>> ((2 : Int32) &&& 31).toUInt32).toInt32) &&& (7 : Int32)) &&& 0x3f).toInt64)), (.ref b9), (.ref b9)])) rfl (by rw [hml]; rfl) (Steps.refl _) (a := b9) (argsL := [(.long (((4 : Int64) * mm) <<< ((((p3.toUInt32 >>> ((2 : Int32) &&& 31).toUInt32).toInt32) &&& (7 : Int32)) &&& 0x3f).toInt64)), (.long q5)]) (rest := [(.ref b9)]) (lenOf own_pd0 rfl) rfl (by show 2 * 0 + _ ≤ _; exact Nat.le_of_eq rfl) (hb hby at_88) (fun _ _ => ⟨rfl, e9, (by decide : 0 + 1 + 0 + 1 + 0 ≤ _), (by decide : 0 + 2 + 0 + 2 + 0 ≤ _)⟩)
    dsimp only [Pt.U, Pt.locs, Pt.cells, Pt.slots] at X12 l12 y12 z12 st12 hQ12
    subst l12 y12 z12
    obtain ⟨rfl, Nq12, K12, r14, r15, r16⟩ := hQ12
    have N12 := Fr.app N4 Nq12
    refine own_via (fun _ k => st12.trans k) ?_
    show own_Fin _ _ _ _ _ _ _ T12 (mkF m 91 #[.val (.int p1), .val (.int p2), .val (.int p3), .val (.long q4), .second, .val (.long q5), .second, .val (.long ((p1 >>> ((10 : Int32) &&& 31)).toInt64)), .second, .val (.long mm), .second, .val (.int (p3 &&& (3 : Int32))), .val (.int (((p3.toUInt32 >>> ((2 : Int32) &&& 31).toUInt32).toInt32) &&& (7 : Int32))), .val (.long (((4 : Int64) * mm) <<< ((((p3.toUInt32 >>> ((2 : Int32) &&& 31).toUInt32).toInt32) &&& (7 : Int32)) &&& 0x3f).toInt64)), .second, .val (.long ((((((p1 >>> ((10 : Int32) &&& 31)).toInt64) * (4 : Int64)) * mm) + (((p3 &&& (3 : Int32)).toInt64) * mm)) <<< ((((p3.toUInt32 >>> ((2 : Int32) &&& 31).toUInt32).toInt32) &&& (7 : Int32)) &&& 0x3f).toInt64)), .second, .val (.ref b1), .unset, .unset, .unset, .unset] [(.ref b9)])
    refine own_via (fun _ k => XS.astore X12.here hx rfl (hb hby at_91) rfl rfl (l' := #[.val (.int p1), .val (.int p2), .val (.int p3), .val (.long q4), .second, .val (.long q5), .second, .val (.long ((p1 >>> ((10 : Int32) &&& 31)).toInt64)), .second, .val (.long mm), .second, .val (.int (p3 &&& (3 : Int32))), .val (.int (((p3.toUInt32 >>> ((2 : Int32) &&& 31).toUInt32).toInt32) &&& (7 : Int32))), .val (.long (((4 : Int64) * mm) <<< ((((p3.toUInt32 >>> ((2 : Int32) &&& 31).toUInt32).toInt32) &&& (7 : Int32)) &&& 0x3f).toInt64)), .second, .val (.long ((((((p1 >>> ((10 : Int32) &&& 31)).toInt64) * (4 : Int64)) * mm) + (((p3 &&& (3 : Int32)).toInt64) * mm)) <<< ((((p3.toUInt32 >>> ((2 : Int32) &&& 31).toUInt32).toInt32) &&& (7 : Int32)) &&& 0x3f).toInt64)), .second, .val (.ref b1), .val (.ref b9), .unset, .unset, .unset]) rfl k) ?_
    show own_Fin _ _ _ _ _ _ _ T12 (mkF m 93 #[.val (.int p1), .val (.int p2), .val (.int p3), .val (.long q4), .second, .val (.long q5), .second, .val (.long ((p1 >>> ((10 : Int32) &&& 31)).toInt64)), .second, .val (.long mm), .second, .val (.int (p3 &&& (3 : Int32))), .val (.int (((p3.toUInt32 >>> ((2 : Int32) &&& 31).toUInt32).toInt32) &&& (7 : Int32))), .val (.long (((4 : Int64) * mm) <<< ((((p3.toUInt32 >>> ((2 : Int32) &&& 31).toUInt32).toInt32) &&& (7 : Int32)) &&& 0x3f).toInt64)), .second, .val (.long ((((((p1 >>> ((10 : Int32) &&& 31)).toInt64) * (4 : Int64)) * mm) + (((p3 &&& (3 : Int32)).toInt64) * mm)) <<< ((((p3.toUInt32 >>> ((2 : Int32) &&& 31).toUInt32).toInt32) &&& (7 : Int32)) &&& 0x3f).toInt64)), .second, .val (.ref b1), .val (.ref b9), .unset, .unset, .unset] [])
    obtain ⟨T17, h17, X17, e17, E17, A17, D17, -, st17⟩ := newO X12 hx hZ hown (hw _ (List.mem_of_getElem? (i := 14) rfl)) (hw _ (List.mem_of_getElem? (i := 15) rfl)) (hw _ (List.mem_of_getElem? (i := 16) rfl)) rfl (g := (mkF m 93 #[.val (.int p1), .val (.int p2), .val (.int p3), .val (.long q4), .second, .val (.long q5), .second, .val (.long ((p1 >>> ((10 : Int32) &&& 31)).toInt64)), .second, .val (.long mm), .second, .val (.int (p3 &&& (3 : Int32))), .val (.int (((p3.toUInt32 >>> ((2 : Int32) &&& 31).toUInt32).toInt32) &&& (7 : Int32))), .val (.long (((4 : Int64) * mm) <<< ((((p3.toUInt32 >>> ((2 : Int32) &&& 31).toUInt32).toInt32) &&& (7 : Int32)) &&& 0x3f).toInt64)), .second, .val (.long ((((((p1 >>> ((10 : Int32) &&& 31)).toInt64) * (4 : Int64)) * mm) + (((p3 &&& (3 : Int32)).toInt64) * mm)) <<< ((((p3.toUInt32 >>> ((2 : Int32) &&& 31).toUInt32).toInt32) &&& (7 : Int32)) &&& 0x3f).toInt64)), .second, .val (.ref b1), .val (.ref b9), .unset, .unset, .unset] [])) rfl (hb hby at_93) (by decide) (by decide)
    obtain ⟨b17, g17⟩ : ∃ z, z = T12.heap.size := ⟨_, rfl⟩
    rw [← g17] at A17 D17 st17
    have F18 : Fld Z h17 b17 "com/example/dependency_container/dependencycontainer/benchmark/StartupBenchmark$Pair" "container" "Lcom/example/dependency_container/dependencycontainer/benchmark/StartupBenchmark$Run;" .null := D17 (Or.inr (hw _ (List.mem_of_getElem? (i := 22) rfl))) (ty := (.object "com/example/dependency_container/dependencycontainer/benchmark/StartupBenchmark$Run")) (by decide)
    have F19 : Fld Z h17 b17 "com/example/dependency_container/dependencycontainer/benchmark/StartupBenchmark$Pair" "parse" "Lcom/example/dependency_container/dependencycontainer/benchmark/StartupBenchmark$Run;" .null := D17 (Or.inr (hw _ (List.mem_of_getElem? (i := 24) rfl))) (ty := (.object "com/example/dependency_container/dependencycontainer/benchmark/StartupBenchmark$Run")) (by decide)
    refine own_via (fun _ k => st17 _ k) ?_
    show own_Fin _ _ _ _ _ _ _ T17 (mkF m 96 #[.val (.int p1), .val (.int p2), .val (.int p3), .val (.long q4), .second, .val (.long q5), .second, .val (.long ((p1 >>> ((10 : Int32) &&& 31)).toInt64)), .second, .val (.long mm), .second, .val (.int (p3 &&& (3 : Int32))), .val (.int (((p3.toUInt32 >>> ((2 : Int32) &&& 31).toUInt32).toInt32) &&& (7 : Int32))), .val (.long (((4 : Int64) * mm) <<< ((((p3.toUInt32 >>> ((2 : Int32) &&& 31).toUInt32).toInt32) &&& (7 : Int32)) &&& 0x3f).toInt64)), .second, .val (.long ((((((p1 >>> ((10 : Int32) &&& 31)).toInt64) * (4 : Int64)) * mm) + (((p3 &&& (3 : Int32)).toInt64) * mm)) <<< ((((p3.toUInt32 >>> ((2 : Int32) &&& 31).toUInt32).toInt32) &&& (7 : Int32)) &&& 0x3f).toInt64)), .second, .val (.ref b1), .val (.ref b9), .unset, .unset, .unset] [(.ref b17)])
    refine own_via (fun _ k => XS.dup X17.here hx rfl (hb hby at_96) rfl rfl k) ?_
    show own_Fin _ _ _ _ _ _ _ T17 (mkF m 97 #[.val (.int p1), .val (.int p2), .val (.int p3), .val (.long q4), .second, .val (.long q5), .second, .val (.long ((p1 >>> ((10 : Int32) &&& 31)).toInt64)), .second, .val (.long mm), .second, .val (.int (p3 &&& (3 : Int32))), .val (.int (((p3.toUInt32 >>> ((2 : Int32) &&& 31).toUInt32).toInt32) &&& (7 : Int32))), .val (.long (((4 : Int64) * mm) <<< ((((p3.toUInt32 >>> ((2 : Int32) &&& 31).toUInt32).toInt32) &&& (7 : Int32)) &&& 0x3f).toInt64)), .second, .val (.long ((((((p1 >>> ((10 : Int32) &&& 31)).toInt64) * (4 : Int64)) * mm) + (((p3 &&& (3 : Int32)).toInt64) * mm)) <<< ((((p3.toUInt32 >>> ((2 : Int32) &&& 31).toUInt32).toInt32) &&& (7 : Int32)) &&& 0x3f).toInt64)), .second, .val (.ref b1), .val (.ref b9), .unset, .unset, .unset] [(.ref b17), (.ref b17)])
    refine own_via (fun _ k => XS.aload X17.here hx rfl (hb hby at_97) rfl rfl k) ?_
    show own_Fin _ _ _ _ _ _ _ T17 (mkF m 99 #[.val (.int p1), .val (.int p2), .val (.int p3), .val (.long q4), .second, .val (.long q5), .second, .val (.long ((p1 >>> ((10 : Int32) &&& 31)).toInt64)), .second, .val (.long mm), .second, .val (.int (p3 &&& (3 : Int32))), .val (.int (((p3.toUInt32 >>> ((2 : Int32) &&& 31).toUInt32).toInt32) &&& (7 : Int32))), .val (.long (((4 : Int64) * mm) <<< ((((p3.toUInt32 >>> ((2 : Int32) &&& 31).toUInt32).toInt32) &&& (7 : Int32)) &&& 0x3f).toInt64)), .second, .val (.long ((((((p1 >>> ((10 : Int32) &&& 31)).toInt64) * (4 : Int64)) * mm) + (((p3 &&& (3 : Int32)).toInt64) * mm)) <<< ((((p3.toUInt32 >>> ((2 : Int32) &&& 31).toUInt32).toInt32) &&& (7 : Int32)) &&& 0x3f).toInt64)), .second, .val (.ref b1), .val (.ref b9), .unset, .unset, .unset] [(.ref b1), (.ref b17), (.ref b17)])
    refine own_via (fun _ k => XS.aload X17.here hx rfl (hb hby at_99) rfl rfl k) ?_
    show own_Fin _ _ _ _ _ _ _ T17 (mkF m 101 #[.val (.int p1), .val (.int p2), .val (.int p3), .val (.long q4), .second, .val (.long q5), .second, .val (.long ((p1 >>> ((10 : Int32) &&& 31)).toInt64)), .second, .val (.long mm), .second, .val (.int (p3 &&& (3 : Int32))), .val (.int (((p3.toUInt32 >>> ((2 : Int32) &&& 31).toUInt32).toInt32) &&& (7 : Int32))), .val (.long (((4 : Int64) * mm) <<< ((((p3.toUInt32 >>> ((2 : Int32) &&& 31).toUInt32).toInt32) &&& (7 : Int32)) &&& 0x3f).toInt64)), .second, .val (.long ((((((p1 >>> ((10 : Int32) &&& 31)).toInt64) * (4 : Int64)) * mm) + (((p3 &&& (3 : Int32)).toInt64) * mm)) <<< ((((p3.toUInt32 >>> ((2 : Int32) &&& 31).toUInt32).toInt32) &&& (7 : Int32)) &&& 0x3f).toInt64)), .second, .val (.ref b1), .val (.ref b9), .unset, .unset, .unset] [(.ref b9), (.ref b1), (.ref b17), (.ref b17)])
    have g21 : n0 ≤ b17 := Nat.le_trans (Nat.le_trans Z0 (Nat.le_trans (Nat.le_trans (Nat.le_trans E1.1 K4.1) E9.1) K12.1)) (Nat.le_of_eq g17.symm)
    obtain ⟨_, _, ⟨T20, L20, k20, n20⟩, -, X20, ⟨Lc20, hQ20, l20, y20, z20⟩, st20⟩ := X17.specialBack hx (y := (⟨"com/example/dependency_container/dependencycontainer/benchmark/StartupBenchmark$Pair", "<init>", "(Lcom/example/dependency_container/dependencycontainer/benchmark/StartupBenchmark$Run;Lcom/example/dependency_container/dependencycontainer/benchmark/StartupBenchmark$Run;)V"⟩ : MethodName)) rfl hown (mvT hZ (hw _ (List.mem_of_getElem? (i := 17) rfl))) (mvT hZ (hw _ (List.mem_of_getElem? (i := 18) rfl))) (mvT hZ (hw _ (List.mem_of_getElem? (i := 19) rfl))) (by decide) (backOf (W := 1) (own_rm_pairInit l Z a0 hw [] b17 b1 b9 .null .null h17 n0 (Nat.le_trans Z0 (Nat.le_trans (Nat.le_trans (Nat.le_trans (Nat.le_trans E1.1 K4.1) E9.1) K12.1) E17.1)) A17 F18 F19 g21) hZ (hw _ (List.mem_of_getElem? (i := 19) rfl)) (hw _ (List.mem_of_getElem? (i := 16) rfl)) (by decide) (by decide)) (g := (mkF m 101 #[.val (.int p1), .val (.int p2), .val (.int p3), .val (.long q4), .second, .val (.long q5), .second, .val (.long ((p1 >>> ((10 : Int32) &&& 31)).toInt64)), .second, .val (.long mm), .second, .val (.int (p3 &&& (3 : Int32))), .val (.int (((p3.toUInt32 >>> ((2 : Int32) &&& 31).toUInt32).toInt32) &&& (7 : Int32))), .val (.long (((4 : Int64) * mm) <<< ((((p3.toUInt32 >>> ((2 : Int32) &&& 31).toUInt32).toInt32) &&& (7 : Int32)) &&& 0x3f).toInt64)), .second, .val (.long ((((((p1 >>> ((10 : Int32) &&& 31)).toInt64) * (4 : Int64)) * mm) + (((p3 &&& (3 : Int32)).toInt64) * mm)) <<< ((((p3.toUInt32 >>> ((2 : Int32) &&& 31).toUInt32).toInt32) &&& (7 : Int32)) &&& 0x3f).toInt64)), .second, .val (.ref b1), .val (.ref b9), .unset, .unset, .unset] [(.ref b9), (.ref b1), (.ref b17), (.ref b17)])) rfl (by rw [hml]; rfl) (Steps.refl _) (a := b17) (argsL := [(.ref b1), (.ref b9)]) (rest := [(.ref b17)]) (lenOf own_pd1 rfl) rfl (by show 2 * 0 + _ ≤ _; exact Nat.le_of_eq rfl) (hb hby at_101) (fun _ _ => ⟨rfl, e17, (by decide : 0 + 1 + 0 + 1 + 0 + 1 + 0 ≤ _), (by decide : 0 + 2 + 0 + 2 + 0 + 2 + 0 ≤ _)⟩)
    dsimp only [Pt.U, Pt.locs, Pt.cells, Pt.slots] at X20 l20 y20 z20 st20 hQ20
    subst l20 y20 z20
    obtain ⟨rfl, Nq20, K20, r22, r23, r24⟩ := hQ20
    have N20 := Fr.app N12 Nq20
    refine own_via (fun _ k => st20.trans k) ?_
    show own_Fin _ _ _ _ _ _ _ T20 (mkF m 104 #[.val (.int p1), .val (.int p2), .val (.int p3), .val (.long q4), .second, .val (.long q5), .second, .val (.long ((p1 >>> ((10 : Int32) &&& 31)).toInt64)), .second, .val (.long mm), .second, .val (.int (p3 &&& (3 : Int32))), .val (.int (((p3.toUInt32 >>> ((2 : Int32) &&& 31).toUInt32).toInt32) &&& (7 : Int32))), .val (.long (((4 : Int64) * mm) <<< ((((p3.toUInt32 >>> ((2 : Int32) &&& 31).toUInt32).toInt32) &&& (7 : Int32)) &&& 0x3f).toInt64)), .second, .val (.long ((((((p1 >>> ((10 : Int32) &&& 31)).toInt64) * (4 : Int64)) * mm) + (((p3 &&& (3 : Int32)).toInt64) * mm)) <<< ((((p3.toUInt32 >>> ((2 : Int32) &&& 31).toUInt32).toInt32) &&& (7 : Int32)) &&& 0x3f).toInt64)), .second, .val (.ref b1), .val (.ref b9), .unset, .unset, .unset] [(.ref b17)])
    refine own_via (fun _ k => XS.astore X20.here hx rfl (hb hby at_104) rfl rfl (l' := #[.val (.int p1), .val (.int p2), .val (.int p3), .val (.long q4), .second, .val (.long q5), .second, .val (.long ((p1 >>> ((10 : Int32) &&& 31)).toInt64)), .second, .val (.long mm), .second, .val (.int (p3 &&& (3 : Int32))), .val (.int (((p3.toUInt32 >>> ((2 : Int32) &&& 31).toUInt32).toInt32) &&& (7 : Int32))), .val (.long (((4 : Int64) * mm) <<< ((((p3.toUInt32 >>> ((2 : Int32) &&& 31).toUInt32).toInt32) &&& (7 : Int32)) &&& 0x3f).toInt64)), .second, .val (.long ((((((p1 >>> ((10 : Int32) &&& 31)).toInt64) * (4 : Int64)) * mm) + (((p3 &&& (3 : Int32)).toInt64) * mm)) <<< ((((p3.toUInt32 >>> ((2 : Int32) &&& 31).toUInt32).toInt32) &&& (7 : Int32)) &&& 0x3f).toInt64)), .second, .val (.ref b1), .val (.ref b9), .val (.ref b17), .unset, .unset]) rfl k) ?_
    show own_Fin _ _ _ _ _ _ _ T20 (mkF m 106 #[.val (.int p1), .val (.int p2), .val (.int p3), .val (.long q4), .second, .val (.long q5), .second, .val (.long ((p1 >>> ((10 : Int32) &&& 31)).toInt64)), .second, .val (.long mm), .second, .val (.int (p3 &&& (3 : Int32))), .val (.int (((p3.toUInt32 >>> ((2 : Int32) &&& 31).toUInt32).toInt32) &&& (7 : Int32))), .val (.long (((4 : Int64) * mm) <<< ((((p3.toUInt32 >>> ((2 : Int32) &&& 31).toUInt32).toInt32) &&& (7 : Int32)) &&& 0x3f).toInt64)), .second, .val (.long ((((((p1 >>> ((10 : Int32) &&& 31)).toInt64) * (4 : Int64)) * mm) + (((p3 &&& (3 : Int32)).toInt64) * mm)) <<< ((((p3.toUInt32 >>> ((2 : Int32) &&& 31).toUInt32).toInt32) &&& (7 : Int32)) &&& 0x3f).toInt64)), .second, .val (.ref b1), .val (.ref b9), .val (.ref b17), .unset, .unset] [])
    refine own_via (fun _ k => XS.lload X20.here hx rfl (hb hby at_106) rfl k) ?_
    show own_Fin _ _ _ _ _ _ _ T20 (mkF m 108 #[.val (.int p1), .val (.int p2), .val (.int p3), .val (.long q4), .second, .val (.long q5), .second, .val (.long ((p1 >>> ((10 : Int32) &&& 31)).toInt64)), .second, .val (.long mm), .second, .val (.int (p3 &&& (3 : Int32))), .val (.int (((p3.toUInt32 >>> ((2 : Int32) &&& 31).toUInt32).toInt32) &&& (7 : Int32))), .val (.long (((4 : Int64) * mm) <<< ((((p3.toUInt32 >>> ((2 : Int32) &&& 31).toUInt32).toInt32) &&& (7 : Int32)) &&& 0x3f).toInt64)), .second, .val (.long ((((((p1 >>> ((10 : Int32) &&& 31)).toInt64) * (4 : Int64)) * mm) + (((p3 &&& (3 : Int32)).toInt64) * mm)) <<< ((((p3.toUInt32 >>> ((2 : Int32) &&& 31).toUInt32).toInt32) &&& (7 : Int32)) &&& 0x3f).toInt64)), .second, .val (.ref b1), .val (.ref b9), .val (.ref b17), .unset, .unset] [(.long ((p1 >>> ((10 : Int32) &&& 31)).toInt64))])
    refine own_via (fun _ k => XS.l2dS X20.here hx rfl (hb hby at_108) rfl rfl k) ?_
    show own_Fin _ _ _ _ _ _ _ T20 (mkF m 109 #[.val (.int p1), .val (.int p2), .val (.int p3), .val (.long q4), .second, .val (.long q5), .second, .val (.long ((p1 >>> ((10 : Int32) &&& 31)).toInt64)), .second, .val (.long mm), .second, .val (.int (p3 &&& (3 : Int32))), .val (.int (((p3.toUInt32 >>> ((2 : Int32) &&& 31).toUInt32).toInt32) &&& (7 : Int32))), .val (.long (((4 : Int64) * mm) <<< ((((p3.toUInt32 >>> ((2 : Int32) &&& 31).toUInt32).toInt32) &&& (7 : Int32)) &&& 0x3f).toInt64)), .second, .val (.long ((((((p1 >>> ((10 : Int32) &&& 31)).toInt64) * (4 : Int64)) * mm) + (((p3 &&& (3 : Int32)).toInt64) * mm)) <<< ((((p3.toUInt32 >>> ((2 : Int32) &&& 31).toUInt32).toInt32) &&& (7 : Int32)) &&& 0x3f).toInt64)), .second, .val (.ref b1), .val (.ref b9), .val (.ref b17), .unset, .unset] [(.double (FP.l2d ((p1 >>> ((10 : Int32) &&& 31)).toInt64)))])
    refine own_via (fun _ k => XS.iload X20.here hx rfl (hb hby at_109) rfl k) ?_
    show own_Fin _ _ _ _ _ _ _ T20 (mkF m 111 #[.val (.int p1), .val (.int p2), .val (.int p3), .val (.long q4), .second, .val (.long q5), .second, .val (.long ((p1 >>> ((10 : Int32) &&& 31)).toInt64)), .second, .val (.long mm), .second, .val (.int (p3 &&& (3 : Int32))), .val (.int (((p3.toUInt32 >>> ((2 : Int32) &&& 31).toUInt32).toInt32) &&& (7 : Int32))), .val (.long (((4 : Int64) * mm) <<< ((((p3.toUInt32 >>> ((2 : Int32) &&& 31).toUInt32).toInt32) &&& (7 : Int32)) &&& 0x3f).toInt64)), .second, .val (.long ((((((p1 >>> ((10 : Int32) &&& 31)).toInt64) * (4 : Int64)) * mm) + (((p3 &&& (3 : Int32)).toInt64) * mm)) <<< ((((p3.toUInt32 >>> ((2 : Int32) &&& 31).toUInt32).toInt32) &&& (7 : Int32)) &&& 0x3f).toInt64)), .second, .val (.ref b1), .val (.ref b9), .val (.ref b17), .unset, .unset] [(.int (p3 &&& (3 : Int32))), (.double (FP.l2d ((p1 >>> ((10 : Int32) &&& 31)).toInt64)))])
    refine own_via (fun _ k => XS.i2dS X20.here hx rfl (hb hby at_111) rfl rfl k) ?_
    show own_Fin _ _ _ _ _ _ _ T20 (mkF m 112 #[.val (.int p1), .val (.int p2), .val (.int p3), .val (.long q4), .second, .val (.long q5), .second, .val (.long ((p1 >>> ((10 : Int32) &&& 31)).toInt64)), .second, .val (.long mm), .second, .val (.int (p3 &&& (3 : Int32))), .val (.int (((p3.toUInt32 >>> ((2 : Int32) &&& 31).toUInt32).toInt32) &&& (7 : Int32))), .val (.long (((4 : Int64) * mm) <<< ((((p3.toUInt32 >>> ((2 : Int32) &&& 31).toUInt32).toInt32) &&& (7 : Int32)) &&& 0x3f).toInt64)), .second, .val (.long ((((((p1 >>> ((10 : Int32) &&& 31)).toInt64) * (4 : Int64)) * mm) + (((p3 &&& (3 : Int32)).toInt64) * mm)) <<< ((((p3.toUInt32 >>> ((2 : Int32) &&& 31).toUInt32).toInt32) &&& (7 : Int32)) &&& 0x3f).toInt64)), .second, .val (.ref b1), .val (.ref b9), .val (.ref b17), .unset, .unset] [(.double (FP.i2d (p3 &&& (3 : Int32)))), (.double (FP.l2d ((p1 >>> ((10 : Int32) &&& 31)).toInt64)))])
    refine own_via (fun _ k => X20.ldc2DoubleC hx hown (mvT hZ (hw _ (List.mem_of_getElem? (i := 25) rfl))) (g := (mkF m 112 #[.val (.int p1), .val (.int p2), .val (.int p3), .val (.long q4), .second, .val (.long q5), .second, .val (.long ((p1 >>> ((10 : Int32) &&& 31)).toInt64)), .second, .val (.long mm), .second, .val (.int (p3 &&& (3 : Int32))), .val (.int (((p3.toUInt32 >>> ((2 : Int32) &&& 31).toUInt32).toInt32) &&& (7 : Int32))), .val (.long (((4 : Int64) * mm) <<< ((((p3.toUInt32 >>> ((2 : Int32) &&& 31).toUInt32).toInt32) &&& (7 : Int32)) &&& 0x3f).toInt64)), .second, .val (.long ((((((p1 >>> ((10 : Int32) &&& 31)).toInt64) * (4 : Int64)) * mm) + (((p3 &&& (3 : Int32)).toInt64) * mm)) <<< ((((p3.toUInt32 >>> ((2 : Int32) &&& 31).toUInt32).toInt32) &&& (7 : Int32)) &&& 0x3f).toInt64)), .second, .val (.ref b1), .val (.ref b9), .val (.ref b17), .unset, .unset] [(.double (FP.i2d (p3 &&& (3 : Int32)))), (.double (FP.l2d ((p1 >>> ((10 : Int32) &&& 31)).toInt64)))])) rfl (hb hby at_112) _ k) ?_
    show own_Fin _ _ _ _ _ _ _ T20 (mkF m 115 #[.val (.int p1), .val (.int p2), .val (.int p3), .val (.long q4), .second, .val (.long q5), .second, .val (.long ((p1 >>> ((10 : Int32) &&& 31)).toInt64)), .second, .val (.long mm), .second, .val (.int (p3 &&& (3 : Int32))), .val (.int (((p3.toUInt32 >>> ((2 : Int32) &&& 31).toUInt32).toInt32) &&& (7 : Int32))), .val (.long (((4 : Int64) * mm) <<< ((((p3.toUInt32 >>> ((2 : Int32) &&& 31).toUInt32).toInt32) &&& (7 : Int32)) &&& 0x3f).toInt64)), .second, .val (.long ((((((p1 >>> ((10 : Int32) &&& 31)).toInt64) * (4 : Int64)) * mm) + (((p3 &&& (3 : Int32)).toInt64) * mm)) <<< ((((p3.toUInt32 >>> ((2 : Int32) &&& 31).toUInt32).toInt32) &&& (7 : Int32)) &&& 0x3f).toInt64)), .second, .val (.ref b1), .val (.ref b9), .val (.ref b17), .unset, .unset] [(.double (4616189618054758400 : UInt64)), (.double (FP.i2d (p3 &&& (3 : Int32)))), (.double (FP.l2d ((p1 >>> ((10 : Int32) &&& 31)).toInt64)))])
    refine own_via (fun _ k => XS.ddivS X20.here hx rfl (hb hby at_115) rfl (own_nn4 _) rfl k) ?_
    show own_Fin _ _ _ _ _ _ _ T20 (mkF m 116 #[.val (.int p1), .val (.int p2), .val (.int p3), .val (.long q4), .second, .val (.long q5), .second, .val (.long ((p1 >>> ((10 : Int32) &&& 31)).toInt64)), .second, .val (.long mm), .second, .val (.int (p3 &&& (3 : Int32))), .val (.int (((p3.toUInt32 >>> ((2 : Int32) &&& 31).toUInt32).toInt32) &&& (7 : Int32))), .val (.long (((4 : Int64) * mm) <<< ((((p3.toUInt32 >>> ((2 : Int32) &&& 31).toUInt32).toInt32) &&& (7 : Int32)) &&& 0x3f).toInt64)), .second, .val (.long ((((((p1 >>> ((10 : Int32) &&& 31)).toInt64) * (4 : Int64)) * mm) + (((p3 &&& (3 : Int32)).toInt64) * mm)) <<< ((((p3.toUInt32 >>> ((2 : Int32) &&& 31).toUInt32).toInt32) &&& (7 : Int32)) &&& 0x3f).toInt64)), .second, .val (.ref b1), .val (.ref b9), .val (.ref b17), .unset, .unset] [(.double (FP.ddiv (FP.i2d (p3 &&& (3 : Int32))) (4616189618054758400 : UInt64))), (.double (FP.l2d ((p1 >>> ((10 : Int32) &&& 31)).toInt64)))])
    refine own_via (fun _ k => XS.daddS X20.here hx rfl (hb hby at_116) rfl (own_nns _ _) rfl k) ?_
    show own_Fin _ _ _ _ _ _ _ T20 (mkF m 117 #[.val (.int p1), .val (.int p2), .val (.int p3), .val (.long q4), .second, .val (.long q5), .second, .val (.long ((p1 >>> ((10 : Int32) &&& 31)).toInt64)), .second, .val (.long mm), .second, .val (.int (p3 &&& (3 : Int32))), .val (.int (((p3.toUInt32 >>> ((2 : Int32) &&& 31).toUInt32).toInt32) &&& (7 : Int32))), .val (.long (((4 : Int64) * mm) <<< ((((p3.toUInt32 >>> ((2 : Int32) &&& 31).toUInt32).toInt32) &&& (7 : Int32)) &&& 0x3f).toInt64)), .second, .val (.long ((((((p1 >>> ((10 : Int32) &&& 31)).toInt64) * (4 : Int64)) * mm) + (((p3 &&& (3 : Int32)).toInt64) * mm)) <<< ((((p3.toUInt32 >>> ((2 : Int32) &&& 31).toUInt32).toInt32) &&& (7 : Int32)) &&& 0x3f).toInt64)), .second, .val (.ref b1), .val (.ref b9), .val (.ref b17), .unset, .unset] [(.double (FP.dadd (FP.l2d ((p1 >>> ((10 : Int32) &&& 31)).toInt64)) (FP.ddiv (FP.i2d (p3 &&& (3 : Int32))) (4616189618054758400 : UInt64))))])
    refine own_via (fun _ k => XS.dstore X20.here hx rfl (hb hby at_117) rfl (l' := #[.val (.int p1), .val (.int p2), .val (.int p3), .val (.long q4), .second, .val (.long q5), .second, .val (.long ((p1 >>> ((10 : Int32) &&& 31)).toInt64)), .second, .val (.long mm), .second, .val (.int (p3 &&& (3 : Int32))), .val (.int (((p3.toUInt32 >>> ((2 : Int32) &&& 31).toUInt32).toInt32) &&& (7 : Int32))), .val (.long (((4 : Int64) * mm) <<< ((((p3.toUInt32 >>> ((2 : Int32) &&& 31).toUInt32).toInt32) &&& (7 : Int32)) &&& 0x3f).toInt64)), .second, .val (.long ((((((p1 >>> ((10 : Int32) &&& 31)).toInt64) * (4 : Int64)) * mm) + (((p3 &&& (3 : Int32)).toInt64) * mm)) <<< ((((p3.toUInt32 >>> ((2 : Int32) &&& 31).toUInt32).toInt32) &&& (7 : Int32)) &&& 0x3f).toInt64)), .second, .val (.ref b1), .val (.ref b9), .val (.ref b17), .val (.double (FP.dadd (FP.l2d ((p1 >>> ((10 : Int32) &&& 31)).toInt64)) (FP.ddiv (FP.i2d (p3 &&& (3 : Int32))) (4616189618054758400 : UInt64)))), .second]) rfl k) ?_
    show own_Fin _ _ _ _ _ _ _ T20 (mkF m 119 #[.val (.int p1), .val (.int p2), .val (.int p3), .val (.long q4), .second, .val (.long q5), .second, .val (.long ((p1 >>> ((10 : Int32) &&& 31)).toInt64)), .second, .val (.long mm), .second, .val (.int (p3 &&& (3 : Int32))), .val (.int (((p3.toUInt32 >>> ((2 : Int32) &&& 31).toUInt32).toInt32) &&& (7 : Int32))), .val (.long (((4 : Int64) * mm) <<< ((((p3.toUInt32 >>> ((2 : Int32) &&& 31).toUInt32).toInt32) &&& (7 : Int32)) &&& 0x3f).toInt64)), .second, .val (.long ((((((p1 >>> ((10 : Int32) &&& 31)).toInt64) * (4 : Int64)) * mm) + (((p3 &&& (3 : Int32)).toInt64) * mm)) <<< ((((p3.toUInt32 >>> ((2 : Int32) &&& 31).toUInt32).toInt32) &&& (7 : Int32)) &&& 0x3f).toInt64)), .second, .val (.ref b1), .val (.ref b9), .val (.ref b17), .val (.double (FP.dadd (FP.l2d ((p1 >>> ((10 : Int32) &&& 31)).toInt64)) (FP.ddiv (FP.i2d (p3 &&& (3 : Int32))) (4616189618054758400 : UInt64)))), .second] [])
    refine own_via (fun _ k => XS.aload X20.here hx rfl (hb hby at_119) rfl rfl k) ?_
    show own_Fin _ _ _ _ _ _ _ T20 (mkF m 121 #[.val (.int p1), .val (.int p2), .val (.int p3), .val (.long q4), .second, .val (.long q5), .second, .val (.long ((p1 >>> ((10 : Int32) &&& 31)).toInt64)), .second, .val (.long mm), .second, .val (.int (p3 &&& (3 : Int32))), .val (.int (((p3.toUInt32 >>> ((2 : Int32) &&& 31).toUInt32).toInt32) &&& (7 : Int32))), .val (.long (((4 : Int64) * mm) <<< ((((p3.toUInt32 >>> ((2 : Int32) &&& 31).toUInt32).toInt32) &&& (7 : Int32)) &&& 0x3f).toInt64)), .second, .val (.long ((((((p1 >>> ((10 : Int32) &&& 31)).toInt64) * (4 : Int64)) * mm) + (((p3 &&& (3 : Int32)).toInt64) * mm)) <<< ((((p3.toUInt32 >>> ((2 : Int32) &&& 31).toUInt32).toInt32) &&& (7 : Int32)) &&& 0x3f).toInt64)), .second, .val (.ref b1), .val (.ref b9), .val (.ref b17), .val (.double (FP.dadd (FP.l2d ((p1 >>> ((10 : Int32) &&& 31)).toInt64)) (FP.ddiv (FP.i2d (p3 &&& (3 : Int32))) (4616189618054758400 : UInt64)))), .second] [(.ref b17)])
    have q26 : b1 ≠ b9 := Nat.ne_of_lt (Nat.lt_of_lt_of_le r6.lt (Nat.le_of_eq g9.symm))
    have q27 : b1 ≠ b17 := Nat.ne_of_lt (Nat.lt_of_lt_of_le ((r6.ext E9).keep K12).lt (Nat.le_of_eq g17.symm))
    have f28 := ((((r7.ext E9).keep K12 (ninS q26 nin0)).ext E17).keep K20 (ninS q27 nin0))
    have q29 : b9 ≠ b17 := Nat.ne_of_lt (Nat.lt_of_lt_of_le r14.lt (Nat.le_of_eq g17.symm))
    obtain ⟨cq25, kq25, q25a, q25b, q25c⟩ := isOf hZ rfl r22
    obtain ⟨_, _, ⟨T25, L25, k25, n25⟩, -, X25, ⟨Lc25, hQ25, l25, y25, z25⟩, st25⟩ := X20.virtualBack hx (y := (⟨"com/example/dependency_container/dependencycontainer/benchmark/StartupBenchmark$Pair", "wallRatio", "()D"⟩ : MethodName)) (z := (⟨"com/example/dependency_container/dependencycontainer/benchmark/StartupBenchmark$Pair", "wallRatio", "()D"⟩ : MethodName)) hown (mvT hZ (hw _ (List.mem_of_getElem? (i := 26) rfl))) (mvT hZ (hw _ (List.mem_of_getElem? (i := 27) rfl))) (notFace_of_selects (args := #[]) (mvT hZ (hw _ (List.mem_of_getElem? (i := 29) rfl)))) (mvT hZ (hw _ (List.mem_of_getElem? (i := 29) rfl))) (mvT hZ (hw _ (List.mem_of_getElem? (i := 28) rfl))) (by decide) (backOf (W := 0) (own_rm_wallRatio l Z a0 hw [] b17 b1 b9 ((((((p1 >>> ((10 : Int32) &&& 31)).toInt64) * (4 : Int64)) * mm) + (((p3 &&& (3 : Int32)).toInt64) * mm)) <<< ((((p3.toUInt32 >>> ((2 : Int32) &&& 31).toUInt32).toInt32) &&& (7 : Int32)) &&& 0x3f).toInt64) (((4 : Int64) * mm) <<< ((((p3.toUInt32 >>> ((2 : Int32) &&& 31).toUInt32).toInt32) &&& (7 : Int32)) &&& 0x3f).toInt64) T20.heap n0 (Nat.le_trans Z0 (Nat.le_trans (Nat.le_trans (Nat.le_trans (Nat.le_trans (Nat.le_trans E1.1 K4.1) E9.1) K12.1) E17.1) K20.1)) r23 r24 f28 ((r15.ext E17).keep K20 (ninS q29 nin0)) (own_nnr _ _ _ hm)) hZ (hw _ (List.mem_of_getElem? (i := 30) rfl)) (hw _ (List.mem_of_getElem? (i := 16) rfl)) (by decide) (by decide)) q25a q25c (g := (mkF m 121 #[.val (.int p1), .val (.int p2), .val (.int p3), .val (.long q4), .second, .val (.long q5), .second, .val (.long ((p1 >>> ((10 : Int32) &&& 31)).toInt64)), .second, .val (.long mm), .second, .val (.int (p3 &&& (3 : Int32))), .val (.int (((p3.toUInt32 >>> ((2 : Int32) &&& 31).toUInt32).toInt32) &&& (7 : Int32))), .val (.long (((4 : Int64) * mm) <<< ((((p3.toUInt32 >>> ((2 : Int32) &&& 31).toUInt32).toInt32) &&& (7 : Int32)) &&& 0x3f).toInt64)), .second, .val (.long ((((((p1 >>> ((10 : Int32) &&& 31)).toInt64) * (4 : Int64)) * mm) + (((p3 &&& (3 : Int32)).toInt64) * mm)) <<< ((((p3.toUInt32 >>> ((2 : Int32) &&& 31).toUInt32).toInt32) &&& (7 : Int32)) &&& 0x3f).toInt64)), .second, .val (.ref b1), .val (.ref b9), .val (.ref b17), .val (.double (FP.dadd (FP.l2d ((p1 >>> ((10 : Int32) &&& 31)).toInt64)) (FP.ddiv (FP.i2d (p3 &&& (3 : Int32))) (4616189618054758400 : UInt64)))), .second] [(.ref b17)])) rfl (by rw [hml]; rfl) (Steps.refl _) (argsL := []) (rest := []) (lenOf own_pd2 rfl) rfl (by show 2 * 0 + _ ≤ _; exact Nat.le_of_eq rfl) (hb hby at_121) (fun _ _ => ⟨rfl, rfl, (by decide : 0 + 1 + 0 + 1 + 0 + 1 + 0 + 0 ≤ _), (by decide : 0 + 2 + 0 + 2 + 0 + 2 + 0 + 0 ≤ _)⟩)
    dsimp only [Pt.U, Pt.locs, Pt.cells, Pt.slots] at X25 l25 y25 z25 st25 hQ25
    subst l25 y25 z25
    obtain ⟨rfl, Nq25, hh25⟩ := hQ25
    have N25 := Fr.app N20 Nq25
    refine own_via (fun _ k => st25.trans k) ?_
    show own_Fin _ _ _ _ _ _ _ T25 (mkF m 124 #[.val (.int p1), .val (.int p2), .val (.int p3), .val (.long q4), .second, .val (.long q5), .second, .val (.long ((p1 >>> ((10 : Int32) &&& 31)).toInt64)), .second, .val (.long mm), .second, .val (.int (p3 &&& (3 : Int32))), .val (.int (((p3.toUInt32 >>> ((2 : Int32) &&& 31).toUInt32).toInt32) &&& (7 : Int32))), .val (.long (((4 : Int64) * mm) <<< ((((p3.toUInt32 >>> ((2 : Int32) &&& 31).toUInt32).toInt32) &&& (7 : Int32)) &&& 0x3f).toInt64)), .second, .val (.long ((((((p1 >>> ((10 : Int32) &&& 31)).toInt64) * (4 : Int64)) * mm) + (((p3 &&& (3 : Int32)).toInt64) * mm)) <<< ((((p3.toUInt32 >>> ((2 : Int32) &&& 31).toUInt32).toInt32) &&& (7 : Int32)) &&& 0x3f).toInt64)), .second, .val (.ref b1), .val (.ref b9), .val (.ref b17), .val (.double (FP.dadd (FP.l2d ((p1 >>> ((10 : Int32) &&& 31)).toInt64)) (FP.ddiv (FP.i2d (p3 &&& (3 : Int32))) (4616189618054758400 : UInt64)))), .second] [(.double (FP.ddiv (FP.l2d ((((((p1 >>> ((10 : Int32) &&& 31)).toInt64) * (4 : Int64)) * mm) + (((p3 &&& (3 : Int32)).toInt64) * mm)) <<< ((((p3.toUInt32 >>> ((2 : Int32) &&& 31).toUInt32).toInt32) &&& (7 : Int32)) &&& 0x3f).toInt64)) (FP.l2d (((4 : Int64) * mm) <<< ((((p3.toUInt32 >>> ((2 : Int32) &&& 31).toUInt32).toInt32) &&& (7 : Int32)) &&& 0x3f).toInt64))))])
    refine own_via (fun _ k => XS.dload X25.here hx rfl (hb hby at_124) rfl k) ?_
    show own_Fin _ _ _ _ _ _ _ T25 (mkF m 126 #[.val (.int p1), .val (.int p2), .val (.int p3), .val (.long q4), .second, .val (.long q5), .second, .val (.long ((p1 >>> ((10 : Int32) &&& 31)).toInt64)), .second, .val (.long mm), .second, .val (.int (p3 &&& (3 : Int32))), .val (.int (((p3.toUInt32 >>> ((2 : Int32) &&& 31).toUInt32).toInt32) &&& (7 : Int32))), .val (.long (((4 : Int64) * mm) <<< ((((p3.toUInt32 >>> ((2 : Int32) &&& 31).toUInt32).toInt32) &&& (7 : Int32)) &&& 0x3f).toInt64)), .second, .val (.long ((((((p1 >>> ((10 : Int32) &&& 31)).toInt64) * (4 : Int64)) * mm) + (((p3 &&& (3 : Int32)).toInt64) * mm)) <<< ((((p3.toUInt32 >>> ((2 : Int32) &&& 31).toUInt32).toInt32) &&& (7 : Int32)) &&& 0x3f).toInt64)), .second, .val (.ref b1), .val (.ref b9), .val (.ref b17), .val (.double (FP.dadd (FP.l2d ((p1 >>> ((10 : Int32) &&& 31)).toInt64)) (FP.ddiv (FP.i2d (p3 &&& (3 : Int32))) (4616189618054758400 : UInt64)))), .second] [(.double (FP.dadd (FP.l2d ((p1 >>> ((10 : Int32) &&& 31)).toInt64)) (FP.ddiv (FP.i2d (p3 &&& (3 : Int32))) (4616189618054758400 : UInt64)))), (.double (FP.ddiv (FP.l2d ((((((p1 >>> ((10 : Int32) &&& 31)).toInt64) * (4 : Int64)) * mm) + (((p3 &&& (3 : Int32)).toInt64) * mm)) <<< ((((p3.toUInt32 >>> ((2 : Int32) &&& 31).toUInt32).toInt32) &&& (7 : Int32)) &&& 0x3f).toInt64)) (FP.l2d (((4 : Int64) * mm) <<< ((((p3.toUInt32 >>> ((2 : Int32) &&& 31).toUInt32).toInt32) &&& (7 : Int32)) &&& 0x3f).toInt64))))])
    refine own_via (fun _ k => XS.dcmpS X25.here hx rfl (hb hby at_126) rfl rfl k) ?_
    show own_Fin _ _ _ _ _ _ _ T25 (mkF m 127 #[.val (.int p1), .val (.int p2), .val (.int p3), .val (.long q4), .second, .val (.long q5), .second, .val (.long ((p1 >>> ((10 : Int32) &&& 31)).toInt64)), .second, .val (.long mm), .second, .val (.int (p3 &&& (3 : Int32))), .val (.int (((p3.toUInt32 >>> ((2 : Int32) &&& 31).toUInt32).toInt32) &&& (7 : Int32))), .val (.long (((4 : Int64) * mm) <<< ((((p3.toUInt32 >>> ((2 : Int32) &&& 31).toUInt32).toInt32) &&& (7 : Int32)) &&& 0x3f).toInt64)), .second, .val (.long ((((((p1 >>> ((10 : Int32) &&& 31)).toInt64) * (4 : Int64)) * mm) + (((p3 &&& (3 : Int32)).toInt64) * mm)) <<< ((((p3.toUInt32 >>> ((2 : Int32) &&& 31).toUInt32).toInt32) &&& (7 : Int32)) &&& 0x3f).toInt64)), .second, .val (.ref b1), .val (.ref b9), .val (.ref b17), .val (.double (FP.dadd (FP.l2d ((p1 >>> ((10 : Int32) &&& 31)).toInt64)) (FP.ddiv (FP.i2d (p3 &&& (3 : Int32))) (4616189618054758400 : UInt64)))), .second] [(.int (cmpValue (FP.dcmp (FP.ddiv (FP.l2d ((((((p1 >>> ((10 : Int32) &&& 31)).toInt64) * (4 : Int64)) * mm) + (((p3 &&& (3 : Int32)).toInt64) * mm)) <<< ((((p3.toUInt32 >>> ((2 : Int32) &&& 31).toUInt32).toInt32) &&& (7 : Int32)) &&& 0x3f).toInt64)) (FP.l2d (((4 : Int64) * mm) <<< ((((p3.toUInt32 >>> ((2 : Int32) &&& 31).toUInt32).toInt32) &&& (7 : Int32)) &&& 0x3f).toInt64))) (FP.dadd (FP.l2d ((p1 >>> ((10 : Int32) &&& 31)).toInt64)) (FP.ddiv (FP.i2d (p3 &&& (3 : Int32))) (4616189618054758400 : UInt64)))) .l))])
    refine own_via (fun _ k => XS.ifNo X25.here hx rfl (hb hby at_127) rfl ((if0 _ _).trans (teq (own_main p1 p3 mm hm)).2) k) ?_
    show own_Fin _ _ _ _ _ _ _ T25 (mkF m 130 #[.val (.int p1), .val (.int p2), .val (.int p3), .val (.long q4), .second, .val (.long q5), .second, .val (.long ((p1 >>> ((10 : Int32) &&& 31)).toInt64)), .second, .val (.long mm), .second, .val (.int (p3 &&& (3 : Int32))), .val (.int (((p3.toUInt32 >>> ((2 : Int32) &&& 31).toUInt32).toInt32) &&& (7 : Int32))), .val (.long (((4 : Int64) * mm) <<< ((((p3.toUInt32 >>> ((2 : Int32) &&& 31).toUInt32).toInt32) &&& (7 : Int32)) &&& 0x3f).toInt64)), .second, .val (.long ((((((p1 >>> ((10 : Int32) &&& 31)).toInt64) * (4 : Int64)) * mm) + (((p3 &&& (3 : Int32)).toInt64) * mm)) <<< ((((p3.toUInt32 >>> ((2 : Int32) &&& 31).toUInt32).toInt32) &&& (7 : Int32)) &&& 0x3f).toInt64)), .second, .val (.ref b1), .val (.ref b9), .val (.ref b17), .val (.double (FP.dadd (FP.l2d ((p1 >>> ((10 : Int32) &&& 31)).toInt64)) (FP.ddiv (FP.i2d (p3 &&& (3 : Int32))) (4616189618054758400 : UInt64)))), .second] [])
    refine own_via (fun _ k => XS.iconst X25.here hx rfl (hb hby at_130) k) ?_
    show own_Fin _ _ _ _ _ _ _ T25 (mkF m 131 #[.val (.int p1), .val (.int p2), .val (.int p3), .val (.long q4), .second, .val (.long q5), .second, .val (.long ((p1 >>> ((10 : Int32) &&& 31)).toInt64)), .second, .val (.long mm), .second, .val (.int (p3 &&& (3 : Int32))), .val (.int (((p3.toUInt32 >>> ((2 : Int32) &&& 31).toUInt32).toInt32) &&& (7 : Int32))), .val (.long (((4 : Int64) * mm) <<< ((((p3.toUInt32 >>> ((2 : Int32) &&& 31).toUInt32).toInt32) &&& (7 : Int32)) &&& 0x3f).toInt64)), .second, .val (.long ((((((p1 >>> ((10 : Int32) &&& 31)).toInt64) * (4 : Int64)) * mm) + (((p3 &&& (3 : Int32)).toInt64) * mm)) <<< ((((p3.toUInt32 >>> ((2 : Int32) &&& 31).toUInt32).toInt32) &&& (7 : Int32)) &&& 0x3f).toInt64)), .second, .val (.ref b1), .val (.ref b9), .val (.ref b17), .val (.double (FP.dadd (FP.l2d ((p1 >>> ((10 : Int32) &&& 31)).toInt64)) (FP.ddiv (FP.i2d (p3 &&& (3 : Int32))) (4616189618054758400 : UInt64)))), .second] [(.int (1 : Int32))])
    refine own_via (fun _ k => XS.goto X25.here hx rfl (pc0 := 131) (pc' := 135) rfl (hb hby at_131) (by decide) (by decide) k) ?_
    show own_Fin _ _ _ _ _ _ _ T25 (mkF m 135 #[.val (.int p1), .val (.int p2), .val (.int p3), .val (.long q4), .second, .val (.long q5), .second, .val (.long ((p1 >>> ((10 : Int32) &&& 31)).toInt64)), .second, .val (.long mm), .second, .val (.int (p3 &&& (3 : Int32))), .val (.int (((p3.toUInt32 >>> ((2 : Int32) &&& 31).toUInt32).toInt32) &&& (7 : Int32))), .val (.long (((4 : Int64) * mm) <<< ((((p3.toUInt32 >>> ((2 : Int32) &&& 31).toUInt32).toInt32) &&& (7 : Int32)) &&& 0x3f).toInt64)), .second, .val (.long ((((((p1 >>> ((10 : Int32) &&& 31)).toInt64) * (4 : Int64)) * mm) + (((p3 &&& (3 : Int32)).toInt64) * mm)) <<< ((((p3.toUInt32 >>> ((2 : Int32) &&& 31).toUInt32).toInt32) &&& (7 : Int32)) &&& 0x3f).toInt64)), .second, .val (.ref b1), .val (.ref b9), .val (.ref b17), .val (.double (FP.dadd (FP.l2d ((p1 >>> ((10 : Int32) &&& 31)).toInt64)) (FP.ddiv (FP.i2d (p3 &&& (3 : Int32))) (4616189618054758400 : UInt64)))), .second] [(.int (1 : Int32))])
    exact own_retN X25 hx (t := .boolean) Bd.returns Bd.notSynchronized (by simp) (hb hby at_135) hh25 rfl ⟨rfl, N25⟩ (by decide) (by decide)
  rcases Classical.em ((lcmpW ((p2 >>> ((2 : Int32) &&& 31)).toInt64) (0 : Int64)) = (0 : Int32)) with hc | hc
  · refine own_via (fun _ k => XS.ifNo X0.here hx rfl (hb hby at_17) rfl ((if0 _ _).trans (teq hc).2) k) ?_
    show own_Fin _ _ _ _ _ _ _ s₁ (mkF m 20 #[.val (.int p1), .val (.int p2), .val (.int p3), .val (.long q4), .second, .val (.long q5), .second, .val (.long ((p1 >>> ((10 : Int32) &&& 31)).toInt64)), .second, .val (.long ((p2 >>> ((2 : Int32) &&& 31)).toInt64)), .second, .unset, .unset, .unset, .unset, .unset, .unset, .unset, .unset, .unset, .unset, .unset] [])
    refine own_via (fun _ k => XS.lconst X0.here hx rfl (hb hby at_20) k) ?_
    show own_Fin _ _ _ _ _ _ _ s₁ (mkF m 21 #[.val (.int p1), .val (.int p2), .val (.int p3), .val (.long q4), .second, .val (.long q5), .second, .val (.long ((p1 >>> ((10 : Int32) &&& 31)).toInt64)), .second, .val (.long ((p2 >>> ((2 : Int32) &&& 31)).toInt64)), .second, .unset, .unset, .unset, .unset, .unset, .unset, .unset, .unset, .unset, .unset, .unset] [(.long (1 : Int64))])
    refine own_via (fun _ k => XS.lstore X0.here hx rfl (hb hby at_21) rfl (l' := #[.val (.int p1), .val (.int p2), .val (.int p3), .val (.long q4), .second, .val (.long q5), .second, .val (.long ((p1 >>> ((10 : Int32) &&& 31)).toInt64)), .second, .val (.long (1 : Int64)), .second, .unset, .unset, .unset, .unset, .unset, .unset, .unset, .unset, .unset, .unset, .unset]) rfl k) ?_
    show own_Fin _ _ _ _ _ _ _ s₁ (mkF m 23 #[.val (.int p1), .val (.int p2), .val (.int p3), .val (.long q4), .second, .val (.long q5), .second, .val (.long ((p1 >>> ((10 : Int32) &&& 31)).toInt64)), .second, .val (.long (1 : Int64)), .second, .unset, .unset, .unset, .unset, .unset, .unset, .unset, .unset, .unset, .unset, .unset] [])
    exact seg _ own_M_one
  · refine own_via (fun _ k => XS.ifYes X0.here hx rfl (pc0 := 17) (pc' := 23) rfl (hb hby at_17) rfl ((if0 _ _).trans (feq hc).2) (by decide) (by decide) k) ?_
    show own_Fin _ _ _ _ _ _ _ s₁ (mkF m 23 #[.val (.int p1), .val (.int p2), .val (.int p3), .val (.long q4), .second, .val (.long q5), .second, .val (.long ((p1 >>> ((10 : Int32) &&& 31)).toInt64)), .second, .val (.long ((p2 >>> ((2 : Int32) &&& 31)).toInt64)), .second, .unset, .unset, .unset, .unset, .unset, .unset, .unset, .unset, .unset, .unset, .unset] [])
    exact seg _ (own_M_of p2 hc)
set_option maxRecDepth 65536 in
set_option maxHeartbeats 40000000 in
theorem comes_1 {Post : Tables → Env → Array Value → State → Outcome → State → Prop} (hpost : ∀ tb e args s v u, (limb_1_1.after args s (.returned v) u = true ∧ limb_1_2.after args s (.returned v) u = true ∧ True) → FrameEnd s (.returned v) u (Jvm.fieldLocs frame_1_writes args s ++ Jvm.arrayLocs frame_1_arrays args s ++ Jvm.staticLocs frame_1_statics s) 16 128 → Post tb e args s (.returned v) u) :
    ArmFor flags0 classFile x code maxLocals ret World_1 tables_1 room_1 Calls_1 rest_1 Pre_1 Post := by
  intro l hfl _ _ p e ha hc hk s m args below hf hA hF happ hP
  obtain ⟨hcalls, hrest, hpre⟩ := hP
  obtain ⟨-, -, -, hnamed, -, -, -, hat⟩ := (Spec.applies_iff hf).mp happ
  obtain ⟨hg, hn⟩ := and_e (Cond.before_iff.mp (show (Jvm.Cond.and given_1 narrow_1).before args s = true from hpre))
  obtain ⟨g0, k0⟩ := and_e hg
  obtain ⟨g1, k1⟩ := and_e k0
  obtain ⟨g2, k2⟩ := and_e k1
  obtain ⟨g3, k3⟩ := and_e k2
  obtain ⟨g4, k4⟩ := and_e k3
  have g5 := k4
  obtain ⟨w0, w1, w2, w3, w4, rfl⟩ : ∃ w0 w1 w2 w3 w4 : Value, args = #[w0, w1, w2, w3, w4] := by
    have hs : args.size = 5 := by simpa [Cond.value, given_1] using g0
    obtain ⟨L⟩ := args
    match L, hs with
    | [w0, w1, w2, w3, w4], _ => exact ⟨w0, w1, w2, w3, w4, rfl⟩
  have hw := fun d (hd : d ∈ tables_1) => atoms_spec (ws := Jvm.Cond.code x code maxLocals ret :: tables_1) hat d (List.mem_cons_of_mem _ hd)
  have hfit : Fit s := fun {y c} hc i hi => by
    obtain ⟨ha, rfl⟩ := Array.getElem?_eq_some_iff.mp hc
    have q := List.all_eq_true.mp ((Array.all_eq_true_iff_forall_mem.mp hF) _ (Array.getElem_mem ha)) i (List.mem_range.mpr hi)
    simpa [Array.getElem?_eq_getElem hi] using q
  obtain ⟨i0, ei0⟩ := is_v g1
  obtain rfl : w0 = (.int i0) := Option.some.inj ei0
  obtain ⟨i1, ei1⟩ := is_v g2
  obtain rfl : w1 = (.int i1) := Option.some.inj ei1
  obtain ⟨i2, ei2⟩ := is_v g3
  obtain rfl : w2 = (.int i2) := Option.some.inj ei2
  obtain ⟨i3, ei3⟩ := isL_v g4
  obtain rfl : w3 = (.long i3) := Option.some.inj ei3
  obtain ⟨i4, ei4⟩ := isL_v g5
  obtain rfl : w4 = (.long i4) := Option.some.inj ei4
  obtain ⟨n, o, h1, h2, h3, _, L, rfl, ⟨rfl, N⟩, hq⟩ := own_rm_law l s _ hw tables_1 i0 i1 i2 i3 i4 s.heap s.heap.size (Nat.le_refl _)  p e ha hc hk s m _ below hf ((Spec.applies_iff_loose hf).mp happ).1 ⟨rfl, State.Warmed39.refl s, rfl⟩ trivial
  refine ⟨n, _, h1, h2, h3, hpost _ _ _ _ _ _ ⟨Cond.after_iff.mpr rfl, Cond.after_iff.mpr (eq_i res_at (Term.int_eval (1)) rfl), trivial⟩ ⟨hq.1, hq.2.1, (hq.2.2.sift fun y hy => Or.inr (N y hy)).mono (by decide) (by decide)⟩⟩
theorem main_1_1 : Claimed_1_1 := comes_1 fun _ _ _ _ _ _ h hF => ⟨h.1, hF⟩
theorem main_1_2 : Claimed_1_2 := comes_1 fun _ _ _ _ _ _ h hF => ⟨h.2.1, hF⟩
end Jvm.Pilot.@@N@@
namespace Jvm.Pilot.@@N@@
open Jvm Jvm.ClassFile Sem Op Lib Jvm.Free Jvm.Stand Jvm.Pilot.@@N@@.Jvm.D
/-! MADE BY PROGRAM (witnessworld.py) out of the Statement's table words and the real class files: 11 classes; the members and pool entries that the words name. The judged class is class 1, her method 1. -/
namespace start1
open Jvm.ClassFile
def u (s : String) : CpInfo := .utf8 (stringToUtf16 s)
/-- a pool by its gaps: so many unusable entries, then the entry; so many at the end -/
def gap : Nat → List CpInfo → List CpInfo
  | 0, r => r
  | n + 1, r => .unusable :: gap n r
def poolList (es : List (Nat × CpInfo)) (last : Nat) : List CpInfo := es.foldr (fun e r => gap e.1 (e.2 :: r)) (gap last [])
def pool (es : List (Nat × CpInfo)) (last : Nat) : Array CpInfo := ⟨poolList es last⟩
def fileOf (pool : Array CpInfo) (this : Nat) (attrs : Array Attribute := #[]) (ms : Array MethodInfo := #[]) (fl : Nat := 33) (sup : Nat := 0) (ifs : Array Nat := #[]) (fds : Array FieldInfo := #[]) : ClassFile where
  minorVersion := 0
  majorVersion := 65
  constantPool := pool
  accessFlags := fl
  thisClass := this
  superClass := sup
  interfaces := ifs
  fields := fds
  methods := ms
  attributes := attrs
def plain (name : String) (sup : Option ClassId) : Class where
  name := name
  kind := .ordinary
  loader := none
  accessFlags := 33
  super := sup
  interfaces := #[]
  cf := none
  fields := #[]
  methods := #[]
  instanceTypes := #[]
  staticTypes := #[]
  resolved := #[]
  callSites := []
  init := .initialized
  statics := none
  mirror := none

def pool0 : Array CpInfo := pool [(5, u "<init>"), (0, u "()V"), (1, .class_ 10), (1, u "java/lang/Object")] 113

def k0c0 : Code := { maxStack := 0, maxLocals := 1, code := object_method_1_code, exceptionTable := #[], attributes := #[] }
def k0m0 : Method := { name := "<init>", desc := "()V", sig := { parameters := [], returnType := none }, accessFlags := 1, code := some k0c0 }
/-- java/lang/Object -/
def k0 : Class := { plain "java/lang/Object" none with
  accessFlags := 33
  interfaces := #[]
  cf := some (fileOf pool0 8 #[] #[{ accessFlags := 1, nameIndex := 5, descriptorIndex := 6, attributes := #[] }] 33 0 #[] #[])
  fields := #[]
  methods := #[k0m0]
  instanceTypes := #[]
  staticTypes := #[]
  resolved := Array.replicate 124 none
  statics := none }

def pool1 : Array CpInfo := pool [(2, .class_ 4), (1, u "java/lang/Object"), (0, u "<init>"), (0, u "()V"), (0, .long 4), (1, .class_ 10), (0, u "com/example/dependency_container/dependencycontainer/benchmark/StartupBenchmark$Run"), (0, .methodref 9 12), (0, .nameAndType 5 13), (0, u "(JJ)V"), (0, .class_ 15), (0, u "com/example/dependency_container/dependencycontainer/benchmark/StartupBenchmark$Pair"), (0, .methodref 14 17), (0, .nameAndType 5 18), (0, u "(Lcom/example/dependency_container/dependencycontainer/benchmark/StartupBenchmark$Run;Lcom/example/dependency_container/dependencycontainer/benchmark/StartupBenchmark$Run;)V"), (0, .double 4616189618054758400), (1, .methodref 14 22), (0, .nameAndType 23 24), (0, u "wallRatio"), (0, u "()D"), (0, .class_ 26), (0, u "com/example/dependency_container/dependencycontainer/benchmark/PairWallRatioPinLaw"), (2, u "law"), (0, u "(IIIJJ)Z")] 8

def k1m0 : Method := { name := "<init>", desc := "()V", sig := { parameters := [], returnType := none }, accessFlags := 1, code := none }
def k1c1 : Code := { maxStack := 6, maxLocals := 22, code := code, exceptionTable := #[], attributes := #[] }
def k1m1 : Method := { name := "law", desc := "(IIIJJ)Z", sig := { parameters := [.int, .int, .int, .long, .long], returnType := some .boolean }, accessFlags := 9, code := some k1c1 }
/-- com/example/dependency_container/dependencycontainer/benchmark/PairWallRatioPinLaw -/
def k1 : Class := { plain "com/example/dependency_container/dependencycontainer/benchmark/PairWallRatioPinLaw" (some 0) with
  accessFlags := 49
  interfaces := #[]
  cf := some (fileOf pool1 25 #[] #[{ accessFlags := 1, nameIndex := 5, descriptorIndex := 6, attributes := #[] }, { accessFlags := 9, nameIndex := 29, descriptorIndex := 30, attributes := #[] }] 49 2 #[] #[])
  fields := #[]
  methods := #[k1m0, k1m1]
  instanceTypes := #[]
  staticTypes := #[]
  resolved := Array.replicate 39 none
  statics := none }

def pool2 : Array CpInfo := pool [(1, .methodref 2 3), (0, .class_ 4), (0, .nameAndType 5 6), (0, u "java/lang/Object"), (0, u "<init>"), (0, u "()V"), (0, .fieldref 8 9), (0, .class_ 10), (0, .nameAndType 11 12), (0, u "com/example/dependency_container/dependencycontainer/benchmark/StartupBenchmark$Run"), (0, u "wallNanos"), (0, u "J"), (0, .fieldref 8 14), (0, .nameAndType 15 12), (0, u "peakKilobytes"), (0, u "(JJ)V"), (5, .class_ 23), (0, u "com/example/dependency_container/dependencycontainer/benchmark/StartupBenchmark")] 2

def k2c0 : Code := { maxStack := 3, maxLocals := 5, code := prog_124_method_1_code, exceptionTable := #[], attributes := #[] }
def k2m0 : Method := { name := "<init>", desc := "(JJ)V", sig := { parameters := [.long, .long], returnType := none }, accessFlags := 0, code := some k2c0 }
/-- com/example/dependency_container/dependencycontainer/benchmark/StartupBenchmark$Run -/
def k2 : Class := { plain "com/example/dependency_container/dependencycontainer/benchmark/StartupBenchmark$Run" (some 0) with
  accessFlags := 48
  interfaces := #[]
  cf := some (fileOf pool2 8 #[.nestHost 22] #[{ accessFlags := 0, nameIndex := 5, descriptorIndex := 16, attributes := #[] }] 48 2 #[] #[{ accessFlags := 18, nameIndex := 11, descriptorIndex := 12, attributes := #[] }, { accessFlags := 18, nameIndex := 15, descriptorIndex := 12, attributes := #[] }])
  fields := #[{ name := "wallNanos", type := .long, accessFlags := 18, slot := 0, constantValue := 0 }, { name := "peakKilobytes", type := .long, accessFlags := 18, slot := 1, constantValue := 0 }]
  methods := #[k2m0]
  instanceTypes := #[.long, .long]
  staticTypes := #[]
  resolved := Array.replicate 26 none
  statics := none }

def pool3 : Array CpInfo := pool [(1, .methodref 2 3), (0, .class_ 4), (0, .nameAndType 5 6), (0, u "java/lang/Object"), (0, u "<init>"), (0, u "()V"), (0, .fieldref 8 9), (0, .class_ 10), (0, .nameAndType 11 12), (0, u "com/example/dependency_container/dependencycontainer/benchmark/StartupBenchmark$Pair"), (0, u "container"), (0, u "Lcom/example/dependency_container/dependencycontainer/benchmark/StartupBenchmark$Run;"), (0, .fieldref 8 14), (0, .nameAndType 15 12), (0, u "parse"), (0, .fieldref 17 18), (0, .class_ 19), (0, .nameAndType 20 21), (0, u "com/example/dependency_container/dependencycontainer/benchmark/StartupBenchmark$Run"), (0, u "wallNanos"), (0, u "J"), (3, u "(Lcom/example/dependency_container/dependencycontainer/benchmark/StartupBenchmark$Run;Lcom/example/dependency_container/dependencycontainer/benchmark/StartupBenchmark$Run;)V"), (2, u "wallRatio"), (0, u "()D"), (4, .class_ 35), (0, u "com/example/dependency_container/dependencycontainer/benchmark/StartupBenchmark")] 3

def k3c0 : Code := { maxStack := 2, maxLocals := 3, code := prog_123_method_1_code, exceptionTable := #[], attributes := #[] }
def k3m0 : Method := { name := "<init>", desc := "(Lcom/example/dependency_container/dependencycontainer/benchmark/StartupBenchmark$Run;Lcom/example/dependency_container/dependencycontainer/benchmark/StartupBenchmark$Run;)V", sig := { parameters := [(.object "com/example/dependency_container/dependencycontainer/benchmark/StartupBenchmark$Run"), (.object "com/example/dependency_container/dependencycontainer/benchmark/StartupBenchmark$Run")], returnType := none }, accessFlags := 0, code := some k3c0 }
def k3c1 : Code := { maxStack := 4, maxLocals := 1, code := prog_123_method_2_code, exceptionTable := #[], attributes := #[] }
def k3m1 : Method := { name := "wallRatio", desc := "()D", sig := { parameters := [], returnType := some .double }, accessFlags := 0, code := some k3c1 }
/-- com/example/dependency_container/dependencycontainer/benchmark/StartupBenchmark$Pair -/
def k3 : Class := { plain "com/example/dependency_container/dependencycontainer/benchmark/StartupBenchmark$Pair" (some 0) with
  accessFlags := 48
  interfaces := #[]
  cf := some (fileOf pool3 8 #[.nestHost 34] #[{ accessFlags := 0, nameIndex := 5, descriptorIndex := 25, attributes := #[] }, { accessFlags := 0, nameIndex := 28, descriptorIndex := 29, attributes := #[] }] 48 2 #[] #[{ accessFlags := 18, nameIndex := 11, descriptorIndex := 12, attributes := #[] }, { accessFlags := 18, nameIndex := 15, descriptorIndex := 12, attributes := #[] }])
  fields := #[{ name := "container", type := (.object "com/example/dependency_container/dependencycontainer/benchmark/StartupBenchmark$Run"), accessFlags := 18, slot := 0, constantValue := 0 }, { name := "parse", type := (.object "com/example/dependency_container/dependencycontainer/benchmark/StartupBenchmark$Run"), accessFlags := 18, slot := 1, constantValue := 0 }]
  methods := #[k3m0, k3m1]
  instanceTypes := #[(.object "com/example/dependency_container/dependencycontainer/benchmark/StartupBenchmark$Run"), (.object "com/example/dependency_container/dependencycontainer/benchmark/StartupBenchmark$Run")]
  staticTypes := #[]
  resolved := Array.replicate 39 none
  statics := none }

def pool4 : Array CpInfo := pool [(2, .class_ 4), (1, u "java/lang/Object"), (15, u "java"), (25, .class_ 48), (1, u "com/example/dependency_container/dependencycontainer/benchmark/StartupBenchmark"), (0, u "Ljava/util/List;"), (49, u "SIZES"), (0, u "[I"), (13, .class_ 115), (0, u "com/example/dependency_container/dependencycontainer/benchmark/StartupBenchmark$Figures"), (56, .class_ 173), (0, u "com/example/dependency_container/dependencycontainer/benchmark/StartupBenchmark$Pair"), (92, .class_ 267), (0, u "com/example/dependency_container/dependencycontainer/benchmark/StartupBenchmark$Run"), (73, u "MOST_RATIO"), (0, u "Ljava/math/BigDecimal;"), (0, u "PEAK_SIZE"), (0, u "I"), (1, u "COUNTED_PAIRS")] 63

/-- com/example/dependency_container/dependencycontainer/benchmark/StartupBenchmark -/
def k4 : Class := { plain "com/example/dependency_container/dependencycontainer/benchmark/StartupBenchmark" (some 0) with
  accessFlags := 49
  interfaces := #[]
  cf := some (fileOf pool4 46 #[.nestMembers #[114, 172, 266]] #[] 49 2 #[] #[{ accessFlags := 24, nameIndex := 341, descriptorIndex := 342, attributes := #[] }, { accessFlags := 26, nameIndex := 99, descriptorIndex := 100, attributes := #[] }, { accessFlags := 26, nameIndex := 343, descriptorIndex := 344, attributes := #[] }, { accessFlags := 26, nameIndex := 346, descriptorIndex := 344, attributes := #[] }, { accessFlags := 18, nameIndex := 20, descriptorIndex := 49, attributes := #[] }])
  fields := #[{ name := "MOST_RATIO", type := (.object "java/math/BigDecimal"), accessFlags := 24, slot := 0, constantValue := 0 }, { name := "SIZES", type := (.array .int), accessFlags := 26, slot := 1, constantValue := 0 }, { name := "PEAK_SIZE", type := .int, accessFlags := 26, slot := 2, constantValue := 0 }, { name := "COUNTED_PAIRS", type := .int, accessFlags := 26, slot := 3, constantValue := 0 }, { name := "java", type := (.object "java/util/List"), accessFlags := 18, slot := 0, constantValue := 0 }]
  methods := #[]
  instanceTypes := #[(.object "java/util/List")]
  staticTypes := #[(.object "java/math/BigDecimal"), (.array .int), .int, .int]
  resolved := Array.replicate 410 none
  statics := none }

def pool5 : Array CpInfo := pool [(1, u "java/lang/Cloneable"), (0, .class_ 1), (0, u "java/lang/Object"), (0, .class_ 3)] 3

/-- java/lang/Cloneable -/
def k5 : Class := { plain "java/lang/Cloneable" (some 0) with
  accessFlags := 1537
  interfaces := #[]
  cf := some (fileOf pool5 2 #[] #[] 1537 4 #[] #[])
  fields := #[]
  methods := #[]
  instanceTypes := #[]
  staticTypes := #[]
  resolved := Array.replicate 8 none
  statics := none }

def pool6 : Array CpInfo := pool [(1, u "java/io/Serializable"), (0, .class_ 1), (0, u "java/lang/Object"), (0, .class_ 3)] 3

/-- java/io/Serializable -/
def k6 : Class := { plain "java/io/Serializable" (some 0) with
  accessFlags := 1537
  interfaces := #[]
  cf := some (fileOf pool6 2 #[] #[] 1537 4 #[] #[])
  fields := #[]
  methods := #[]
  instanceTypes := #[]
  staticTypes := #[]
  resolved := Array.replicate 8 none
  statics := none }

/-- the primitive byte -/
def k7 : Class := { plain "byte" none with kind := .primitive 'B', accessFlags := 0x411 }
/-- [B -/
def k8 : Class := { plain "[B" (some 0) with kind := .array 7 .byte, interfaces := #[5, 6], accessFlags := 1041 }

/-- the primitive int -/
def k9 : Class := { plain "int" none with kind := .primitive 'I', accessFlags := 0x411 }
/-- [I -/
def k10 : Class := { plain "[I" (some 0) with kind := .array 9 .int, interfaces := #[5, 6], accessFlags := 1041 }

def heap : Heap := #[]
def classes : Array Class := #[k0, k1, k2, k3, k4, k5, k6, k7, k8, k9, k10]
def interned : List (Array UInt16 × Addr) := []
def slotsUsed : Nat := 0
def theMethod : MethodId := ⟨1, 1⟩
def args0 : Array Value := #[.int 5, .int 9, .int 3, .long 4, .long 7]
def aboutOver (below : List Frame) : State where
  vm := { classes := classes, interned := interned.toArray }
  heap := heap
  slotsUsed := slotsUsed
  threads := #[{ frames := .invoking theMethod args0 :: below }]
def below0 : List Frame := [.native { method := ⟨0, 0⟩, args := #[] }]
def about1 : State := aboutOver below0
def p0 : Program := .bare "" "" ""
def e0 : Env := launch0.env 0 0 0
theorem w_frames : about1.frames = Frame.invoking theMethod args0 :: below0 := rfl
set_option maxRecDepth 65536 in
theorem w_args : argsFit about1.vm theMethod args0 = true := by decide +kernel
set_option maxRecDepth 65536 in
theorem w_heap : heapFits about1 = true := by decide +kernel
set_option maxRecDepth 65536 in
theorem w_runnable : about1.curStatus? = some .runnable := by decide +kernel
set_option maxRecDepth 65536 in
theorem w_alone : about1.alone = true := by decide +kernel
set_option maxRecDepth 65536 in
theorem w_named : about1.methodNamed? x = some theMethod := by decide +kernel
set_option maxRecDepth 65536 in
theorem w_hears : about1.hears theMethod below0 = true := by decide +kernel
set_option maxRecDepth 65536 in
theorem w_ripe : about1.ripe theMethod args0 below0 = true := by decide +kernel
theorem w_running : about1.status = .running := rfl
set_option maxRecDepth 65536 in
theorem w_room : about1.hasRoom e0.platform room_1 = true :=
  launch0.hasRoom_least _ room_1 (by decide +kernel) (by decide +kernel) (by decide +kernel) (by decide +kernel) (by decide +kernel) (by decide +kernel)
theorem allAtoms_all (ts : List Jvm.Cond) (a : Array Jvm.Value) (st : Jvm.State) : (allAtoms ts).before a st = ts.all (fun c => c.before a st) := by
  induction ts with
  | nil => rfl
  | cons c t ih =>
    show (Jvm.Cond.and c (allAtoms t)).before a st = _
    rw [Jvm.Cond.before_and, ih, List.all_cons]
def words1 : List Jvm.Cond := Jvm.Cond.code x code maxLocals ret :: tables_1
/-- a 'code' word, met by the world's own term for the bytes: nothing is compared byte by byte -/
theorem code_word {y : MethodName} {bytes : ByteArray} {mx : Nat} {rt : Option FieldType} {a : Array Value} {s : State} {m : MethodId} {meth : Method} {c : Code} (h1 : s.methodNamed? y = some m) (h2 : s.vm.method? m = some meth) (h3 : meth.code = some c) (h4 : c.code = bytes)
    (h5 : (c.maxLocals == mx && c.exceptionTable.isEmpty && decide (c.maxStack ≤ mostOperands) && decide (meth.sig.returnType = rt) && !meth.locks && decide (parseMethodDescriptor y.desc = some meth.sig)) = true) : (Jvm.Cond.code y bytes mx rt).before a s = true := by
  simp only [Bool.and_eq_true, beq_iff_eq, Bool.not_eq_true', decide_eq_true_eq] at h5
  obtain ⟨⟨⟨⟨⟨g1, g2⟩, g3⟩, g4⟩, g5⟩, g6⟩ := h5
  simp [Cond.before, Cond.holds, Cond.value, h1, h2, h3, h4, g1, g2, g3, g4, g5, g6]
def isCode : Jvm.Cond → Bool
  | .code _ _ _ _ => true
  | _ => false
theorem all_split {L : List Jvm.Cond} {P : Jvm.Cond → Bool} (h1 : L.all (fun c => isCode c || P c) = true) (h2 : ∀ c ∈ L.filter isCode, P c = true) : L.all P = true := by
  refine List.all_eq_true.mpr fun c hc => ?_
  have h := List.all_eq_true.mp h1 c hc
  rcases Bool.eq_false_or_eq_true (isCode c) with hi | hi
  · exact h2 c (List.mem_filter.mpr ⟨hc, hi⟩)
  · simpa [hi] using h
set_option maxRecDepth 65536 in
theorem w_c0 : (Jvm.Cond.code x code maxLocals ret).before args0 about1 = true := code_word (m := ⟨1, 1⟩) (meth := k1m1) (c := k1c1) (by decide +kernel) rfl rfl rfl (by decide +kernel)
set_option maxRecDepth 65536 in
theorem w_c1 : (Jvm.Cond.code ({ cls := "com/example/dependency_container/dependencycontainer/benchmark/StartupBenchmark$Run", name := "<init>", desc := "(JJ)V" } : Jvm.MethodName) prog_124_method_1_code (5 : Nat) (Option.none : Option Jvm.ClassFile.FieldType)).before args0 about1 = true := code_word (m := ⟨2, 0⟩) (meth := k2m0) (c := k2c0) (by decide +kernel) rfl rfl rfl (by decide +kernel)
set_option maxRecDepth 65536 in
theorem w_c2 : (Jvm.Cond.code ({ cls := "java/lang/Object", name := "<init>", desc := "()V" } : Jvm.MethodName) object_method_1_code (1 : Nat) (Option.none : Option Jvm.ClassFile.FieldType)).before args0 about1 = true := code_word (m := ⟨0, 0⟩) (meth := k0m0) (c := k0c0) (by decide +kernel) rfl rfl rfl (by decide +kernel)
set_option maxRecDepth 65536 in
theorem w_c3 : (Jvm.Cond.code ({ cls := "com/example/dependency_container/dependencycontainer/benchmark/StartupBenchmark$Pair", name := "<init>", desc := "(Lcom/example/dependency_container/dependencycontainer/benchmark/StartupBenchmark$Run;Lcom/example/dependency_container/dependencycontainer/benchmark/StartupBenchmark$Run;)V" } : Jvm.MethodName) prog_123_method_1_code (3 : Nat) (Option.none : Option Jvm.ClassFile.FieldType)).before args0 about1 = true := code_word (m := ⟨3, 0⟩) (meth := k3m0) (c := k3c0) (by decide +kernel) rfl rfl rfl (by decide +kernel)
set_option maxRecDepth 65536 in
theorem w_c4 : (Jvm.Cond.code ({ cls := "com/example/dependency_container/dependencycontainer/benchmark/StartupBenchmark$Pair", name := "wallRatio", desc := "()D" } : Jvm.MethodName) prog_123_method_2_code (1 : Nat) (Option.some Jvm.ClassFile.FieldType.double)).before args0 about1 = true := code_word (m := ⟨3, 1⟩) (meth := k3m1) (c := k3c1) (by decide +kernel) rfl rfl rfl (by decide +kernel)
def codes1 : List Jvm.Cond := [Jvm.Cond.code x code maxLocals ret, Jvm.Cond.code ({ cls := "com/example/dependency_container/dependencycontainer/benchmark/StartupBenchmark$Run", name := "<init>", desc := "(JJ)V" } : Jvm.MethodName) prog_124_method_1_code (5 : Nat) (Option.none : Option Jvm.ClassFile.FieldType), Jvm.Cond.code ({ cls := "java/lang/Object", name := "<init>", desc := "()V" } : Jvm.MethodName) object_method_1_code (1 : Nat) (Option.none : Option Jvm.ClassFile.FieldType), Jvm.Cond.code ({ cls := "com/example/dependency_container/dependencycontainer/benchmark/StartupBenchmark$Pair", name := "<init>", desc := "(Lcom/example/dependency_container/dependencycontainer/benchmark/StartupBenchmark$Run;Lcom/example/dependency_container/dependencycontainer/benchmark/StartupBenchmark$Run;)V" } : Jvm.MethodName) prog_123_method_1_code (3 : Nat) (Option.none : Option Jvm.ClassFile.FieldType), Jvm.Cond.code ({ cls := "com/example/dependency_container/dependencycontainer/benchmark/StartupBenchmark$Pair", name := "wallRatio", desc := "()D" } : Jvm.MethodName) prog_123_method_2_code (1 : Nat) (Option.some Jvm.ClassFile.FieldType.double)]
set_option maxRecDepth 65536 in
theorem codes_eq : words1.filter isCode = codes1 := rfl
theorem w_codes : ∀ c ∈ words1.filter isCode, c.before args0 about1 = true := by
  rw [codes_eq]
  intro c hc
  simp only [codes1, List.mem_cons, List.not_mem_nil, or_false] at hc
  rcases hc with rfl | rfl | rfl | rfl | rfl
  · exact w_c0
  · exact w_c1
  · exact w_c2
  · exact w_c3
  · exact w_c4
set_option maxRecDepth 65536 in
theorem w_t1 : (words1.take 24).all (fun c => isCode c || c.before args0 about1) = true := by decide +kernel
set_option maxRecDepth 65536 in
theorem w_t2 : (words1.drop 24).all (fun c => isCode c || c.before args0 about1) = true := by decide +kernel
theorem w_tables : (allAtoms (Jvm.Cond.code x code maxLocals ret :: tables_1)).before args0 about1 = true := by
  rw [allAtoms_all]
  show words1.all (fun c => c.before args0 about1) = true
  refine all_split ?_ w_codes
  rw [← List.take_append_drop 24 words1, List.all_append, w_t1, w_t2]
  rfl
set_option maxRecDepth 65536 in
theorem w_case : (Jvm.Cond.and given_1 narrow_1).before args0 about1 = true := by decide +kernel
theorem w_applies : (headSpec (Jvm.Cond.code x code maxLocals ret :: tables_1) room_1).applies x e0.platform about1 = true :=
  (Spec.applies_iff w_frames).mpr ⟨w_running, w_runnable, w_alone, w_named, w_hears, w_ripe, w_room, w_tables⟩
theorem atStart : AtStart classFile x code maxLocals ret World_1 tables_1 room_1 Calls_1 rest_1 Pre_1 launch0 p0 e0 about1 theMethod args0 below0 :=
  ⟨lists_1, trivial, launch0.admits_env _ _ _, launch0.least_env, fairChoices_fair.cas, fairChoices_fair.clock, w_frames, w_args, w_heap, w_applies, trivial, trivial, w_case⟩
end start1
theorem witness_1 : WitnessClaimed_1 := ⟨start1.p0, start1.e0, start1.about1, start1.theMethod, start1.args0, start1.below0, start1.atStart⟩
end Jvm.Pilot.@@N@@
