import JvmDerived
import JvmDerived.Pilot.@@N@@Statement
import JvmDerived.Pilot.@@N@@Code
set_option linter.unusedVariables false
set_option linter.unusedSimpArgs false
/- laws to paste: pair_says, chr8_lo8, shr1 (cut by pick.py; bodies as the Statement names them) -/
namespace Jvm.Pilot.@@N@@
namespace StrChars
open Jvm Sem ClassFile Op Lib Jvm.Stand Jvm.Free.XT Jvm.Free.ALB Jvm.Free.JM Jvm.Free
open Jvm.Lib.Cold (StaticIs)
/-- the byte that i2b leaves of a char -/
def lo8 (x : Int32) : Int32 := x.toInt8.toInt32
/-- the byte, read back as charAt reads it, is the char -/
theorem lo8_mask {x : Int32} (h0 : ¬ x < 0) (h1 : ¬ 255 < x) : lo8 x &&& 255 = x := by
  have t : ∀ k : Fin 256, lo8 (Int32.ofNat k.val) &&& 255 = Int32.ofNat k.val := by decide +kernel
  rw [Int32.lt_iff_toInt_lt] at h0 h1
  have e0 : (0 : Int32).toInt = 0 := rfl
  have e1 : (255 : Int32).toInt = 255 := rfl
  obtain ⟨k, hk⟩ : ∃ k : Nat, x.toInt = k := ⟨x.toInt.toNat, by omega⟩
  have hx : x = Int32.ofNat k := Int32.toInt_inj.mp (by rw [hk, Int32.toInt_ofNat_small (by omega)])
  rw [hx]
  exact t ⟨k, by omega⟩
end StrChars
namespace StrChars
open Jvm Sem ClassFile Op Lib Jvm.Stand Jvm.Free.XT Jvm.Free.ALB Jvm.Free.JM Jvm.Free
open Jvm.Lib.Cold (StaticIs)
def hi8 (x : Int32) : Int32 := lo8 (x >>> ((8 : Int32) &&& 31))
/-- what StringUTF16.getChar makes of two bytes -/
def pairCh (u v : Int32) : Int32 := (((u &&& 255) <<< ((0 : Int32) &&& 31)) ||| ((v &&& 255) <<< ((8 : Int32) &&& 31))).toUInt32.toUInt16.toUInt32.toInt32
theorem lo8_and (x : Int32) : (lo8 x &&& 255).toBitVec.toNat = x.toBitVec.toNat % 256 := by
  have h : (lo8 x).toBitVec = (x.toBitVec.signExtend 8).signExtend 32 := by rw [lo8, Int8.toBitVec_toInt32, Int32.toBitVec_toInt8]
  rw [Int32.toBitVec_and, BitVec.toNat_and, h]
  have e : ((x.toBitVec.signExtend 8).signExtend 32).toNat % 256 = x.toBitVec.toNat % 256 := by
    rw [BitVec.toNat_signExtend]
    have hlt := x.toBitVec.isLt
    simp only [BitVec.toNat_setWidth, BitVec.toNat_signExtend]
    split <;> split <;> omega
  rw [← e]
  exact Nat.and_two_pow_sub_one_eq_mod _ 8
theorem pair_says {c : Int32} (h0 : ¬ c < 0) (h1 : ¬ 65535 < c) : pairCh (lo8 c) (hi8 c) = c := by
  rw [Int32.lt_iff_toInt_lt] at h0 h1
  have e0 : (0 : Int32).toInt = 0 := rfl
  have e1 : (65535 : Int32).toInt = 65535 := rfl
  have hc : c.toInt = c.toBitVec.toNat := by
    have := c.toBitVec.isLt
    have e : c.toInt = c.toBitVec.toInt := rfl
    rw [e] at h0 h1
    rw [e]
    rw [BitVec.toInt_eq_toNat_cond] at h0 h1 ⊢
    split at h0 <;> split <;> omega
  have hn : c.toBitVec.toNat < 65536 := by omega
  have a1 := lo8_and c
  have a2 : (hi8 c &&& 255).toBitVec.toNat = c.toBitVec.toNat / 256 := by
    rw [hi8, lo8_and]
    have e : ((8 : Int32) &&& 31) = 8 := by decide
    rw [e, Int32.toBitVec_shiftRight]
    have e2 : ((8 : Int32).toBitVec.smod 32) = 8#32 := by decide
    rw [e2, BitVec.sshiftRight_eq', BitVec.toNat_sshiftRight_of_msb_false (by rw [BitVec.msb_eq_false_iff_two_mul_lt]; omega)]
    show c.toBitVec.toNat >>> 8 % 256 = _
    rw [Nat.shiftRight_eq_div_pow]
    omega
  unfold pairCh
  apply Int32.toBitVec_inj.mp
  apply BitVec.eq_of_toNat_eq
  have f0 : ((0 : Int32) &&& 31) = 0 := by decide
  have f8 : ((8 : Int32) &&& 31) = 8 := by decide
  rw [f0, f8]
  have g : (((lo8 c &&& 255) <<< (0 : Int32)) ||| ((hi8 c &&& 255) <<< (8 : Int32))).toBitVec.toNat = c.toBitVec.toNat := by
    rw [Int32.toBitVec_or, Int32.toBitVec_shiftLeft, Int32.toBitVec_shiftLeft]
    have s0 : ((0 : Int32).toBitVec.smod 32) = 0#32 := by decide
    have s8 : ((8 : Int32).toBitVec.smod 32) = 8#32 := by decide
    rw [s0, s8, BitVec.toNat_or]
    simp only [BitVec.shiftLeft_eq', BitVec.toNat_shiftLeft, a1, a2]
    show (c.toBitVec.toNat % 256) <<< 0 % 2 ^ 32 ||| (c.toBitVec.toNat / 256) <<< 8 % 2 ^ 32 = _
    rw [Nat.shiftLeft_zero, Nat.mod_eq_of_lt (show c.toBitVec.toNat % 256 < 2 ^ 32 by omega), Nat.mod_eq_of_lt (show (c.toBitVec.toNat / 256) <<< 8 < 2 ^ 32 by rw [Nat.shiftLeft_eq]; omega), Nat.or_comm, ← Nat.shiftLeft_add_eq_or_of_lt (by omega), Nat.shiftLeft_eq]
    omega
  show BitVec.toNat (((((lo8 c &&& 255) <<< (0 : Int32)) ||| ((hi8 c &&& 255) <<< (8 : Int32))).toBitVec.setWidth 16).setWidth 32) = _
  rw [BitVec.toNat_setWidth, BitVec.toNat_setWidth, g]
  omega
end StrChars
namespace StrChars
open Jvm Sem ClassFile Op Lib Jvm.Stand Jvm.Free.XT Jvm.Free.ALB Jvm.Free.JM Jvm.Free
open Jvm.Lib.Cold (StaticIs)
theorem shr1 {n : Nat} (h : 2 * n < 2 ^ 31) : Int32.ofNat (2 * n) >>> ((1 : Int32) &&& 31) = Int32.ofNat n := by
  have e : ((1 : Int32) &&& 31) = 1 := by decide
  rw [e]
  apply Int32.toBitVec_inj.mp
  rw [Int32.toBitVec_shiftRight]
  have e1 : ((1 : Int32).toBitVec.smod 32) = 1#32 := by decide
  have hm : (BitVec.ofNat 32 (2 * n)).toNat = 2 * n := by rw [BitVec.toNat_ofNat, Nat.mod_eq_of_lt (by omega)]
  rw [e1, BitVec.sshiftRight_eq']
  apply BitVec.eq_of_toNat_eq
  show ((BitVec.ofNat 32 (2 * n)).sshiftRight 1).toNat = (BitVec.ofNat 32 n).toNat
  rw [BitVec.toNat_sshiftRight_of_msb_false (by rw [BitVec.msb_eq_false_iff_two_mul_lt, hm]; omega), hm, BitVec.toNat_ofNat, Nat.shiftRight_eq_div_pow]
  omega
/-- charAt's cast of a byte read back -/
def chr8 (u : Int32) : Int32 := (u &&& 255).toUInt32.toUInt16.toUInt32.toInt32
theorem chr8_lo8 {c : Int32} (h0 : ¬ c < 0) (h1 : ¬ 255 < c) : chr8 (lo8 c) = c := by
  have t : ∀ k : Fin 256, (Int32.ofNat k.val).toUInt32.toUInt16.toUInt32.toInt32 = Int32.ofNat k.val := by decide +kernel
  unfold chr8
  rw [lo8_mask h0 h1]
  rw [Int32.lt_iff_toInt_lt] at h0 h1
  have e0 : (0 : Int32).toInt = 0 := rfl
  have e1 : (255 : Int32).toInt = 255 := rfl
  obtain ⟨k, hk⟩ : ∃ k : Nat, c.toInt = k := ⟨c.toInt.toNat, by omega⟩
  have hx : c = Int32.ofNat k := Int32.toInt_inj.mp (by rw [hk, Int32.toInt_ofNat_small (by omega)])
  rw [hx]
  exact t ⟨k, by omega⟩
end StrChars
end Jvm.Pilot.@@N@@
namespace Jvm.Pilot.@@N@@
open Jvm Jvm.ClassFile Sem Op Lib Jvm.Free Jvm.Stand Jvm.LawKit Jvm.RoadKit Bundle Jvm.Pilot.@@N@@.Jvm.D

section OwnKit
variable {p : Program} {l : Launch} {e : Env} {R : Room} {s : State} {m : MethodId} {args : Array Value} {below : List Frame} {meth : Method} {c : Code} {T : State} {locs : List Loc} {cells slots : Nat} {Q : Option Value → Heap → List Loc → Prop} {kc kn : Nat} {h : Heap}
/-- from T, with the frame g on top, the body comes to its end, and the end is as Q says -/
def own_Fin (p : Program) (e : Env) (s : State) (below : List Frame) (Q : Option Value → Heap → List Loc → Prop) (kc kn : Nat) (T : State) (g : JFrame) : Prop :=
  ∃ s₂ o, Steps p.tables e below (T.setTop g) s₂ ∧ s₂.status = .running ∧ Ended s₂ below o ∧ ∃ v L, o = .returned v ∧ Q v s₂.heap L ∧ FrameEnd s o s₂ L kc kn
theorem own_eq {T : State} {h : Heap} {x : Addr} {c : Cell} (e : T.heap = h) (q : h[x]? = some c) : T.heap[x]? = some c := by rw [e]; exact q
theorem own_via {T' : State} {g g' : JFrame} (k : ∀ t, Steps p.tables e below (T'.setTop g') t → Steps p.tables e below (T.setTop g) t) (hf : own_Fin p e s below Q kc kn T' g') : own_Fin p e s below Q kc kn T g := by
  obtain ⟨s2, o, h1, r⟩ := hf
  exact ⟨s2, o, k _ h1, r⟩
theorem own_ret0 (X : Stand p l e R s m args below meth c T locs cells slots) (hx : p.tables.exec = Jvm.exec) (hret : meth.sig.returnType = none) (hlk : meth.locks = false) {pc : Nat} {Ls : Array Slot} (hd : decode c.code pc = .ok (.return_, 1)) (eT : T.heap = h) (hq : Q none h locs) (hc : cells ≤ kc) (hs : slots ≤ kn) : own_Fin p e s below Q kc kn T (mkF m pc Ls []) := by
  obtain ⟨fs, hr, hrun, hended, hW, hsame⟩ := X.leave (v := none) (fun _ => rfl) hlk
  exact ⟨_, _, X.returnOut hx hret hd hr, hrun, hended, none, locs, rfl, by subst eT; exact hq, ⟨_, rfl⟩, hW, hsame.mono hc hs⟩
theorem own_retN (X : Stand p l e R s m args below meth c T locs cells slots) (hx : p.tables.exec = Jvm.exec) {t : FieldType} (hret : meth.sig.returnType = some t) (hlk : meth.locks = false) (ht : t = .boolean ∨ t = .byte ∨ t = .char ∨ t = .short) {pc : Nat} {Ls : Array Slot} {z r : Int32} {rest : List Value} (hd : decode c.code pc = .ok (.ireturn, 1)) (eT : T.heap = h) (hv : nar t z = r) (hq : Q (some (.int r)) h locs) (hc : cells ≤ kc) (hs : slots ≤ kn) : own_Fin p e s below Q kc kn T (mkF m pc Ls (.int z :: rest)) := by
  obtain ⟨fs, hr, hrun, hended, hW, hsame⟩ := X.leave (v := some (.int (nar t z))) (fun h => by rw [hret] at h; cases h) hlk
  exact ⟨_, _, retN X hx hret ht hd hr, hrun, hended, _, locs, rfl, by subst eT; rw [hv]; exact hq, ⟨_, rfl⟩, hW, hsame.mono hc hs⟩
theorem own_retI (X : Stand p l e R s m args below meth c T locs cells slots) (hx : p.tables.exec = Jvm.exec) (hret : meth.sig.returnType = some .int) (hlk : meth.locks = false) {pc : Nat} {Ls : Array Slot} {z r : Int32} {rest : List Value} (hd : decode c.code pc = .ok (.ireturn, 1)) (eT : T.heap = h) (hv : z = r) (hq : Q (some (.int r)) h locs) (hc : cells ≤ kc) (hs : slots ≤ kn) : own_Fin p e s below Q kc kn T (mkF m pc Ls (.int z :: rest)) := by
  subst hv
  obtain ⟨fs, hr, hrun, hended, hW, hsame⟩ := X.leave (v := some (.int z)) (fun h => by rw [hret] at h; cases h) hlk
  exact ⟨_, _, retOut X hx hret rfl (Or.inl ⟨rfl, Or.inl rfl, z, rfl⟩) hd hr, hrun, hended, _, locs, rfl, by subst eT; exact hq, ⟨_, rfl⟩, hW, hsame.mono hc hs⟩
theorem own_retJ (X : Stand p l e R s m args below meth c T locs cells slots) (hx : p.tables.exec = Jvm.exec) (hret : meth.sig.returnType = some .long) (hlk : meth.locks = false) {pc : Nat} {Ls : Array Slot} {z r : Int64} {rest : List Value} (hd : decode c.code pc = .ok (.lreturn, 1)) (eT : T.heap = h) (hv : z = r) (hq : Q (some (.long r)) h locs) (hc : cells ≤ kc) (hs : slots ≤ kn) : own_Fin p e s below Q kc kn T (mkF m pc Ls (.long z :: rest)) := by
  subst hv
  obtain ⟨fs, hr, hrun, hended, hW, hsame⟩ := X.leave (v := some (.long z)) (fun h => by rw [hret] at h; cases h) hlk
  exact ⟨_, _, retOut X hx hret rfl (Or.inr (Or.inl ⟨rfl, rfl, z, rfl⟩)) hd hr, hrun, hended, _, locs, rfl, by subst eT; exact hq, ⟨_, rfl⟩, hW, hsame.mono hc hs⟩
theorem own_retD (X : Stand p l e R s m args below meth c T locs cells slots) (hx : p.tables.exec = Jvm.exec) (hret : meth.sig.returnType = some .double) (hlk : meth.locks = false) {pc : Nat} {Ls : Array Slot} {z r : UInt64} {rest : List Value} (hd : decode c.code pc = .ok (.dreturn, 1)) (eT : T.heap = h) (hv : z = r) (hq : Q (some (.double r)) h locs) (hc : cells ≤ kc) (hs : slots ≤ kn) : own_Fin p e s below Q kc kn T (mkF m pc Ls (.double z :: rest)) := by
  subst hv
  obtain ⟨fs, hr, hrun, hended, hW, hsame⟩ := X.leave (v := some (.double z)) (fun h => by rw [hret] at h; cases h) hlk
  exact ⟨_, _, retOut X hx hret rfl (Or.inr (Or.inr (Or.inl ⟨rfl, rfl, z, rfl⟩))) hd hr, hrun, hended, _, locs, rfl, by subst eT; exact hq, ⟨_, rfl⟩, hW, hsame.mono hc hs⟩
theorem own_retA (X : Stand p l e R s m args below meth c T locs cells slots) (hx : p.tables.exec = Jvm.exec) {t : FieldType} (hret : meth.sig.returnType = some t) (hlk : meth.locks = false) (ht : t.isReference = true) {pc : Nat} {Ls : Array Slot} {w : Value} {rest : List Value} (hw : w.isRef = true) (hd : decode c.code pc = .ok (.areturn, 1)) (eT : T.heap = h) (hq : Q (some w) h locs) (hc : cells ≤ kc) (hs : slots ≤ kn) : own_Fin p e s below Q kc kn T (mkF m pc Ls (w :: rest)) := by
  obtain ⟨fs, hr, hrun, hended, hW, hsame⟩ := X.leave (v := some w) (fun h => by rw [hret] at h; cases h) hlk
  have hn : narrow t w = w := by
    cases t <;> first | (cases ht; done) | rfl
  exact ⟨_, _, retOut X hx hret hn (Or.inr (Or.inr (Or.inr (Or.inr ⟨rfl, ht, hw⟩)))) hd hr, hrun, hended, _, locs, rfl, by subst eT; exact hq, ⟨_, rfl⟩, hW, hsame.mono hc hs⟩
end OwnKit

section OwnKitH
variable {p : Program} {l : Launch} {e : Env} {R : Room} {s : State} {m : MethodId} {args : Array Value} {below : List Frame} {meth : Method} {c : Code} {T : State} {locs : List Loc} {cells slots : Nat} {Q : Option Value → Heap → List Loc → Prop} {kc kn : Nat} {h h0 : Heap} {Z : State} {a0 : Array Value} {EL : List (String × Nat)} {vm : Vm} {k0 : Nat}
/-- own_Fin of a body that may load String constants -/
def own_FinH (p : Program) (e : Env) (s : State) (below : List Frame) (Z : State) (EL : List (String × Nat)) (Q : Option Value → Heap → List Loc → Prop) (kc kn : Nat) (T : State) (g : JFrame) : Prop :=
  ∃ s₂ o, Steps p.tables e below (T.setTop g) s₂ ∧ s₂.status = .running ∧ Ended s₂ below o ∧ ∃ v L, o = .returned v ∧ Q v s₂.heap L ∧ CHr Z EL s.vm s.heap s₂.vm s₂.heap ∧ ReturnedEndW s o s₂ L kc kn
theorem own_viaH {T' : State} {g g' : JFrame} (k : ∀ t, Steps p.tables e below (T'.setTop g') t → Steps p.tables e below (T.setTop g) t) (hf : own_FinH p e s below Z EL Q kc kn T' g') : own_FinH p e s below Z EL Q kc kn T g := by
  obtain ⟨s2, o, h1, r⟩ := hf
  exact ⟨s2, o, k _ h1, r⟩
theorem own_endH (X : Stand p l e R (s.setVm vm) m args below meth c T locs cells slots) (hlk : meth.locks = false) (hEL : EW Z a0 EL) (hZ : Z.Warmed39 vm) (hS : s.Since vm k0) (hk : k0 ≤ h.size) (hh : s.heap = h0) (C : CHr Z EL s.vm h0 vm h) (eT : T.heap = h) {v : Option Value} (hv : meth.sig.returnType = none → v = none) {g : JFrame}
    (st : ∀ fs : List Frame, (∀ (f : JFrame) (acts : List Action), f.method = m → f.locked = none → f.entered = [] → (doReturn e (T.setTop f) acts v).1 = T.setFrames fs) → Steps p.tables e below (T.setTop g) (T.setFrames fs)) (hq : Q v h locs) (hc : cells ≤ kc) (hs : slots ≤ kn) : own_FinH p e s below Z EL Q kc kn T g := by
  obtain ⟨fs, hr, hrun, hended, w1, w2, w3, w4⟩ := X.leaveW hS (by rw [eT]; exact hk) hv hlk
  subst eT hh
  have K : CHr Z EL vm T.heap T.vm T.heap := CHv.at X hZ hEL C.1
  exact ⟨_, _, st fs hr, hrun, hended, v, locs, rfl, hq, C.trans K, w1, w2, w3, w4.mono hc hs⟩
theorem own_ret0H (X : Stand p l e R (s.setVm vm) m args below meth c T locs cells slots) (hx : p.tables.exec = Jvm.exec) (hret : meth.sig.returnType = none) (hlk : meth.locks = false) (hEL : EW Z a0 EL) (hZ : Z.Warmed39 vm) (hS : s.Since vm k0) (hk : k0 ≤ h.size) (hh : s.heap = h0) (C : CHr Z EL s.vm h0 vm h) {pc : Nat} {Ls : Array Slot} (hd : decode c.code pc = .ok (.return_, 1)) (eT : T.heap = h) (hq : Q none h locs) (hc : cells ≤ kc) (hs : slots ≤ kn) : own_FinH p e s below Z EL Q kc kn T (mkF m pc Ls []) :=
  own_endH X hlk hEL hZ hS hk hh C eT (fun _ => rfl) (fun fs hr => X.returnOut hx hret hd hr) hq hc hs
theorem own_retNH (X : Stand p l e R (s.setVm vm) m args below meth c T locs cells slots) (hx : p.tables.exec = Jvm.exec) {t : FieldType} (hret : meth.sig.returnType = some t) (hlk : meth.locks = false) (hEL : EW Z a0 EL) (hZ : Z.Warmed39 vm) (hS : s.Since vm k0) (hk : k0 ≤ h.size) (hh : s.heap = h0) (C : CHr Z EL s.vm h0 vm h) (ht : t = .boolean ∨ t = .byte ∨ t = .char ∨ t = .short) {pc : Nat} {Ls : Array Slot} {z r : Int32} {rest : List Value} (hd : decode c.code pc = .ok (.ireturn, 1)) (eT : T.heap = h) (hv : nar t z = r) (hq : Q (some (.int r)) h locs) (hc : cells ≤ kc) (hs : slots ≤ kn) : own_FinH p e s below Z EL Q kc kn T (mkF m pc Ls (.int z :: rest)) := by
  subst hv
  exact own_endH X hlk hEL hZ hS hk hh C eT (fun q => by rw [hret] at q; cases q) (fun fs hr => retN X hx hret ht hd hr) hq hc hs
theorem own_retIH (X : Stand p l e R (s.setVm vm) m args below meth c T locs cells slots) (hx : p.tables.exec = Jvm.exec) (hret : meth.sig.returnType = some .int) (hlk : meth.locks = false) (hEL : EW Z a0 EL) (hZ : Z.Warmed39 vm) (hS : s.Since vm k0) (hk : k0 ≤ h.size) (hh : s.heap = h0) (C : CHr Z EL s.vm h0 vm h) {pc : Nat} {Ls : Array Slot} {z r : Int32} {rest : List Value} (hd : decode c.code pc = .ok (.ireturn, 1)) (eT : T.heap = h) (hv : z = r) (hq : Q (some (.int r)) h locs) (hc : cells ≤ kc) (hs : slots ≤ kn) : own_FinH p e s below Z EL Q kc kn T (mkF m pc Ls (.int z :: rest)) := by
  subst hv
  exact own_endH X hlk hEL hZ hS hk hh C eT (fun q => by rw [hret] at q; cases q) (fun fs hr => retOut X hx hret rfl (Or.inl ⟨rfl, Or.inl rfl, z, rfl⟩) hd hr) hq hc hs
theorem own_retAH (X : Stand p l e R (s.setVm vm) m args below meth c T locs cells slots) (hx : p.tables.exec = Jvm.exec) {t : FieldType} (hret : meth.sig.returnType = some t) (hlk : meth.locks = false) (hEL : EW Z a0 EL) (hZ : Z.Warmed39 vm) (hS : s.Since vm k0) (hk : k0 ≤ h.size) (hh : s.heap = h0) (C : CHr Z EL s.vm h0 vm h) (ht : t.isReference = true) {pc : Nat} {Ls : Array Slot} {w : Value} {rest : List Value} (hw : w.isRef = true) (hd : decode c.code pc = .ok (.areturn, 1)) (eT : T.heap = h) (hq : Q (some w) h locs) (hc : cells ≤ kc) (hs : slots ≤ kn) : own_FinH p e s below Z EL Q kc kn T (mkF m pc Ls (w :: rest)) := by
  have hn : narrow t w = w := by
    cases t <;> first | (cases ht; done) | rfl
  exact own_endH X hlk hEL hZ hS hk hh C eT (fun q => by rw [hret] at q; cases q) (fun fs hr => retOut X hx hret hn (Or.inr (Or.inr (Or.inr (Or.inr ⟨rfl, ht, hw⟩)))) hd hr) hq hc hs
/-- a String whose value is still null is no booked one -/
theorem own_safe_null {x : Addr} (hal : Z.vm.Alike vm) (E : Exa Z h x "java/lang/String") (F : Fld Z h x "java/lang/String" "value" "[B" .null) : Safe Z EL vm h x := fun B => by
  obtain ⟨p1, -, u, a, -, q, -, G, rfl | rfl⟩ := B
  · obtain ⟨cell, cf, k, i, f, h1, h2, h3, -, -, -, h7⟩ := F
    obtain ⟨cS, ⟨⟨s1, s2, s3, ⟨c', k', i', s4, s4'⟩, s5, s6, s7, s8, -⟩, -, -⟩, -⟩ := G
    cases (show h[q.sa]? = some q.sC from s1).symm.trans h1
    obtain ⟨k2, z4⟩ := ff_back (U := Wst Z vm h) hal s4
    cases h2.symm.trans z4
    rw [h7] at s8
    cases s8
  · obtain ⟨cell, k, e1, e2, e3, -⟩ := E
    cases (show h[q.sd]? = some q.SA from G.hd).symm.trans e1
    obtain ⟨cS, -, -, f, -⟩ := G
    have f' : vm.findClass "[B" = some q.SA.cls := f
    rw [hal.findClass] at f'
    obtain ⟨k1, q1, q2⟩ := Vm.findClass_spec f'
    obtain ⟨k2, q3, q4⟩ := Vm.findClass_spec e2
    cases q1.symm.trans q3
    exact absurd (q2.symm.trans q4) (by decide)
end OwnKitH

theorem own_gset {ws : List Value} {i : Nat} {v d : Value} (hi : i < ws.length) : (ws.set i v).getD i d = v := by
  rw [List.getD_eq_getElem?_getD, List.getElem?_set_self hi]; rfl
theorem own_gset_ne {ws : List Value} {i k : Nat} {v d : Value} (hi : i ≠ k) : (ws.set i v).getD k d = ws.getD k d := by
  rw [List.getD_eq_getElem?_getD, List.getElem?_set_ne hi, List.getD_eq_getElem?_getD]
theorem own_neg31 {x : Int32} (h : x.toInt < 0) : (x.toUInt32 >>> ((31 : Int32) &&& 31).toUInt32).toInt32 = 1 := by
  have e := c_iushr x (31 : Int32) 31 (by decide) (by decide)
  have r := rng32 x
  apply Int32.toInt_inj.mp
  have e1 : (1 : Int32).toInt = 1 := rfl
  omega

theorem own_lt32 {a b : Int32} : a < b ↔ a.toInt < b.toInt := Int32.lt_iff_toInt_lt
theorem own_getD {ds : List Int32} {k : Nat} : (ds.map Value.int).getD k (.int 0) = .int (ds.getD k 0) := by
  simp only [List.getD_eq_getElem?_getD, List.getElem?_map]
  cases ds[k]? <;> rfl
theorem own_toI {i : Nat} (hi : i ≤ 10000) : (Int32.ofNat i).toInt = (i : Int) := Int32.toInt_ofNat_of_lt (by omega)
theorem own_jI {i : Nat} {j : Int32} (hj : j = Int32.ofNat i) (hi : i ≤ 10000) : j.toInt = (i : Int) := by rw [hj]; exact own_toI hi
theorem own_clamp {i : Nat} {j : Int32} (hj : j = Int32.ofNat i) (hi : i ≤ 10000) : j.toNatClampNeg = i := by
  show j.toInt.toNat = i
  rw [own_jI hj hi]; exact Int.toNat_natCast i
theorem own_el {ds : List Int32} {i : Nat} {j : Int32} (hj : j = Int32.ofNat i) (hi : i ≤ 10000) : (ds.map Value.int).getD j.toNatClampNeg (.int 0) = .int (ds.getD i 0) := by rw [own_clamp hj hi]; exact own_getD
theorem own_ltN {i n : Nat} {j N : Int32} (hj : j = Int32.ofNat i) (hN : N = Int32.ofNat n) (hi : i ≤ 10000) (hn : n ≤ 10000) : j < N ↔ i < n := by
  rw [own_lt32, own_jI hj hi, own_jI hN hn]; omega
theorem own_nneg {i : Nat} {j : Int32} (hj : j = Int32.ofNat i) (hi : i ≤ 10000) : ¬ j < 0 := by
  have e : (0 : Int32).toInt = 0 := rfl
  rw [own_lt32, own_jI hj hi, e]; omega
theorem own_inb {i n : Nat} {j N : Int32} (hj : j = Int32.ofNat i) (hN : N = Int32.ofNat n) (hi : i < n) (hn : n ≤ 10000) : ¬ j < 0 ∧ j < N := ⟨own_nneg hj (by omega), (own_ltN hj hN (by omega) hn).mpr hi⟩
theorem own_succ {i : Nat} {j : Int32} (hj : j = Int32.ofNat i) : j + (1 : Int32) = Int32.ofNat (i + 1) := by rw [hj, Int32.ofNat_add]; rfl
theorem own_one {z : Int32} : One (.val (.int z)) := Or.inr ⟨_, rfl, rfl⟩
theorem own_subI {x y : Int32} {a b : Int} (hx : x.toInt = a) (hy : y.toInt = b) (h1 : -2147483648 ≤ a - b) (h2 : a - b < 2147483648) : (x - y).toInt = a - b := by
  have e := c_isub x y
  have r := rng32 (x - y)
  omega
theorem own_addI {x y : Int32} {a b : Int} (hx : x.toInt = a) (hy : y.toInt = b) (h1 : -2147483648 ≤ a + b) (h2 : a + b < 2147483648) : (x + y).toInt = a + b := by
  have e := c_iadd x y
  have r := rng32 (x + y)
  omega
theorem own_nz {n : Nat} {N : Int32} (hN : N = Int32.ofNat n) (hp0 : 0 < n) (hn : n ≤ 4000) : ¬ N = (0 : Int32) := fun q => by
  have e := own_jI hN (by omega)
  rw [q] at e
  have e2 : (0 : Int32).toInt = 0 := rfl
  omega
theorem own_ofne {i n : Nat} {j N : Int32} (hj : j = Int32.ofNat i) (hN : N = Int32.ofNat n) (hi : i < n) (hn : n ≤ 4000) : ¬ j = N := fun q => by
  have e := own_jI hN (by omega)
  have e2 := own_jI hj (by omega)
  rw [q] at e2
  omega
theorem own_small {n : Nat} {j : Int32} (hj : j = Int32.ofNat n) (hn : n ≤ 4000) : j < (1073741823 : Int32) := by
  have e : (1073741823 : Int32).toInt = 1073741823 := rfl
  rw [own_lt32, own_jI hj (by omega), e]; omega
theorem own_i2c {x : Int32} (h0 : 0 ≤ x.toInt) (h1 : x.toInt < 65536) : x.toUInt32.toUInt16.toUInt32.toInt32 = x := Int32.toInt_inj.mp (by have := c_i2c x; omega)
def own_lat (x : Int32) : Prop := 0 ≤ x.toInt ∧ x.toInt ≤ 255
def own_chr (x : Int32) : Prop := 0 ≤ x.toInt ∧ x.toInt ≤ 65535
def own_chs (cs : List Int32) : Prop := ∀ q, own_chr (cs.getD q 0)
theorem own_chs_of {cs : List Int32} (h : ∀ c ∈ cs, own_chr c) : own_chs cs := fun q => by
  rw [List.getD_eq_getElem?_getD]
  cases e : cs[q]? with
  | none => exact ⟨by decide, by decide⟩
  | some c => exact h c (List.mem_of_getElem? e)
theorem own_255 {x : Int32} : (255 : Int32) < x ↔ 255 < x.toInt := by
  have e : (255 : Int32).toInt = 255 := rfl
  rw [own_lt32, e]
theorem own_lat_of {x : Int32} (h : own_chr x) (h2 : ¬ (255 : Int32) < x) : own_lat x := by
  rw [own_255] at h2
  exact ⟨h.1, by omega⟩
theorem own_narch {x : Int32} (h : own_chr x) : nar .char x = x := by
  obtain ⟨h1, h2⟩ := h
  show x.toUInt32.toUInt16.toUInt32.toInt32 = _
  rw [own_i2c (by omega) (by omega)]
abbrev own_lo (x : Int32) : Int32 := x.toInt8.toInt32
abbrev own_hi (x : Int32) : Int32 := (x >>> ((8 : Int32) &&& 31)).toInt8.toInt32
theorem own_shr0 (N : Int32) : N >>> ((0 : Int32) &&& 31) = N := Int32.toInt_inj.mp (by rw [c_ishr N 0 0 (by decide)]; simp)
theorem own_lo2 (x : Int32) : x.toInt8.toInt32.toInt8.toInt32 = x.toInt8.toInt32 := by rw [Int8.toInt8_toInt32]
theorem own_st1 (x : Int32) : nar .byte (x.toInt8.toInt32) = own_lo x := own_lo2 x
theorem own_st0 (x : Int32) : nar .byte ((x >>> ((0 : Int32) &&& 31)).toInt8.toInt32) = own_lo x := by rw [own_shr0]; exact own_lo2 x
theorem own_st8 (x : Int32) : nar .byte ((x >>> ((8 : Int32) &&& 31)).toInt8.toInt32) = own_hi x := own_lo2 _
theorem own_cdb {cd : Int32} (h : cd = (0 : Int32) ∨ cd = (1 : Int32)) : nar .byte cd = cd := by rcases h with rfl | rfl <;> decide
theorem own_cdn {cd : Int32} (h : cd = (0 : Int32) ∨ cd = (1 : Int32)) : narrow .byte (.int cd) = .int cd := by rcases h with rfl | rfl <;> decide
theorem own_cdf {cd : Int32} (h : cd = (0 : Int32) ∨ cd = (1 : Int32)) : fits .byte (.int cd) = true := by rcases h with rfl | rfl <;> decide
theorem own_zl {x : Int32} {k : Int32} {n : Int} (hk : k.toInt = n) : ¬ x < 0 ∧ ¬ k < x ↔ 0 ≤ x.toInt ∧ x.toInt ≤ n := by
  have e : (0 : Int32).toInt = 0 := rfl
  rw [own_lt32, own_lt32, e, hk]; omega
theorem own_getch {c : Int32} (h : own_chr c) : nar .char ((((own_lo c &&& (255 : Int32)) <<< ((0 : Int32) &&& 31)) ||| ((own_hi c &&& (255 : Int32)) <<< ((8 : Int32) &&& 31))).toUInt32.toUInt16.toUInt32.toInt32) = c := by
  have q := (own_zl (x := c) (k := (65535 : Int32)) (n := 65535) rfl).mpr h
  have e : (((own_lo c &&& (255 : Int32)) <<< ((0 : Int32) &&& 31)) ||| ((own_hi c &&& (255 : Int32)) <<< ((8 : Int32) &&& 31))).toUInt32.toUInt16.toUInt32.toInt32 = c := StrChars.pair_says q.1 q.2
  rw [e]; exact own_narch h
theorem own_latch {c : Int32} (h : own_lat c) : nar .char ((own_lo c &&& (255 : Int32)).toUInt32.toUInt16.toUInt32.toInt32) = c := by
  have q := (own_zl (x := c) (k := (255 : Int32)) (n := 255) rfl).mpr h
  have e : (own_lo c &&& (255 : Int32)).toUInt32.toUInt16.toUInt32.toInt32 = c := StrChars.chr8_lo8 q.1 q.2
  rw [e]; exact own_narch ⟨h.1, by have := h.2; omega⟩
theorem own_shl1 {i : Nat} {j : Int32} (hj : j = Int32.ofNat i) (hi : i ≤ 4000) : (j <<< ((1 : Int32) &&& 31)).toInt = 2 * (i : Int) := by
  have e := c_ishl j (1 : Int32) 1 (by decide)
  have r := rng32 (j <<< ((1 : Int32) &&& 31))
  rw [own_jI hj (by omega)] at e
  omega
theorem own_sh1 {i : Nat} {j : Int32} (hj : j = Int32.ofNat i) (hi : i ≤ 4000) : (j <<< ((1 : Int32) &&& 31)).toNatClampNeg = 2 * i := by
  show (j <<< ((1 : Int32) &&& 31)).toInt.toNat = _
  rw [own_shl1 hj hi]; omega
theorem own_shl2 {i : Nat} {j : Int32} (hj : j = Int32.ofNat i) (hi : i ≤ 4000) : ((j <<< ((1 : Int32) &&& 31)) + (1 : Int32)).toInt = 2 * (i : Int) + 1 := own_addI (own_shl1 hj hi) rfl (by omega) (by omega)
theorem own_sh2 {i : Nat} {j : Int32} (hj : j = Int32.ofNat i) (hi : i ≤ 4000) : ((j <<< ((1 : Int32) &&& 31)) + (1 : Int32)).toNatClampNeg = 2 * i + 1 := by
  show ((j <<< ((1 : Int32) &&& 31)) + (1 : Int32)).toInt.toNat = _
  rw [own_shl2 hj hi]; omega
theorem own_shin {i n : Nat} {j N2 : Int32} (hj : j = Int32.ofNat i) (hN : N2 = Int32.ofNat (2 * n)) (hi : i < n) (hn : n ≤ 4000) : ¬ (j <<< ((1 : Int32) &&& 31)) < 0 ∧ (j <<< ((1 : Int32) &&& 31)) < N2 := by
  have e0 : (0 : Int32).toInt = 0 := rfl
  rw [own_lt32, own_lt32, own_shl1 hj (by omega), own_jI hN (by omega), e0]; omega
theorem own_shin2 {i n : Nat} {j N2 : Int32} (hj : j = Int32.ofNat i) (hN : N2 = Int32.ofNat (2 * n)) (hi : i < n) (hn : n ≤ 4000) : ¬ ((j <<< ((1 : Int32) &&& 31)) + (1 : Int32)) < 0 ∧ ((j <<< ((1 : Int32) &&& 31)) + (1 : Int32)) < N2 := by
  have e0 : (0 : Int32).toInt = 0 := rfl
  rw [own_lt32, own_lt32, own_shl2 hj (by omega), own_jI hN (by omega), e0]; omega
theorem own_dbl2 {n : Nat} {j : Int32} (hj : j = Int32.ofNat n) (hn : n ≤ 4000) : j <<< ((1 : Int32) &&& 31) = Int32.ofNat (2 * n) := Int32.toInt_inj.mp (by rw [own_shl1 hj hn, own_toI (by omega)]; omega)
theorem own_half {n : Nat} {N2 : Int32} (hN : N2 = Int32.ofNat (2 * n)) (hn : n ≤ 4000) : N2 >>> ((1 : Int32) &&& 31) = Int32.ofNat n := by rw [hN]; exact StrChars.shr1 (by omega)
def own_wide (cs : List Int32) (ws : List Value) : Prop := ∀ q, q < cs.length → ws.getD (2 * q) (.int 0) = .int (own_lo (cs.getD q 0)) ∧ ws.getD (2 * q + 1) (.int 0) = .int (own_hi (cs.getD q 0))
def own_thin (cs : List Int32) (ws : List Value) : Prop := ∀ q, q < cs.length → ws.getD q (.int 0) = .int (own_lo (cs.getD q 0)) ∧ ¬ (255 : Int32) < cs.getD q 0
/-- the bytes vs, with the coder cd, spell cs -/
def own_cod (cs : List Int32) (cd N2 : Int32) (vs : List Value) : Prop := (cd = (0 : Int32) ∧ N2 = Int32.ofNat cs.length ∧ own_thin cs vs) ∨ (cd = (1 : Int32) ∧ N2 = Int32.ofNat (2 * cs.length) ∧ own_wide cs vs ∧ ∃ q, q < cs.length ∧ (255 : Int32) < cs.getD q 0)
def own_cmpd (cs : List Int32) (N r : Int32) (ws : List Value) : Prop := (r = N ∧ own_thin cs ws) ∨ ∃ i, i < cs.length ∧ r = Int32.ofNat i ∧ (255 : Int32) < cs.getD i 0
section
variable {cs : List Int32} {cd N2 N : Int32} {vs ws : List Value}
theorem own_cod_cd (h : own_cod cs cd N2 vs) : cd = (0 : Int32) ∨ cd = (1 : Int32) := h.imp (fun q => q.1) fun q => q.1
theorem own_cod_l (h : own_cod cs cd N2 vs) (hd : cd = (0 : Int32)) : N2 = Int32.ofNat cs.length ∧ own_thin cs vs := (h.resolve_right fun q => absurd (hd.symm.trans q.1) (by decide)).2
theorem own_cod_u (h : own_cod cs cd N2 vs) (hd : ¬ cd = (0 : Int32)) : N2 = Int32.ofNat (2 * cs.length) ∧ own_wide cs vs ∧ ∃ q, q < cs.length ∧ (255 : Int32) < cs.getD q 0 := (h.resolve_left fun q => hd q.1).2
theorem own_cod_len (h : own_cod cs cd N2 vs) (hlen : cs.length ≤ 4000) : N2 >>> (cd &&& 31) = Int32.ofNat cs.length := by
  rcases h with ⟨rfl, h, -⟩ | ⟨rfl, h, -⟩
  · rw [own_shr0]; exact h
  · exact own_half h hlen
theorem own_cfl (h : own_cod cs cd N2 vs) (hN : N = Int32.ofNat cs.length) (hn : cs.length ≤ 4000) (hp : 0 < cs.length) : nar .byte (((N - N2).toUInt32 >>> ((31 : Int32) &&& 31).toUInt32).toInt32.toInt8.toInt32) = cd := by
  rcases h with ⟨rfl, h, -⟩ | ⟨rfl, h, -⟩
  · have e : N - N2 = 0 := by rw [h, hN]; exact Int32.sub_self _
    rw [e]; decide
  · have e := own_subI (own_jI hN (by omega)) (own_jI h (by omega)) (by omega) (by omega)
    have q : ((N - N2).toUInt32 >>> ((31 : Int32) &&& 31).toUInt32).toInt32 = 1 := own_neg31 (by omega)
    rw [q]; decide
theorem own_setn {i : Nat} (hh : ∀ q, q < i → ws.getD q (.int 0) = .int (own_lo (cs.getD q 0)) ∧ ¬ (255 : Int32) < cs.getD q 0) (hi : i < ws.length) (he : ¬ (255 : Int32) < cs.getD i 0) : ∀ q, q < i + 1 → (ws.set i (.int (own_lo (cs.getD i 0)))).getD q (.int 0) = .int (own_lo (cs.getD q 0)) ∧ ¬ (255 : Int32) < cs.getD q 0 := fun q hq => by
  rcases Nat.lt_succ_iff_lt_or_eq.mp hq with z | rfl
  · rw [own_gset_ne (by omega)]; exact hh q z
  · rw [own_gset hi]; exact ⟨rfl, he⟩
theorem own_set2 {i : Nat} (hh : ∀ q, q < i → ws.getD (2 * q) (.int 0) = .int (own_lo (cs.getD q 0)) ∧ ws.getD (2 * q + 1) (.int 0) = .int (own_hi (cs.getD q 0))) (hi : 2 * i + 1 < ws.length) : ∀ q, q < i + 1 → ((ws.set (2 * i) (.int (own_lo (cs.getD i 0)))).set (2 * i + 1) (.int (own_hi (cs.getD i 0)))).getD (2 * q) (.int 0) = .int (own_lo (cs.getD q 0)) ∧ ((ws.set (2 * i) (.int (own_lo (cs.getD i 0)))).set (2 * i + 1) (.int (own_hi (cs.getD i 0)))).getD (2 * q + 1) (.int 0) = .int (own_hi (cs.getD q 0)) := fun q hq => by
  rcases Nat.lt_succ_iff_lt_or_eq.mp hq with z | rfl
  · rw [own_gset_ne (by omega), own_gset_ne (by omega), own_gset_ne (by omega), own_gset_ne (by omega)]; exact hh q z
  · rw [own_gset_ne (by omega), own_gset (by omega), own_gset (by rw [List.length_set]; exact hi)]; exact ⟨rfl, rfl⟩
end
theorem own_eqi {Z : State} {args : Array Value} {t : Term} {k : Int32} (h : (Cond.eq t (.int k)).value args Z none Z [] = some true) : t.eval args Z none [] Z = some (.int k) := eqv_i (Term.int_eval k) h
def own_EL : List (String × Nat) := [("java/lang/String", 7)]
theorem own_ew {Z : State} {a0 : Array Value} (hw : ∀ d ∈ tables_1, d.before a0 Z = true) : EW Z a0 own_EL := (EW.cons (hw _ (List.mem_of_getElem? (i := 25) rfl)) (by decide) EW.nil)
theorem own_atoms {Z : State} {a0 : Array Value} (hw : ∀ d ∈ tables_1, d.before a0 Z = true) : ∀ a ∈ Bundle.stringAtoms, a.before a0 Z = true := fun d hd => hw d ((by decide +kernel : ∀ d ∈ Bundle.stringAtoms, d ∈ tables_1) d hd)

def own_sur (c : Int32) : Prop := 55296 ≤ c.toInt ∧ c.toInt < 57344
def own_his (c : Int32) : Prop := 55296 ≤ c.toInt ∧ c.toInt < 56320
def own_los (c : Int32) : Prop := 56320 ≤ c.toInt ∧ c.toInt < 57344
theorem own_k1 : (55296 : Int32).toInt = 55296 := rfl
theorem own_k2 : (57344 : Int32).toInt = 57344 := rfl
theorem own_k3 : (56320 : Int32).toInt = 56320 := rfl
theorem own_sur_a {c : Int32} (h : c < (55296 : Int32)) (q : own_sur c) : False := by rw [own_lt32, own_k1] at h; have := q.1; omega
theorem own_sur_b {c : Int32} (h : ¬ c < (57344 : Int32)) (q : own_sur c) : False := by rw [own_lt32, own_k2] at h; have := q.2; omega
theorem own_sur_c {c : Int32} (h1 : ¬ c < (55296 : Int32)) (h2 : c < (57344 : Int32)) : own_sur c := by rw [own_lt32, own_k1] at h1; rw [own_lt32, own_k2] at h2; exact ⟨by omega, h2⟩
theorem own_his_a {c : Int32} (h : c < (55296 : Int32)) (q : own_his c) : False := by rw [own_lt32, own_k1] at h; have := q.1; omega
theorem own_his_b {c : Int32} (h : ¬ c < (56320 : Int32)) (q : own_his c) : False := by rw [own_lt32, own_k3] at h; have := q.2; omega
theorem own_his_c {c : Int32} (h1 : ¬ c < (55296 : Int32)) (h2 : c < (56320 : Int32)) : own_his c := by rw [own_lt32, own_k1] at h1; rw [own_lt32, own_k3] at h2; exact ⟨by omega, h2⟩
theorem own_los_a {c : Int32} (h : c < (56320 : Int32)) (q : own_los c) : False := by rw [own_lt32, own_k3] at h; have := q.1; omega
theorem own_los_b {c : Int32} (h : ¬ c < (57344 : Int32)) (q : own_los c) : False := by rw [own_lt32, own_k2] at h; have := q.2; omega
theorem own_los_c {c : Int32} (h1 : ¬ c < (56320 : Int32)) (h2 : c < (57344 : Int32)) : own_los c := by rw [own_lt32, own_k3] at h1; rw [own_lt32, own_k2] at h2; exact ⟨by omega, h2⟩
abbrev own_tcp (c d : Int32) : Int32 := (((c <<< ((10 : Int32) &&& 31)) + d) + (-56613888 : Int32))
/-- the sign of a comparison -/
def own_sig (x y : Int) (r : Int32) : Prop := (x < y ∧ r = (-1 : Int32)) ∨ (y < x ∧ r = (1 : Int32)) ∨ (x = y ∧ r = (0 : Int32))
theorem own_sig_lt {x y : Int32} (h : x < y) : own_sig x.toInt y.toInt (-1 : Int32) := Or.inl ⟨own_lt32.mp h, rfl⟩
theorem own_sig_gt2 {x y : Int32} (h : y < x) : own_sig x.toInt y.toInt (1 : Int32) := Or.inr (Or.inl ⟨own_lt32.mp h, rfl⟩)
theorem own_sig_eq {x y : Int32} (h1 : ¬ x < y) (h2 : ¬ y < x) : own_sig x.toInt y.toInt (0 : Int32) := by rw [own_lt32] at h1 h2; exact Or.inr (Or.inr ⟨by omega, rfl⟩)
theorem own_sig_eq2 {x y : Int32} (h : x = y) : own_sig x.toInt y.toInt (0 : Int32) := Or.inr (Or.inr ⟨by rw [h], rfl⟩)
theorem own_sig_gt {x y : Int32} (h1 : ¬ x < y) (h2 : ¬ x = y) : own_sig x.toInt y.toInt (1 : Int32) := by
  rw [own_lt32] at h1
  have : x.toInt ≠ y.toInt := fun q => h2 (Int32.toInt_inj.mp q)
  exact Or.inr (Or.inl ⟨by omega, rfl⟩)
theorem own_sig_eqv {x y x' y' : Int} {r r' : Int32} (h : own_sig x y r) (h' : own_sig x' y' r') (e1 : x < y ↔ x' < y') (e2 : y < x ↔ y' < x') : r = r' := by
  rcases h with ⟨a, rfl⟩ | ⟨a, rfl⟩ | ⟨a, rfl⟩ <;> rcases h' with ⟨b, rfl⟩ | ⟨b, rfl⟩ | ⟨b, rfl⟩ <;> first | rfl | (exfalso; omega)
def own_G (r : Int32) (x y : Int) : Prop := ∀ s, own_sig r.toInt 0 s → own_sig x y s
theorem own_G_of {r : Int32} {x y : Int} (h : own_sig x y r) : own_G r x y := fun s hs => by
  have m1 : (-1 : Int32).toInt = -1 := rfl
  have p1 : (1 : Int32).toInt = 1 := rfl
  have z1 : (0 : Int32).toInt = 0 := rfl
  have e : s = r := by
    rcases h with ⟨a, rfl⟩ | ⟨a, rfl⟩ | ⟨a, rfl⟩ <;> rcases hs with ⟨b, rfl⟩ | ⟨b, rfl⟩ | ⟨b, rfl⟩ <;> first | rfl | (exfalso; omega)
  rw [e]; exact h
theorem own_G_sub {a b : Int32} (ha : own_chr a) (hb : own_chr b) : own_G (a - b) a.toInt b.toInt := fun s hs => by
  obtain ⟨a1, a2⟩ := ha
  obtain ⟨b1, b2⟩ := hb
  have e := own_subI (x := a) (y := b) rfl rfl (by omega) (by omega)
  rw [e] at hs
  rcases hs with ⟨q, rfl⟩ | ⟨q, rfl⟩ | ⟨q, rfl⟩
  · exact Or.inl ⟨by omega, rfl⟩
  · exact Or.inr (Or.inl ⟨by omega, rfl⟩)
  · exact Or.inr (Or.inr ⟨by omega, rfl⟩)
theorem own_min_b {x y : Int32} {n k : Nat} (h1 : x = Int32.ofNat n) (h2 : y = Int32.ofNat k) (h3 : n ≤ 4000) (h4 : k ≤ 4000) (h : y < x) : y = Int32.ofNat (min n k) := by
  have := (own_ltN h2 h1 (by omega) (by omega)).mp h
  rw [h2, show min n k = k by omega]
theorem own_min_a {x y : Int32} {n k : Nat} (h1 : x = Int32.ofNat n) (h2 : y = Int32.ofNat k) (h3 : n ≤ 4000) (h4 : k ≤ 4000) (h : ¬ y < x) : x = Int32.ofNat (min n k) := by
  have hh : ¬ k < n := fun z => h ((own_ltN h2 h1 (by omega) (by omega)).mpr z)
  rw [h1, show min n k = n by omega]
theorem own_latI {c : Int32} (h : own_lat c) : own_lo c &&& (255 : Int32) = c := by
  have q := (own_zl (x := c) (k := (255 : Int32)) (n := 255) rfl).mpr h
  exact StrChars.lo8_mask q.1 q.2
theorem own_lat_his {c : Int32} (h : own_lat c) (q : own_his c) : False := by have := h.2; have := q.1; omega
/-- r is the code point of cs at i -/
def own_cpr (cs : List Int32) (i : Nat) (r : Int32) : Prop := (own_his (cs.getD i 0) ∧ i + 1 < cs.length ∧ own_los (cs.getD (i + 1) 0) ∧ r = own_tcp (cs.getD i 0) (cs.getD (i + 1) 0)) ∨ (¬ (own_his (cs.getD i 0) ∧ i + 1 < cs.length ∧ own_los (cs.getD (i + 1) 0)) ∧ r = cs.getD i 0)
/-- what compareFields tells of the chars cs, ds -/
def own_cf (cs ds : List Int32) (r : Int32) : Prop := ∃ i, (∀ q, q < i → cs.getD q 0 = ds.getD q 0) ∧ ((min cs.length ds.length ≤ i ∧ own_sig cs.length ds.length r) ∨ (i < cs.length ∧ i < ds.length ∧ ¬ cs.getD i 0 = ds.getD i 0 ∧ (((own_sur (cs.getD i 0) ∨ own_sur (ds.getD i 0)) ∧ ∃ x y, own_cpr cs i x ∧ own_cpr ds i y ∧ own_sig x.toInt y.toInt r) ∨ (¬ own_sur (cs.getD i 0) ∧ ¬ own_sur (ds.getD i 0) ∧ r = cs.getD i 0 - ds.getD i 0))))
section
variable {cs ds : List Int32} {i : Nat} {r x y : Int32}
theorem own_cf_end (hh : ∀ q, q < i → cs.getD q 0 = ds.getD q 0) (hi : min cs.length ds.length ≤ i) (hl : cs.length ≤ 4000) (hl2 : ds.length ≤ 4000) (hq : own_sig (Int32.ofNat cs.length).toInt (Int32.ofNat ds.length).toInt r) : own_cf cs ds r := by
  rw [own_toI (by omega), own_toI (by omega)] at hq
  exact ⟨i, hh, Or.inl ⟨hi, hq⟩⟩
theorem own_cf_sur (hh : ∀ q, q < i → cs.getD q 0 = ds.getD q 0) (h1 : i < cs.length) (h2 : i < ds.length) (he : ¬ cs.getD i 0 = ds.getD i 0) (hs : own_sur (cs.getD i 0) ∨ own_sur (ds.getD i 0)) (hx : own_cpr cs i x) (hy : own_cpr ds i y) (hq : own_sig x.toInt y.toInt r) : own_cf cs ds r := ⟨i, hh, Or.inr ⟨h1, h2, he, Or.inl ⟨hs, x, y, hx, hy, hq⟩⟩⟩
theorem own_cf_ch (hh : ∀ q, q < i → cs.getD q 0 = ds.getD q 0) (h1 : i < cs.length) (h2 : i < ds.length) (he : ¬ cs.getD i 0 = ds.getD i 0) (s1 : ¬ own_sur (cs.getD i 0)) (s2 : ¬ own_sur (ds.getD i 0)) : own_cf cs ds (cs.getD i 0 - ds.getD i 0) := ⟨i, hh, Or.inr ⟨h1, h2, he, Or.inr ⟨s1, s2, rfl⟩⟩⟩
theorem own_nextE (hh : ∀ q, q < i → cs.getD q 0 = ds.getD q 0) (he : cs.getD i 0 = ds.getD i 0) : ∀ q, q < i + 1 → cs.getD q 0 = ds.getD q 0 := fun q hq => by
  rcases Nat.lt_succ_iff_lt_or_eq.mp hq with z | rfl
  · exact hh q z
  · exact he
end
def own_bmp (r : Int32) : Prop := 0 ≤ r.toInt ∧ r.toInt ≤ 65535 ∧ ¬ (55296 ≤ r.toInt ∧ r.toInt ≤ 57343)
def own_sup (r : Int32) : Prop := 65536 ≤ r.toInt ∧ r.toInt ≤ 1114111
def own_cp (r : Int32) : Prop := own_bmp r ∨ own_sup r
theorem own_cp_sup (x : Int32) : own_cp ((65536 : Int32) + (((x.toUInt32 >>> ((1 : Int32) &&& 31).toUInt32).toInt32) &&& (1048575 : Int32))) := by
  have q := c_and ((x.toUInt32 >>> ((1 : Int32) &&& 31).toUInt32).toInt32) (1048575 : Int32) (by decide)
  have e0 : (1048575 : Int32).toInt = 1048575 := rfl
  have e := own_addI (x := (65536 : Int32)) (y := ((x.toUInt32 >>> ((1 : Int32) &&& 31).toUInt32).toInt32) &&& (1048575 : Int32)) (show (65536 : Int32).toInt = 65536 from rfl) rfl (by omega) (by omega)
  exact Or.inr ⟨by rw [e]; omega, by rw [e]; omega⟩
theorem own_bm (x : Int32) : 0 ≤ ((((x.toUInt32 >>> ((1 : Int32) &&& 31).toUInt32).toInt32) &&& (65535 : Int32))).toInt ∧ ((((x.toUInt32 >>> ((1 : Int32) &&& 31).toUInt32).toInt32) &&& (65535 : Int32))).toInt ≤ 65535 := by
  have q := c_and ((x.toUInt32 >>> ((1 : Int32) &&& 31).toUInt32).toInt32) (65535 : Int32) (by decide)
  have e0 : (65535 : Int32).toInt = 65535 := rfl
  omega
theorem own_cp_lt (x : Int32) (h : (((x.toUInt32 >>> ((1 : Int32) &&& 31).toUInt32).toInt32) &&& (65535 : Int32)) < (55296 : Int32)) : own_cp (((x.toUInt32 >>> ((1 : Int32) &&& 31).toUInt32).toInt32) &&& (65535 : Int32)) := by
  have q := own_bm x
  rw [own_lt32, own_k1] at h
  exact Or.inl ⟨q.1, q.2, by omega⟩
theorem own_cp_gt (x : Int32) (h : (57343 : Int32) < (((x.toUInt32 >>> ((1 : Int32) &&& 31).toUInt32).toInt32) &&& (65535 : Int32))) : own_cp (((x.toUInt32 >>> ((1 : Int32) &&& 31).toUInt32).toInt32) &&& (65535 : Int32)) := by
  have q := own_bm x
  have e : (57343 : Int32).toInt = 57343 := rfl
  rw [own_lt32, e] at h
  exact Or.inl ⟨q.1, q.2, by omega⟩
theorem own_xor : ∀ k : Fin 2048, (Int32.ofNat (55296 + k.val)) ^^^ (16384 : Int32) = Int32.ofNat (38912 + k.val) := by decide +kernel
theorem own_cp_xr (x : Int32) (h2 : ¬ (((x.toUInt32 >>> ((1 : Int32) &&& 31).toUInt32).toInt32) &&& (65535 : Int32)) < (55296 : Int32)) (h3 : ¬ (57343 : Int32) < (((x.toUInt32 >>> ((1 : Int32) &&& 31).toUInt32).toInt32) &&& (65535 : Int32))) : own_cp ((((x.toUInt32 >>> ((1 : Int32) &&& 31).toUInt32).toInt32) &&& (65535 : Int32)) ^^^ (16384 : Int32)) := by
  generalize (((x.toUInt32 >>> ((1 : Int32) &&& 31).toUInt32).toInt32) &&& (65535 : Int32)) = v at *
  have e : (57343 : Int32).toInt = 57343 := rfl
  rw [own_lt32, own_k1] at h2
  rw [own_lt32, e] at h3
  have hk : v = Int32.ofNat (55296 + (v.toInt - 55296).toNat) := Int32.toInt_inj.mp (by rw [Int32.toInt_ofNat_of_lt (by omega)]; omega)
  have hx := own_xor ⟨(v.toInt - 55296).toNat, by omega⟩
  rw [← hk] at hx
  refine Or.inl ?_
  rw [hx]
  have : (Int32.ofNat (38912 + (v.toInt - 55296).toNat)).toInt = ((38912 + (v.toInt - 55296).toNat : Nat) : Int) := Int32.toInt_ofNat_of_lt (by omega)
  refine ⟨?_, ?_, ?_⟩ <;> rw [this] <;> omega
theorem own_k16 : (65536 : Int32).toInt = 65536 := rfl
theorem own_sup_nlt {x : Int32} (h : own_sup x) : ¬ x < (65536 : Int32) := by rw [own_lt32, own_k16]; have := h.1; omega
theorem own_bmp_lt {x : Int32} (h : own_bmp x) : x < (65536 : Int32) := by rw [own_lt32, own_k16]; have := h.2.1; omega
abbrev own_hs (x : Int32) : Int32 := ((55296 : Int32) + ((x - (65536 : Int32)).toUInt32 >>> ((10 : Int32) &&& 31).toUInt32).toInt32)
abbrev own_ls (x : Int32) : Int32 := ((56320 : Int32) + ((x - (65536 : Int32)) &&& (1023 : Int32)))
theorem own_hs_val {x : Int32} (h : own_sup x) : (own_hs x).toInt = 55296 + (x.toInt - 65536) / 1024 := by
  obtain ⟨h1, h2⟩ := h
  have e := own_subI (x := x) (y := (65536 : Int32)) rfl own_k16 (by omega) (by omega)
  have q := c_iushr (x - (65536 : Int32)) (10 : Int32) 10 (by decide) (by decide)
  rw [e] at q
  have q2 : (((x - (65536 : Int32)).toUInt32 >>> ((10 : Int32) &&& 31).toUInt32).toInt32).toInt = (x.toInt - 65536) / 1024 := by rw [q]; omega
  exact own_addI own_k1 q2 (by omega) (by omega)
theorem own_ls_val {x : Int32} (h : own_sup x) : (own_ls x).toInt = 56320 + (x.toInt - 65536) % 1024 := by
  obtain ⟨h1, h2⟩ := h
  have e := own_subI (x := x) (y := (65536 : Int32)) rfl own_k16 (by omega) (by omega)
  have q := c_mask (x - (65536 : Int32)) (1023 : Int32) 10 (by decide) (by decide)
  rw [e] at q
  have q2 : ((x - (65536 : Int32)) &&& (1023 : Int32)).toInt = (x.toInt - 65536) % 1024 := by rw [q]; omega
  exact own_addI own_k3 q2 (by omega) (by omega)
theorem own_hs_his {x : Int32} (h : own_sup x) : own_his (own_hs x) := by
  have e := own_hs_val h
  obtain ⟨h1, h2⟩ := h
  unfold own_his; rw [e]; omega
theorem own_ls_los {x : Int32} (h : own_sup x) : own_los (own_ls x) := by
  have e := own_ls_val h
  obtain ⟨h1, h2⟩ := h
  unfold own_los; rw [e]; omega
theorem own_hs_chr {x : Int32} (h : own_sup x) : own_chr (own_hs x) := by have := own_hs_his h; exact ⟨by have := this.1; omega, by have := this.2; omega⟩
theorem own_ls_chr {x : Int32} (h : own_sup x) : own_chr (own_ls x) := by have := own_ls_los h; exact ⟨by have := this.1; omega, by have := this.2; omega⟩
theorem own_bmp_chr {x : Int32} (h : own_bmp x) : own_chr x := ⟨h.1, h.2.1⟩
theorem own_dblc {x : Int32} (h : own_chr x) : nar .char (x.toUInt32.toUInt16.toUInt32.toInt32) = x := by
  obtain ⟨h1, h2⟩ := h
  have q := own_i2c (x := x) (by omega) (by omega)
  show (x.toUInt32.toUInt16.toUInt32.toInt32).toUInt32.toUInt16.toUInt32.toInt32 = x
  rw [q, q]
theorem own_hs_nar {x : Int32} (h : own_sup x) : nar .char ((own_hs x).toUInt32.toUInt16.toUInt32.toInt32) = own_hs x := own_dblc (own_hs_chr h)
theorem own_ls_nar {x : Int32} (h : own_sup x) : nar .char ((own_ls x).toUInt32.toUInt16.toUInt32.toInt32) = own_ls x := own_dblc (own_ls_chr h)
theorem own_x_nar {x : Int32} (h : own_bmp x) : nar .char (x.toUInt32.toUInt16.toUInt32.toInt32) = x := own_dblc (own_bmp_chr h)
theorem own_tcp_val {x : Int32} (h : own_sup x) : own_tcp (own_hs x) (own_ls x) = x := by
  have e1 := own_hs_val h
  have e2 := own_ls_val h
  obtain ⟨h1, h2⟩ := h
  have q := c_ishl (own_hs x) (10 : Int32) 10 (by decide)
  have r := rng32 (own_hs x <<< ((10 : Int32) &&& 31))
  rw [e1] at q
  have q2 : (own_hs x <<< ((10 : Int32) &&& 31)).toInt = (55296 + (x.toInt - 65536) / 1024) * 1024 := by omega
  have q3 := own_addI q2 e2 (by omega) (by omega)
  have q4 := own_addI q3 (show (-56613888 : Int32).toInt = -56613888 from rfl) (by omega) (by omega)
  apply Int32.toInt_inj.mp
  show ((own_hs x <<< ((10 : Int32) &&& 31)) + own_ls x + (-56613888 : Int32)).toInt = x.toInt
  rw [q4]; omega
def own_cu (x : Int32) : List Int32 := if x < (65536 : Int32) then [x] else [own_hs x, own_ls x]
def own_units (n c1 c2 : Int32) : List Int32 := if n < (1 : Int32) then [] else if n < (2 : Int32) then own_cu c1 else own_cu c1 ++ own_cu c2
section
variable {n c1 c2 : Int32}
theorem own_cu_b (h : own_bmp c1) : own_cu c1 = [c1] := if_pos (own_bmp_lt h)
theorem own_cu_s (h : own_sup c1) : own_cu c1 = [own_hs c1, own_ls c1] := if_neg (own_sup_nlt h)
theorem own_units0 (h : n < (1 : Int32)) : own_units n c1 c2 = [] := if_pos h
theorem own_unitsA (hA : ¬ n < (1 : Int32)) (hB : n < (2 : Int32)) : own_units n c1 c2 = own_cu c1 := (if_neg hA).trans (if_pos hB)
theorem own_unitsB (hA : ¬ n < (1 : Int32)) (hB : ¬ n < (2 : Int32)) : own_units n c1 c2 = own_cu c1 ++ own_cu c2 := (if_neg hA).trans (if_neg hB)
theorem own_units1b (hA : ¬ n < (1 : Int32)) (hB : n < (2 : Int32)) (h : own_bmp c1) : own_units n c1 c2 = [c1] := (own_unitsA hA hB).trans (own_cu_b h)
theorem own_units1s (hA : ¬ n < (1 : Int32)) (hB : n < (2 : Int32)) (h : own_sup c1) : own_units n c1 c2 = [own_hs c1, own_ls c1] := (own_unitsA hA hB).trans (own_cu_s h)
theorem own_units2bb (hA : ¬ n < (1 : Int32)) (hB : ¬ n < (2 : Int32)) (h : own_bmp c1) (h2 : own_bmp c2) : own_units n c1 c2 = [c1, c2] := by rw [own_unitsB hA hB, own_cu_b h, own_cu_b h2]; rfl
theorem own_units2bs (hA : ¬ n < (1 : Int32)) (hB : ¬ n < (2 : Int32)) (h : own_bmp c1) (h2 : own_sup c2) : own_units n c1 c2 = [c1, own_hs c2, own_ls c2] := by rw [own_unitsB hA hB, own_cu_b h, own_cu_s h2]; rfl
theorem own_units2sb (hA : ¬ n < (1 : Int32)) (hB : ¬ n < (2 : Int32)) (h : own_sup c1) (h2 : own_bmp c2) : own_units n c1 c2 = [own_hs c1, own_ls c1, c2] := by rw [own_unitsB hA hB, own_cu_s h, own_cu_b h2]; rfl
theorem own_units2ss (hA : ¬ n < (1 : Int32)) (hB : ¬ n < (2 : Int32)) (h : own_sup c1) (h2 : own_sup c2) : own_units n c1 c2 = [own_hs c1, own_ls c1, own_hs c2, own_ls c2] := by rw [own_unitsB hA hB, own_cu_s h, own_cu_s h2]; rfl
theorem own_12 (h : n < (1 : Int32)) : n < (2 : Int32) := by
  rw [own_lt32, show (1 : Int32).toInt = 1 from rfl] at h
  rw [own_lt32, show (2 : Int32).toInt = 2 from rfl]; omega
theorem own_cod_nil : own_cod [] (0 : Int32) (0 : Int32) [] := Or.inl ⟨rfl, rfl, fun q hq => absurd hq (Nat.not_lt_zero q)⟩
theorem own_cu_len (x : Int32) : 1 ≤ (own_cu x).length ∧ (own_cu x).length ≤ 2 := by unfold own_cu; split <;> simp
theorem own_ulen (n c1 c2 : Int32) : (own_units n c1 c2).length ≤ 4000 := by
  have a := own_cu_len c1
  have b := own_cu_len c2
  unfold own_units
  split
  · simp
  · split
    · omega
    · rw [List.length_append]; omega
def own_03 (n : Int32) : Prop := n = (0 : Int32) ∨ n = (1 : Int32) ∨ n = (2 : Int32)
theorem own_cu_chr (h : own_cp c1) : ∀ c ∈ own_cu c1, own_chr c := by
  intro c hc
  rcases h with h | h
  · rw [own_cu_b h] at hc
    simp only [List.mem_cons, List.not_mem_nil, or_false] at hc
    rw [hc]; exact own_bmp_chr h
  · rw [own_cu_s h] at hc
    simp only [List.mem_cons, List.not_mem_nil, or_false] at hc
    rcases hc with hc | hc
    · rw [hc]; exact own_hs_chr h
    · rw [hc]; exact own_ls_chr h
theorem own_uchs (hn : own_03 n) (h1 : own_cp c1) (h2 : own_cp c2) : own_chs (own_units n c1 c2) := own_chs_of (by
  intro c hc
  unfold own_units at hc
  split at hc
  · cases hc
  · split at hc
    · exact own_cu_chr h1 c hc
    · rcases List.mem_append.mp hc with q | q
      · exact own_cu_chr h1 c q
      · exact own_cu_chr h2 c q)
end
theorem own_n03 (y : Int32) : own_03 ((y &&& (255 : Int32)) % (3 : Int32)) := by
  have r := c_and y (255 : Int32) (by decide)
  have e := (c_irem (y &&& (255 : Int32)) (3 : Int32) 3 rfl).1 r.1
  generalize (y &&& (255 : Int32)) % (3 : Int32) = w at *
  have b1 : 0 ≤ w.toInt := by omega
  have b2 : w.toInt < 3 := by omega
  rcases (show w.toInt = 0 ∨ w.toInt = 1 ∨ w.toInt = 2 by omega) with q | q | q
  · exact Or.inl (Int32.toInt_inj.mp q)
  · exact Or.inr (Or.inl (Int32.toInt_inj.mp q))
  · exact Or.inr (Or.inr (Int32.toInt_inj.mp q))
theorem own_ch1 {a : Int32} (ha : own_chr a) : own_chs [a] := own_chs_of (by intro c hc; simp only [List.mem_cons, List.not_mem_nil, or_false] at hc; rw [hc]; exact ha)
theorem own_ch2 {a b : Int32} (ha : own_chr a) (hb : own_chr b) : own_chs [a, b] := own_chs_of (by intro c hc; simp only [List.mem_cons, List.not_mem_nil, or_false] at hc; rcases hc with q | q <;> rw [q] <;> assumption)
theorem own_ch3 {a b d : Int32} (ha : own_chr a) (hb : own_chr b) (hd : own_chr d) : own_chs [a, b, d] := own_chs_of (by intro c hc; simp only [List.mem_cons, List.not_mem_nil, or_false] at hc; rcases hc with q | q | q <;> rw [q] <;> assumption)
theorem own_ch4 {a b d f : Int32} (ha : own_chr a) (hb : own_chr b) (hd : own_chr d) (hf : own_chr f) : own_chs [a, b, d, f] := own_chs_of (by intro c hc; simp only [List.mem_cons, List.not_mem_nil, or_false] at hc; rcases hc with q | q | q | q <;> rw [q] <;> assumption)
def own_ref (n x1 x2 k y1 y2 r : Int32) : Prop := ((n < (1 : Int32) ∨ k < (1 : Int32)) ∧ own_sig n.toInt k.toInt r) ∨ (¬ n < (1 : Int32) ∧ ¬ k < (1 : Int32) ∧ ¬ x1 = y1 ∧ own_sig x1.toInt y1.toInt r) ∨ (¬ n < (1 : Int32) ∧ ¬ k < (1 : Int32) ∧ x1 = y1 ∧ (n < (2 : Int32) ∨ k < (2 : Int32) ∨ x2 = y2) ∧ own_sig n.toInt k.toInt r) ∨ (¬ n < (2 : Int32) ∧ ¬ k < (2 : Int32) ∧ x1 = y1 ∧ ¬ x2 = y2 ∧ own_sig x2.toInt y2.toInt r)
section
variable {P A B : List Int32} {r : Int32}
theorem own_app_r (q : Nat) : (P ++ A).getD (P.length + q) 0 = A.getD q 0 := by
  rw [List.getD_eq_getElem?_getD, List.getElem?_append_right (by omega), List.getD_eq_getElem?_getD]
  congr 2; omega
theorem own_app_l {q : Nat} (h : q < P.length) : (P ++ A).getD q 0 = P.getD q 0 := by
  rw [List.getD_eq_getElem?_getD, List.getElem?_append_left h, List.getD_eq_getElem?_getD]
theorem own_cpr_shift {i : Nat} {x : Int32} (h : own_cpr (P ++ A) (P.length + i) x) : own_cpr A i x := by
  unfold own_cpr at h ⊢
  rw [Nat.add_assoc, own_app_r, own_app_r, List.length_append] at h
  rcases h with ⟨a, b, c, d⟩ | ⟨a, d⟩
  · exact Or.inl ⟨a, by omega, c, d⟩
  · exact Or.inr ⟨fun q => a ⟨q.1, by omega, q.2.2⟩, d⟩
theorem own_cf_shift (h : own_cf (P ++ A) (P ++ B) r) : own_cf A B r := by
  obtain ⟨i, he, h⟩ := h
  rcases Nat.lt_or_ge i P.length with hi | hi
  · exfalso
    rcases h with ⟨h1, -⟩ | ⟨-, -, h3, -⟩
    · rw [List.length_append, List.length_append] at h1; omega
    · exact h3 (by rw [own_app_l hi, own_app_l hi])
  · obtain ⟨d, rfl⟩ : ∃ d, i = P.length + d := ⟨i - P.length, by omega⟩
    refine ⟨d, fun q hq => ?_, ?_⟩
    · have := he (P.length + q) (by omega)
      rwa [own_app_r, own_app_r] at this
    · rw [own_app_r, own_app_r, List.length_append, List.length_append] at h
      rcases h with ⟨h1, h2⟩ | ⟨h1, h2, h3, h4⟩
      · refine Or.inl ⟨by omega, ?_⟩
        rcases h2 with ⟨a, b⟩ | ⟨a, b⟩ | ⟨a, b⟩
        · exact Or.inl ⟨by omega, b⟩
        · exact Or.inr (Or.inl ⟨by omega, b⟩)
        · exact Or.inr (Or.inr ⟨by omega, b⟩)
      · refine Or.inr ⟨by omega, by omega, h3, ?_⟩
        rcases h4 with ⟨a, x, y, hx, hy, hq⟩ | h4
        · exact Or.inl ⟨a, x, y, own_cpr_shift hx, own_cpr_shift hy, hq⟩
        · exact Or.inr h4
theorem own_cf_nl (h : own_cf [] B r) : own_sig 0 B.length r := by
  obtain ⟨i, -, h⟩ := h
  rcases h with ⟨-, h2⟩ | ⟨h1, -⟩
  · exact h2
  · exact absurd h1 (Nat.not_lt_zero i)
theorem own_cf_nr (h : own_cf A [] r) : own_sig A.length 0 r := by
  obtain ⟨i, -, h⟩ := h
  rcases h with ⟨-, h2⟩ | ⟨-, h1, -⟩
  · exact h2
  · exact absurd h1 (Nat.not_lt_zero i)
theorem own_bmp_sur {a : Int32} (h : own_bmp a) : ¬ own_sur a := fun q => h.2.2 ⟨q.1, by have := q.2; omega⟩
theorem own_bmp_his {a : Int32} (h : own_bmp a) : ¬ own_his a := fun q => h.2.2 ⟨q.1, by have := q.2; omega⟩
theorem own_his_sur {a : Int32} (h : own_his a) : own_sur a := ⟨h.1, by have := h.2; omega⟩
theorem own_los_sur {a : Int32} (h : own_los a) : own_sur a := ⟨by have := h.1; omega, h.2⟩
theorem own_los_his {a : Int32} (h : own_los a) : ¬ own_his a := fun q => by have := h.1; have := q.2; omega
theorem own_cpr_b {a x : Int32} (h : own_bmp a) (hx : own_cpr (a :: A) 0 x) : x = a := by
  rcases hx with ⟨q, -⟩ | ⟨-, q⟩
  · exact absurd q (own_bmp_his h)
  · exact q
theorem own_cpr_s {a x : Int32} (h : own_sup a) (hx : own_cpr (own_hs a :: own_ls a :: A) 0 x) : x = a := by
  rcases hx with ⟨-, -, -, q⟩ | ⟨q, -⟩
  · exact q.trans (own_tcp_val h)
  · exact absurd ⟨own_hs_his h, by simp, own_ls_los h⟩ q
theorem own_cpr_s1 {a x : Int32} (h : own_sup a) (hx : own_cpr (own_hs a :: own_ls a :: A) 1 x) : x = own_ls a := by
  rcases hx with ⟨q, -⟩ | ⟨-, q⟩
  · exact absurd q (own_los_his (own_ls_los h))
  · exact q
theorem own_i0 {a b : Int32} {i : Nat} (hne : ¬ a = b) (he : ∀ q, q < i → (a :: A).getD q 0 = (b :: B).getD q 0) : i = 0 := by
  rcases Nat.eq_zero_or_pos i with z | z
  · exact z
  · exact absurd (he 0 z) hne
theorem own_cf_ne {a b : Int32} (ha : own_cp a) (hb : own_cp b) (hne : ¬ a = b) (h : own_cf (own_cu a ++ A) (own_cu b ++ B) r) : own_G r a.toInt b.toInt := by
  obtain ⟨i, he, h⟩ := h
  rcases ha with ha | ha <;> rcases hb with hb | hb
  · rw [own_cu_b ha, own_cu_b hb] at he h
    have hi : i = 0 := own_i0 (A := A) (B := B) hne he
    subst hi
    rcases h with ⟨h1, -⟩ | ⟨-, -, -, ⟨s, -⟩ | ⟨-, -, q⟩⟩
    · exfalso
      rw [List.length_append, List.length_append] at h1
      have e : [a].length = 1 := rfl
      have e' : [b].length = 1 := rfl
      omega
    · rcases s with s | s
      · exact absurd s (own_bmp_sur ha)
      · exact absurd s (own_bmp_sur hb)
    · have q' : r = a - b := q
      rw [q']; exact own_G_sub (own_bmp_chr ha) (own_bmp_chr hb)
  · rw [own_cu_b ha, own_cu_s hb] at he h
    have hd : ¬ a = own_hs b := fun q => own_bmp_his ha (q ▸ own_hs_his hb)
    have hi : i = 0 := own_i0 (A := A) (B := own_ls b :: B) hd he
    subst hi
    rcases h with ⟨h1, -⟩ | ⟨-, -, -, ⟨-, x, y, hx, hy, hq⟩ | ⟨-, s, -⟩⟩
    · exfalso
      rw [List.length_append, List.length_append] at h1
      have e : [a].length = 1 := rfl
      have e' : [own_hs b, own_ls b].length = 2 := rfl
      omega
    · rw [own_cpr_b (A := A) ha hx, own_cpr_s (A := B) hb hy] at hq
      exact own_G_of hq
    · exact absurd (own_his_sur (own_hs_his hb)) s
  · rw [own_cu_s ha, own_cu_b hb] at he h
    have hd : ¬ own_hs a = b := fun q => own_bmp_his hb (q ▸ own_hs_his ha)
    have hi : i = 0 := own_i0 (A := own_ls a :: A) (B := B) hd he
    subst hi
    rcases h with ⟨h1, -⟩ | ⟨-, -, -, ⟨-, x, y, hx, hy, hq⟩ | ⟨s, -, -⟩⟩
    · exfalso
      rw [List.length_append, List.length_append] at h1
      have e : [b].length = 1 := rfl
      have e' : [own_hs a, own_ls a].length = 2 := rfl
      omega
    · rw [own_cpr_s (A := A) ha hx, own_cpr_b (A := B) hb hy] at hq
      exact own_G_of hq
    · exact absurd (own_his_sur (own_hs_his ha)) s
  · rw [own_cu_s ha, own_cu_s hb] at he h
    have e1 : [own_hs a, own_ls a].length = 2 := rfl
    have e2 : [own_hs b, own_ls b].length = 2 := rfl
    rcases Classical.em (own_hs a = own_hs b) with hd | hd
    · have v1 := own_hs_val ha
      have v2 := own_hs_val hb
      have w1 := own_ls_val ha
      have w2 := own_ls_val hb
      have hv := congrArg Int32.toInt hd
      rw [v1, v2] at hv
      have hl : ¬ own_ls a = own_ls b := fun q => hne (Int32.toInt_inj.mp (by
        have := congrArg Int32.toInt q
        rw [w1, w2] at this
        omega))
      have hi2 : i < 2 := Nat.lt_of_not_le fun z => hl (he 1 (by omega))
      rcases h with ⟨h1, -⟩ | ⟨-, -, hn, h4⟩
      · exfalso
        rw [List.length_append, List.length_append] at h1
        omega
      · have hi : i = 1 := by
          rcases (show i = 0 ∨ i = 1 by omega) with z | z
          · subst z; exact absurd hd hn
          · exact z
        subst hi
        rcases h4 with ⟨-, x, y, hx, hy, hq⟩ | ⟨s, -, -⟩
        · rw [own_cpr_s1 (A := A) ha hx, own_cpr_s1 (A := B) hb hy, w1, w2] at hq
          refine own_G_of ?_
          rcases hq with ⟨q, z⟩ | ⟨q, z⟩ | ⟨q, z⟩
          · exact Or.inl ⟨by omega, z⟩
          · exact Or.inr (Or.inl ⟨by omega, z⟩)
          · exact Or.inr (Or.inr ⟨by omega, z⟩)
        · exact absurd (own_los_sur (own_ls_los ha)) s
    · have hi : i = 0 := own_i0 (A := own_ls a :: A) (B := own_ls b :: B) hd he
      subst hi
      rcases h with ⟨h1, -⟩ | ⟨-, -, -, ⟨-, x, y, hx, hy, hq⟩ | ⟨s, -, -⟩⟩
      · exfalso
        rw [List.length_append, List.length_append] at h1
        omega
      · rw [own_cpr_s (A := A) ha hx, own_cpr_s (A := B) hb hy] at hq
        exact own_G_of hq
      · exact absurd (own_his_sur (own_hs_his ha)) s
end
/-- the units of a String of n code points: the first's, and the rest -/
theorem own_parts {n c1 c2 : Int32} (h : own_03 n) (h1 : ¬ n < (1 : Int32)) : ∃ A, own_units n c1 c2 = own_cu c1 ++ A ∧ ((n = (1 : Int32) ∧ A = []) ∨ (n = (2 : Int32) ∧ A = own_cu c2)) := by
  rcases h with rfl | rfl | rfl
  · exact absurd (by decide) h1
  · exact ⟨[], by rw [own_unitsA h1 (by decide), List.append_nil], Or.inl ⟨rfl, rfl⟩⟩
  · exact ⟨own_cu c2, own_unitsB h1 (by decide), Or.inr ⟨rfl, rfl⟩⟩
theorem own_pos1 {n : Int32} (h : own_03 n) : (n < (1 : Int32) ∧ n.toInt = 0) ∨ (¬ n < (1 : Int32) ∧ 1 ≤ n.toInt) := by
  rcases h with rfl | rfl | rfl
  · exact Or.inl ⟨by decide, rfl⟩
  · exact Or.inr ⟨by decide, by decide⟩
  · exact Or.inr ⟨by decide, by decide⟩
theorem own_final {n x1 x2 k y1 y2 r rr rs : Int32} (hn : own_03 n) (hk : own_03 k) (hx1 : own_cp x1) (hx2 : own_cp x2) (hy1 : own_cp y1) (hy2 : own_cp y2) (hc : own_cf (own_units n x1 x2) (own_units k y1 y2) r) (hr : own_ref n x1 x2 k y1 y2 rr) (hs : own_sig r.toInt 0 rs) : rs = rr := by
  have k12 : ∀ {z : Int32}, z < (1 : Int32) → z < (2 : Int32) := fun h => own_12 h
  rcases own_pos1 hn with ⟨n1, n0⟩ | ⟨n1, n0⟩
  · have q : own_sig n.toInt k.toInt rr := by
      rcases hr with ⟨-, q⟩ | ⟨q, -⟩ | ⟨q, -⟩ | ⟨q, -⟩
      · exact q
      · exact absurd n1 q
      · exact absurd n1 q
      · exact absurd (k12 n1) q
    rw [own_units0 n1] at hc
    have g := own_G_of (own_cf_nl hc) _ hs
    refine own_sig_eqv g q ?_ ?_
    · rcases own_pos1 hk with ⟨k1, k0⟩ | ⟨k1, k0⟩
      · rw [own_units0 k1, n0, k0]; exact ⟨fun z => z, fun z => z⟩
      · obtain ⟨B, eB, -⟩ := own_parts (c1 := y1) (c2 := y2) hk k1
        have := own_cu_len y1
        rw [eB, List.length_append, n0]
        constructor <;> intro z <;> omega
    · rw [n0]
      rcases own_pos1 hk with ⟨k1, k0⟩ | ⟨k1, k0⟩ <;> constructor <;> intro z <;> omega
  · rcases own_pos1 hk with ⟨k1, k0⟩ | ⟨k1, k0⟩
    · have q : own_sig n.toInt k.toInt rr := by
        rcases hr with ⟨-, q⟩ | ⟨-, q, -⟩ | ⟨-, q, -⟩ | ⟨-, q, -⟩
        · exact q
        · exact absurd k1 q
        · exact absurd k1 q
        · exact absurd (k12 k1) q
      rw [own_units0 k1] at hc
      have g := own_G_of (own_cf_nr hc) _ hs
      obtain ⟨A, eA, -⟩ := own_parts (c1 := x1) (c2 := x2) hn n1
      have := own_cu_len x1
      rw [eA, List.length_append] at g
      refine own_sig_eqv g q ?_ ?_ <;> constructor <;> intro z <;> omega
    · obtain ⟨A, eA, hA⟩ := own_parts (c1 := x1) (c2 := x2) hn n1
      obtain ⟨B, eB, hB⟩ := own_parts (c1 := y1) (c2 := y2) hk k1
      rw [eA, eB] at hc
      rcases Classical.em (x1 = y1) with e | e
      · subst e
        have hc' := own_cf_shift hc
        have l1 := own_cu_len x2
        have l2 := own_cu_len y2
        have nk : (n < (2 : Int32) ∨ k < (2 : Int32) ∨ x2 = y2) → own_sig n.toInt k.toInt rr := fun hh => by
          rcases hr with ⟨q, -⟩ | ⟨-, -, q, -⟩ | ⟨-, -, -, -, q⟩ | ⟨q1, q2, -, q3, -⟩
          · exact absurd q (not_or.mpr ⟨n1, k1⟩)
          · exact absurd rfl q
          · exact q
          · rcases hh with z | z | z
            · exact absurd z q1
            · exact absurd z q2
            · exact absurd z q3
        rcases hA with ⟨rfl, rfl⟩ | ⟨rfl, rfl⟩
        · have g := own_G_of (own_cf_nl hc') _ hs
          refine own_sig_eqv g (nk (Or.inl (by decide))) ?_ ?_
          · rcases hB with ⟨rfl, rfl⟩ | ⟨rfl, rfl⟩
            · decide
            · have e1 : (1 : Int32).toInt = 1 := rfl
              have e2 : (2 : Int32).toInt = 2 := rfl
              rw [e1, e2]; constructor <;> intro z <;> omega
          · rcases hB with ⟨rfl, rfl⟩ | ⟨rfl, rfl⟩
            · decide
            · have e1 : (1 : Int32).toInt = 1 := rfl
              have e2 : (2 : Int32).toInt = 2 := rfl
              rw [e1, e2]; constructor <;> intro z <;> omega
        · rcases hB with ⟨rfl, rfl⟩ | ⟨rfl, rfl⟩
          · have g := own_G_of (own_cf_nr hc') _ hs
            have e1 : (1 : Int32).toInt = 1 := rfl
            have e2 : (2 : Int32).toInt = 2 := rfl
            refine own_sig_eqv g (nk (Or.inr (Or.inl (by decide)))) ?_ ?_ <;> rw [e1, e2] <;> constructor <;> intro z <;> omega
          · rw [← List.append_nil (own_cu x2), ← List.append_nil (own_cu y2)] at hc'
            rcases Classical.em (x2 = y2) with e | e
            · subst e
              have g := own_G_of (own_cf_nl (own_cf_shift hc')) _ hs
              exact own_sig_eqv g (nk (Or.inr (Or.inr rfl))) (by decide) (by decide)
            · have g := own_cf_ne hx2 hy2 e hc' _ hs
              have q : own_sig x2.toInt y2.toInt rr := by
                rcases hr with ⟨q, -⟩ | ⟨-, -, q, -⟩ | ⟨-, -, -, q, -⟩ | ⟨-, -, -, -, q⟩
                · exact absurd q (not_or.mpr ⟨n1, k1⟩)
                · exact absurd rfl q
                · rcases q with z | z | z
                  · exact absurd z (by decide)
                  · exact absurd z (by decide)
                  · exact absurd z e
                · exact q
              exact own_sig_eqv g q Iff.rfl Iff.rfl
      · have g := own_cf_ne hx1 hy1 e hc _ hs
        have q : own_sig x1.toInt y1.toInt rr := by
          rcases hr with ⟨q, -⟩ | ⟨-, -, -, q⟩ | ⟨-, -, q, -⟩ | ⟨-, -, q, -⟩
          · exact absurd q (not_or.mpr ⟨n1, k1⟩)
          · exact q
          · exact absurd q e
          · exact absurd q e
        exact own_sig_eqv g q Iff.rfl Iff.rfl
theorem own_d_jdk_42_152_0 : decode jdk_42_method_152_code 0 = .ok (.getstatic 38, 3) := by decide +kernel
theorem own_d_jdk_42_152_3 : decode jdk_42_method_152_code 3 = .ok (.ifCond .eq 10, 3) := by decide +kernel
theorem own_d_jdk_42_152_6 : decode jdk_42_method_152_code 6 = .ok (.aload_n 0, 1) := by decide +kernel
theorem own_d_jdk_42_152_7 : decode jdk_42_method_152_code 7 = .ok (.getfield 15, 3) := by decide +kernel
theorem own_d_jdk_42_152_10 : decode jdk_42_method_152_code 10 = .ok (.goto 4, 3) := by decide +kernel
theorem own_d_jdk_42_152_14 : decode jdk_42_method_152_code 14 = .ok (.ireturn, 1) := by decide +kernel
theorem own_pn0 : plainName "java/lang/String" = true := by first | (simp [plainName, overriddenIn]; done) | decide +kernel
theorem own_ef_coder (m : MethodId) (a1 : Addr) : entryFrame m #[(.ref a1)] 1 = mkF m 0 #[.val (.ref a1)] [] := by (first | (simp [entryFrame, mkF, argsToLocals, Value.category]; done) | rfl)
def own_Q_coder (Z : State) (a1 : Addr) (cz : Int32) (cd : Int32) (h0 : Heap) (n0 : Nat) (vq : Option Value) (h : Heap) (Lq : List Loc) : Prop := (vq = some (.int cd)) ∧ (Fr n0 Lq) ∧ (h = h0)
set_option maxRecDepth 65536 in
set_option maxHeartbeats 40000000 in
theorem own_rm_coder (l : Launch) (Z : State) (a0 : Array Value) (hw : ∀ d ∈ tables_1, d.before a0 Z = true) (wsq : List Jvm.Cond) (a1 : Addr) (cz : Int32) (cd : Int32) (h0 : Heap) (n0 : Nat) (Z0 : n0 ≤ h0.size) (O0 : Old Z n0 h0) (S1 : Sta Z Z.heap "java/lang/String" "COMPACT_STRINGS" "Z" (.int cz)) (P5 : ¬ cz = (0 : Int32)) (F1 : Fld Z h0 a1 "java/lang/String" "coder" "B" (.int cd)) (hcd : cd = (0 : Int32) ∨ cd = (1 : Int32)) :
    MetFree l (⟨"java/lang/String", "coder", "()B"⟩ : MethodName) (head1 (Jvm.Cond.code (⟨"java/lang/String", "coder", "()B"⟩ : MethodName) jdk_42_method_152_code 1 (some .byte) :: wsq) ({ frames := 0, cells := 0, slots := 0, locals := 0 } : Room)) (fun aq Uq => aq = #[(.ref a1)] ∧ Z.Warmed39 Uq.vm ∧ Uq.heap = h0) (fun _ _ _ _ _ => True) (fun _ Uq oq Uq' => ∃ vq Lq, oq = .returned vq ∧ own_Q_coder Z a1 cz cd h0 n0 vq Uq'.heap Lq ∧ FrameEnd Uq oq Uq' Lq ({ frames := 0, cells := 0, slots := 0, locals := 0 } : Room).cells ({ frames := 0, cells := 0, slots := 0, locals := 0 } : Room).slots) := by
  refine MetFree.of_bodySF (plainFor_of_name own_pn0) hisR ?_
  intro p e s m args below meth cde s₁ Bd hml0 hP hK
  obtain ⟨rfl, hZ, hh⟩ := hP
  have hx := Bd.exec
  have hby := Bd.bytes
  have hml : cde.maxLocals = 1 := hml0
  have hown : s.vm.findClass "java/lang/String" = some m.cls := findClass_of_methodNamed Bd.named
  have hnm := (name_of_methodNamed Bd.named Bd.method).1
  have X0 : Stand p l e ({ frames := 0, cells := 0, slots := 0, locals := 0 } : Room) s m #[(.ref a1)] below meth cde s₁ [] 0 0 := Stand.of_body Bd
  have e0 : s₁.heap = h0 := by rw [← hh, Bd.state]; rfl
  have N0 := Fr.nil n0
  show own_Fin p e s below (own_Q_coder Z a1 cz cd h0 n0) ({ frames := 0, cells := 0, slots := 0, locals := 0 } : Room).cells ({ frames := 0, cells := 0, slots := 0, locals := 0 } : Room).slots s₁ (entryFrame m #[(.ref a1)] 1)
  rw [own_ef_coder m a1]
  obtain ⟨T1_, X1_, e1_, st1_⟩ := getS2 X0 hx hZ hown (host := "") (Or.inl (hw _ (List.mem_of_getElem? (i := 53) rfl))) Via.refl e0 (S1.ext O0.2) (g := (mkF m 0 #[.val (.ref a1)] [])) rfl (hb hby own_d_jdk_42_152_0)
  refine own_via (fun _ k => st1_ _ k) ?_
  show own_Fin _ _ _ _ _ _ _ T1_ (mkF m 3 #[.val (.ref a1)] [(.int cz)])
  refine own_via (fun _ k => XS.ifNo X1_.here hx rfl (hb hby own_d_jdk_42_152_3) rfl ((if0 _ _).trans (feq P5).1) k) ?_
  show own_Fin _ _ _ _ _ _ _ T1_ (mkF m 6 #[.val (.ref a1)] [])
  refine own_via (fun _ k => XS.aloadN X1_.here hx rfl (hb hby own_d_jdk_42_152_6) rfl rfl k) ?_
  show own_Fin _ _ _ _ _ _ _ T1_ (mkF m 7 #[.val (.ref a1)] [(.ref a1)])
  obtain ⟨T2_, X2_, e2_, st2_⟩ := getF X1_ hx hZ hown (host := "") (Or.inl (hw _ (List.mem_of_getElem? (i := 32) rfl))) Via.refl e1_ F1 (g := (mkF m 7 #[.val (.ref a1)] [(.ref a1)])) rfl rfl (hb hby own_d_jdk_42_152_7)
  refine own_via (fun _ k => st2_ _ k) ?_
  show own_Fin _ _ _ _ _ _ _ T2_ (mkF m 10 #[.val (.ref a1)] [(.int cd)])
  refine own_via (fun _ k => XS.goto X2_.here hx rfl (pc0 := 10) (pc' := 14) rfl (hb hby own_d_jdk_42_152_10) (by decide) (by decide) k) ?_
  show own_Fin _ _ _ _ _ _ _ T2_ (mkF m 14 #[.val (.ref a1)] [(.int cd)])
  exact own_retN X2_ hx (t := .byte) Bd.returns Bd.notSynchronized (by simp) (hb hby own_d_jdk_42_152_14) e2_ (own_cdb hcd) ⟨rfl, N0, rfl⟩ (by decide) (by decide)
theorem own_d_jdk_42_154_0 : decode jdk_42_method_154_code 0 = .ok (.getstatic 38, 3) := by decide +kernel
theorem own_d_jdk_42_154_3 : decode jdk_42_method_154_code 3 = .ok (.ifCond .eq 14, 3) := by decide +kernel
theorem own_d_jdk_42_154_6 : decode jdk_42_method_154_code 6 = .ok (.aload_n 0, 1) := by decide +kernel
theorem own_d_jdk_42_154_7 : decode jdk_42_method_154_code 7 = .ok (.getfield 15, 3) := by decide +kernel
theorem own_d_jdk_42_154_10 : decode jdk_42_method_154_code 10 = .ok (.ifCond .ne 7, 3) := by decide +kernel
theorem own_d_jdk_42_154_17 : decode jdk_42_method_154_code 17 = .ok (.iconst 0, 1) := by decide +kernel
theorem own_d_jdk_42_154_18 : decode jdk_42_method_154_code 18 = .ok (.ireturn, 1) := by decide +kernel
theorem own_d_jdk_42_154_13 : decode jdk_42_method_154_code 13 = .ok (.iconst 1, 1) := by decide +kernel
theorem own_d_jdk_42_154_14 : decode jdk_42_method_154_code 14 = .ok (.goto 4, 3) := by decide +kernel
theorem own_ef_isLat (m : MethodId) (a1 : Addr) : entryFrame m #[(.ref a1)] 1 = mkF m 0 #[.val (.ref a1)] [] := by (first | (simp [entryFrame, mkF, argsToLocals, Value.category]; done) | rfl)
def own_Q_isLat (Z : State) (a1 : Addr) (cz : Int32) (cd : Int32) (h0 : Heap) (n0 : Nat) (vq : Option Value) (h : Heap) (Lq : List Loc) : Prop := ∃ (r : Int32), (vq = some (.int r)) ∧ (Fr n0 Lq) ∧ (h = h0) ∧ ((r = (1 : Int32) ∧ cd = (0 : Int32)) ∨ (r = (0 : Int32) ∧ ¬ cd = (0 : Int32)))
set_option maxRecDepth 65536 in
set_option maxHeartbeats 40000000 in
theorem own_rm_isLat (l : Launch) (Z : State) (a0 : Array Value) (hw : ∀ d ∈ tables_1, d.before a0 Z = true) (wsq : List Jvm.Cond) (a1 : Addr) (cz : Int32) (cd : Int32) (h0 : Heap) (n0 : Nat) (Z0 : n0 ≤ h0.size) (O0 : Old Z n0 h0) (S1 : Sta Z Z.heap "java/lang/String" "COMPACT_STRINGS" "Z" (.int cz)) (P5 : ¬ cz = (0 : Int32)) (F1 : Fld Z h0 a1 "java/lang/String" "coder" "B" (.int cd)) :
    MetFree l (⟨"java/lang/String", "isLatin1", "()Z"⟩ : MethodName) (head1 (Jvm.Cond.code (⟨"java/lang/String", "isLatin1", "()Z"⟩ : MethodName) jdk_42_method_154_code 1 (some .boolean) :: wsq) ({ frames := 0, cells := 0, slots := 0, locals := 0 } : Room)) (fun aq Uq => aq = #[(.ref a1)] ∧ Z.Warmed39 Uq.vm ∧ Uq.heap = h0) (fun _ _ _ _ _ => True) (fun _ Uq oq Uq' => ∃ vq Lq, oq = .returned vq ∧ own_Q_isLat Z a1 cz cd h0 n0 vq Uq'.heap Lq ∧ FrameEnd Uq oq Uq' Lq ({ frames := 0, cells := 0, slots := 0, locals := 0 } : Room).cells ({ frames := 0, cells := 0, slots := 0, locals := 0 } : Room).slots) := by
  refine MetFree.of_bodySF (plainFor_of_name own_pn0) hisR ?_
  intro p e s m args below meth cde s₁ Bd hml0 hP hK
  obtain ⟨rfl, hZ, hh⟩ := hP
  have hx := Bd.exec
  have hby := Bd.bytes
  have hml : cde.maxLocals = 1 := hml0
  have hown : s.vm.findClass "java/lang/String" = some m.cls := findClass_of_methodNamed Bd.named
  have hnm := (name_of_methodNamed Bd.named Bd.method).1
  have X0 : Stand p l e ({ frames := 0, cells := 0, slots := 0, locals := 0 } : Room) s m #[(.ref a1)] below meth cde s₁ [] 0 0 := Stand.of_body Bd
  have e0 : s₁.heap = h0 := by rw [← hh, Bd.state]; rfl
  have N0 := Fr.nil n0
  show own_Fin p e s below (own_Q_isLat Z a1 cz cd h0 n0) ({ frames := 0, cells := 0, slots := 0, locals := 0 } : Room).cells ({ frames := 0, cells := 0, slots := 0, locals := 0 } : Room).slots s₁ (entryFrame m #[(.ref a1)] 1)
  rw [own_ef_isLat m a1]
  obtain ⟨T1_, X1_, e1_, st1_⟩ := getS2 X0 hx hZ hown (host := "") (Or.inl (hw _ (List.mem_of_getElem? (i := 53) rfl))) Via.refl e0 (S1.ext O0.2) (g := (mkF m 0 #[.val (.ref a1)] [])) rfl (hb hby own_d_jdk_42_154_0)
  refine own_via (fun _ k => st1_ _ k) ?_
  show own_Fin _ _ _ _ _ _ _ T1_ (mkF m 3 #[.val (.ref a1)] [(.int cz)])
  refine own_via (fun _ k => XS.ifNo X1_.here hx rfl (hb hby own_d_jdk_42_154_3) rfl ((if0 _ _).trans (feq P5).1) k) ?_
  show own_Fin _ _ _ _ _ _ _ T1_ (mkF m 6 #[.val (.ref a1)] [])
  refine own_via (fun _ k => XS.aloadN X1_.here hx rfl (hb hby own_d_jdk_42_154_6) rfl rfl k) ?_
  show own_Fin _ _ _ _ _ _ _ T1_ (mkF m 7 #[.val (.ref a1)] [(.ref a1)])
  obtain ⟨T2_, X2_, e2_, st2_⟩ := getF X1_ hx hZ hown (host := "") (Or.inl (hw _ (List.mem_of_getElem? (i := 32) rfl))) Via.refl e1_ F1 (g := (mkF m 7 #[.val (.ref a1)] [(.ref a1)])) rfl rfl (hb hby own_d_jdk_42_154_7)
  refine own_via (fun _ k => st2_ _ k) ?_
  show own_Fin _ _ _ _ _ _ _ T2_ (mkF m 10 #[.val (.ref a1)] [(.int cd)])
  rcases Classical.em (cd = (0 : Int32)) with hz | hz
  · refine own_via (fun _ k => XS.ifNo X2_.here hx rfl (hb hby own_d_jdk_42_154_10) rfl ((if0 _ _).trans (teq hz).2) k) ?_
    show own_Fin _ _ _ _ _ _ _ T2_ (mkF m 13 #[.val (.ref a1)] [])
    refine own_via (fun _ k => XS.iconst X2_.here hx rfl (hb hby own_d_jdk_42_154_13) k) ?_
    show own_Fin _ _ _ _ _ _ _ T2_ (mkF m 14 #[.val (.ref a1)] [(.int (1 : Int32))])
    refine own_via (fun _ k => XS.goto X2_.here hx rfl (pc0 := 14) (pc' := 18) rfl (hb hby own_d_jdk_42_154_14) (by decide) (by decide) k) ?_
    show own_Fin _ _ _ _ _ _ _ T2_ (mkF m 18 #[.val (.ref a1)] [(.int (1 : Int32))])
    exact own_retN X2_ hx (t := .boolean) Bd.returns Bd.notSynchronized (by simp) (hb hby own_d_jdk_42_154_18) e2_ rfl ⟨(1 : Int32), rfl, N0, rfl, (Or.inl ⟨rfl, hz⟩)⟩ (by decide) (by decide)
  · refine own_via (fun _ k => XS.ifYes X2_.here hx rfl (pc0 := 10) (pc' := 17) rfl (hb hby own_d_jdk_42_154_10) rfl ((if0 _ _).trans (feq hz).2) (by decide) (by decide) k) ?_
    show own_Fin _ _ _ _ _ _ _ T2_ (mkF m 17 #[.val (.ref a1)] [])
    refine own_via (fun _ k => XS.iconst X2_.here hx rfl (hb hby own_d_jdk_42_154_17) k) ?_
    show own_Fin _ _ _ _ _ _ _ T2_ (mkF m 18 #[.val (.ref a1)] [(.int (0 : Int32))])
    exact own_retN X2_ hx (t := .boolean) Bd.returns Bd.notSynchronized (by simp) (hb hby own_d_jdk_42_154_18) e2_ rfl ⟨(0 : Int32), rfl, N0, rfl, (Or.inr ⟨rfl, hz⟩)⟩ (by decide) (by decide)
theorem own_d_jdk_42_54_0 : decode jdk_42_method_54_code 0 = .ok (.aload_n 0, 1) := by decide +kernel
theorem own_d_jdk_42_54_1 : decode jdk_42_method_54_code 1 = .ok (.getfield 9, 3) := by decide +kernel
theorem own_d_jdk_42_54_4 : decode jdk_42_method_54_code 4 = .ok (.arraylength, 1) := by decide +kernel
theorem own_d_jdk_42_54_5 : decode jdk_42_method_54_code 5 = .ok (.aload_n 0, 1) := by decide +kernel
theorem own_d_jdk_42_54_6 : decode jdk_42_method_54_code 6 = .ok (.invokevirtual 335, 3) := by decide +kernel
theorem own_pd0 : parseMethodDescriptor "()B" = some ⟨[], some .byte⟩ := by decide +kernel
theorem own_d_jdk_42_54_9 : decode jdk_42_method_54_code 9 = .ok (.ishr, 1) := by decide +kernel
theorem own_d_jdk_42_54_10 : decode jdk_42_method_54_code 10 = .ok (.ireturn, 1) := by decide +kernel
theorem own_ef_len (m : MethodId) (a1 : Addr) : entryFrame m #[(.ref a1)] 1 = mkF m 0 #[.val (.ref a1)] [] := by (first | (simp [entryFrame, mkF, argsToLocals, Value.category]; done) | rfl)
def own_Q_len (Z : State) (a1 : Addr) (cz : Int32) (t : Addr) (kt : ClassId) (cd : Int32) (N2 : Int32) (vs : List Value) (cs : List Int32) (h0 : Heap) (n0 : Nat) (vq : Option Value) (h : Heap) (Lq : List Loc) : Prop := (vq = some (.int (Int32.ofNat cs.length))) ∧ (Fr n0 Lq) ∧ (h = h0)
set_option maxRecDepth 65536 in
set_option maxHeartbeats 40000000 in
theorem own_rm_len (l : Launch) (Z : State) (a0 : Array Value) (hw : ∀ d ∈ tables_1, d.before a0 Z = true) (wsq : List Jvm.Cond) (a1 : Addr) (cz : Int32) (t : Addr) (kt : ClassId) (cd : Int32) (N2 : Int32) (vs : List Value) (cs : List Int32) (h0 : Heap) (n0 : Nat) (Z0 : n0 ≤ h0.size) (O0 : Old Z n0 h0) (S1 : Sta Z Z.heap "java/lang/String" "COMPACT_STRINGS" "Z" (.int cz)) (P5 : ¬ cz = (0 : Int32)) (E1 : Exa Z h0 a1 "java/lang/String") (F1 : Fld Z h0 a1 "java/lang/String" "coder" "B" (.int cd)) (F2 : Fld Z h0 a1 "java/lang/String" "value" "[B" (.ref t)) (Va : Arv Z h0 t kt .byte N2 vs (.int 0)) (hc : own_cod cs cd N2 vs) (hlen : cs.length ≤ 4000) (hr : own_chs cs) :
    MetFree l (⟨"java/lang/String", "length", "()I"⟩ : MethodName) (head1 (Jvm.Cond.code (⟨"java/lang/String", "length", "()I"⟩ : MethodName) jdk_42_method_54_code 1 (some .int) :: wsq) ({ frames := 1, cells := 0, slots := 0, locals := 13 } : Room)) (fun aq Uq => aq = #[(.ref a1)] ∧ Z.Warmed39 Uq.vm ∧ Uq.heap = h0) (fun _ _ _ _ _ => True) (fun _ Uq oq Uq' => ∃ vq Lq, oq = .returned vq ∧ own_Q_len Z a1 cz t kt cd N2 vs cs h0 n0 vq Uq'.heap Lq ∧ FrameEnd Uq oq Uq' Lq ({ frames := 1, cells := 0, slots := 0, locals := 13 } : Room).cells ({ frames := 1, cells := 0, slots := 0, locals := 13 } : Room).slots) := by
  refine MetFree.of_bodySF (plainFor_of_name own_pn0) hisR ?_
  intro p e s m args below meth cde s₁ Bd hml0 hP hK
  obtain ⟨rfl, hZ, hh⟩ := hP
  have hx := Bd.exec
  have hby := Bd.bytes
  have hml : cde.maxLocals = 1 := hml0
  have hown : s.vm.findClass "java/lang/String" = some m.cls := findClass_of_methodNamed Bd.named
  have hnm := (name_of_methodNamed Bd.named Bd.method).1
  have X0 : Stand p l e ({ frames := 1, cells := 0, slots := 0, locals := 13 } : Room) s m #[(.ref a1)] below meth cde s₁ [] 0 0 := Stand.of_body Bd
  have e0 : s₁.heap = h0 := by rw [← hh, Bd.state]; rfl
  have N0 := Fr.nil n0
  show own_Fin p e s below (own_Q_len Z a1 cz t kt cd N2 vs cs h0 n0) ({ frames := 1, cells := 0, slots := 0, locals := 13 } : Room).cells ({ frames := 1, cells := 0, slots := 0, locals := 13 } : Room).slots s₁ (entryFrame m #[(.ref a1)] 1)
  rw [own_ef_len m a1]
  refine own_via (fun _ k => XS.aloadN X0.here hx rfl (hb hby own_d_jdk_42_54_0) rfl rfl k) ?_
  show own_Fin _ _ _ _ _ _ _ s₁ (mkF m 1 #[.val (.ref a1)] [(.ref a1)])
  obtain ⟨T1_, X1_, e1_, st1_⟩ := getF X0 hx hZ hown (host := "") (Or.inl (hw _ (List.mem_of_getElem? (i := 31) rfl))) Via.refl e0 F2 (g := (mkF m 1 #[.val (.ref a1)] [(.ref a1)])) rfl rfl (hb hby own_d_jdk_42_54_1)
  refine own_via (fun _ k => st1_ _ k) ?_
  show own_Fin _ _ _ _ _ _ _ T1_ (mkF m 4 #[.val (.ref a1)] [(.ref t)])
  obtain ⟨c2_, Ar2_, -, S2_, M2_, -, -⟩ := (id Va)
  refine own_via (fun _ k => X1_.arraylength hx (own_eq e1_ Ar2_.1) (State.isArrayOf_alike hZ.alike Ar2_.2.1) (g := (mkF m 4 #[.val (.ref a1)] [(.ref t)])) rfl rfl (hb hby own_d_jdk_42_54_4) _ (by rw [len_of S2_ M2_]; exact k)) ?_
  show own_Fin _ _ _ _ _ _ _ T1_ (mkF m 5 #[.val (.ref a1)] [(.int N2)])
  refine own_via (fun _ k => XS.aloadN X1_.here hx rfl (hb hby own_d_jdk_42_54_5) rfl rfl k) ?_
  show own_Fin _ _ _ _ _ _ _ T1_ (mkF m 6 #[.val (.ref a1)] [(.ref a1), (.int N2)])
  obtain ⟨cq3_, kq3_, q3_a, q3_b, q3_c⟩ := isOf hZ e1_ E1
  obtain ⟨_, _, ⟨T3_, L3_, k3_, n3_⟩, -, X3_, ⟨Lc3_, hQ3_, l3_, y3_, z3_⟩, st3_⟩ := X1_.virtualBack hx (y := (⟨"java/lang/String", "coder", "()B"⟩ : MethodName)) (z := (⟨"java/lang/String", "coder", "()B"⟩ : MethodName)) hown (mvT hZ (hw _ (List.mem_of_getElem? (i := 48) rfl))) (mvT hZ (hw _ (List.mem_of_getElem? (i := 49) rfl))) (notFace_of_selects (args := #[]) (mvT hZ (hw _ (List.mem_of_getElem? (i := 51) rfl)))) (mvT hZ (hw _ (List.mem_of_getElem? (i := 51) rfl))) (mvT hZ (hw _ (List.mem_of_getElem? (i := 50) rfl))) (by decide) (backOf (W := 1) (own_rm_coder l Z a0 hw [] a1 cz cd h0 n0 Z0 O0 S1 (by first | assumption | decide) F1 (own_cod_cd hc)) hZ (hw _ (List.mem_of_getElem? (i := 52) rfl)) (hw _ (List.mem_of_getElem? (i := 14) rfl)) (by decide) (by decide)) q3_a q3_c (g := (mkF m 6 #[.val (.ref a1)] [(.ref a1), (.int N2)])) rfl (by rw [hml]; rfl) (Steps.refl _) (argsL := []) (rest := [(.int N2)]) (lenOf own_pd0 rfl) rfl (by show 2 * 0 + _ ≤ _; exact Nat.le_of_eq rfl) (hb hby own_d_jdk_42_54_6) (fun _ _ => ⟨rfl, e1_, (by decide : 0 + 0 ≤ _), (by decide : 0 + 0 ≤ _)⟩)
  dsimp only [Pt.U, Pt.locs, Pt.cells, Pt.slots] at X3_ l3_ y3_ z3_ st3_ hQ3_
  subst l3_ y3_ z3_
  obtain ⟨rfl, Nq3_, hh3_⟩ := hQ3_
  have N3_ := Fr.app N0 Nq3_
  refine own_via (fun _ k => st3_.trans k) ?_
  show own_Fin _ _ _ _ _ _ _ T3_ (mkF m 9 #[.val (.ref a1)] [(.int cd), (.int N2)])
  refine own_via (fun _ k => XS.ishr X3_.here hx rfl (hb hby own_d_jdk_42_54_9) rfl k) ?_
  show own_Fin _ _ _ _ _ _ _ T3_ (mkF m 10 #[.val (.ref a1)] [(.int (N2 >>> (cd &&& 31)))])
  exact own_retI X3_ hx Bd.returns Bd.notSynchronized (hb hby own_d_jdk_42_54_10) hh3_ (own_cod_len hc hlen) ⟨rfl, N3_, rfl⟩ (by decide) (by decide)
theorem own_d_jdk_41_11_0 : decode jdk_41_method_11_code 0 = .ok (.iload_n 0, 1) := by decide +kernel
theorem own_d_jdk_41_11_1 : decode jdk_41_method_11_code 1 = .ok (.ifCond .lt 8, 3) := by decide +kernel
theorem own_d_jdk_41_11_4 : decode jdk_41_method_11_code 4 = .ok (.iload_n 0, 1) := by decide +kernel
theorem own_d_jdk_41_11_5 : decode jdk_41_method_11_code 5 = .ok (.iload_n 1, 1) := by decide +kernel
theorem own_d_jdk_41_11_6 : decode jdk_41_method_11_code 6 = .ok (.if_icmp .lt 10, 3) := by decide +kernel
theorem own_d_jdk_41_11_16 : decode jdk_41_method_11_code 16 = .ok (.iload_n 0, 1) := by decide +kernel
theorem own_d_jdk_41_11_17 : decode jdk_41_method_11_code 17 = .ok (.ireturn, 1) := by decide +kernel
theorem own_pn1 : plainName "jdk/internal/util/Preconditions" = true := by first | (simp [plainName, overriddenIn]; done) | decide +kernel
theorem own_ef_chkP (m : MethodId) (i : Int32) (n : Int32) (fm : Value) (r_fm : fm.isRef = true) : entryFrame m #[(.int i), (.int n), fm] 3 = mkF m 0 #[.val (.int i), .val (.int n), .val fm] [] := by cases fm <;> first | (cases r_fm; done) | (first | (simp [entryFrame, mkF, argsToLocals, Value.category]; done) | rfl)
def own_Q_chkP (Z : State) (i : Int32) (n : Int32) (fm : Value) (h0 : Heap) (n0 : Nat) (vq : Option Value) (h : Heap) (Lq : List Loc) : Prop := (vq = some (.int i)) ∧ (Fr n0 Lq) ∧ (h = h0)
set_option maxRecDepth 65536 in
set_option maxHeartbeats 40000000 in
theorem own_rm_chkP (l : Launch) (Z : State) (a0 : Array Value) (hw : ∀ d ∈ tables_1, d.before a0 Z = true) (wsq : List Jvm.Cond) (i : Int32) (n : Int32) (fm : Value) (h0 : Heap) (n0 : Nat) (Z0 : n0 ≤ h0.size) (h1 : ¬ i < (0 : Int32)) (h2 : i < n) (r_fm : fm.isRef = true) :
    MetFree l (⟨"jdk/internal/util/Preconditions", "checkIndex", "(IILjava/util/function/BiFunction;)I"⟩ : MethodName) (head1 (Jvm.Cond.code (⟨"jdk/internal/util/Preconditions", "checkIndex", "(IILjava/util/function/BiFunction;)I"⟩ : MethodName) jdk_41_method_11_code 3 (some .int) :: wsq) ({ frames := 0, cells := 0, slots := 0, locals := 0 } : Room)) (fun aq Uq => aq = #[(.int i), (.int n), fm] ∧ Z.Warmed39 Uq.vm ∧ Uq.heap = h0) (fun _ _ _ _ _ => True) (fun _ Uq oq Uq' => ∃ vq Lq, oq = .returned vq ∧ own_Q_chkP Z i n fm h0 n0 vq Uq'.heap Lq ∧ FrameEnd Uq oq Uq' Lq ({ frames := 0, cells := 0, slots := 0, locals := 0 } : Room).cells ({ frames := 0, cells := 0, slots := 0, locals := 0 } : Room).slots) := by
  refine MetFree.of_bodySF (plainFor_of_name own_pn1) hisR ?_
  intro p e s m args below meth cde s₁ Bd hml0 hP hK
  obtain ⟨rfl, hZ, hh⟩ := hP
  have hx := Bd.exec
  have hby := Bd.bytes
  have hml : cde.maxLocals = 3 := hml0
  have hown : s.vm.findClass "jdk/internal/util/Preconditions" = some m.cls := findClass_of_methodNamed Bd.named
  have hnm := (name_of_methodNamed Bd.named Bd.method).1
  have X0 : Stand p l e ({ frames := 0, cells := 0, slots := 0, locals := 0 } : Room) s m #[(.int i), (.int n), fm] below meth cde s₁ [] 0 0 := Stand.of_body Bd
  have e0 : s₁.heap = h0 := by rw [← hh, Bd.state]; rfl
  have N0 := Fr.nil n0
  show own_Fin p e s below (own_Q_chkP Z i n fm h0 n0) ({ frames := 0, cells := 0, slots := 0, locals := 0 } : Room).cells ({ frames := 0, cells := 0, slots := 0, locals := 0 } : Room).slots s₁ (entryFrame m #[(.int i), (.int n), fm] 3)
  rw [own_ef_chkP m i n fm r_fm]
  refine own_via (fun _ k => XS.iloadN X0.here hx rfl (hb hby own_d_jdk_41_11_0) rfl k) ?_
  show own_Fin _ _ _ _ _ _ _ s₁ (mkF m 1 #[.val (.int i), .val (.int n), .val fm] [(.int i)])
  refine own_via (fun _ k => XS.ifNo X0.here hx rfl (hb hby own_d_jdk_41_11_1) rfl ((if0 _ _).trans (flt h1).1) k) ?_
  show own_Fin _ _ _ _ _ _ _ s₁ (mkF m 4 #[.val (.int i), .val (.int n), .val fm] [])
  refine own_via (fun _ k => XS.iloadN X0.here hx rfl (hb hby own_d_jdk_41_11_4) rfl k) ?_
  show own_Fin _ _ _ _ _ _ _ s₁ (mkF m 5 #[.val (.int i), .val (.int n), .val fm] [(.int i)])
  refine own_via (fun _ k => XS.iloadN X0.here hx rfl (hb hby own_d_jdk_41_11_5) rfl k) ?_
  show own_Fin _ _ _ _ _ _ _ s₁ (mkF m 6 #[.val (.int i), .val (.int n), .val fm] [(.int n), (.int i)])
  refine own_via (fun _ k => XS.icmpYes X0.here hx rfl (pc0 := 6) (pc' := 16) rfl (hb hby own_d_jdk_41_11_6) rfl (tlt h2).1 (by decide) (by decide) k) ?_
  show own_Fin _ _ _ _ _ _ _ s₁ (mkF m 16 #[.val (.int i), .val (.int n), .val fm] [])
  refine own_via (fun _ k => XS.iloadN X0.here hx rfl (hb hby own_d_jdk_41_11_16) rfl k) ?_
  show own_Fin _ _ _ _ _ _ _ s₁ (mkF m 17 #[.val (.int i), .val (.int n), .val fm] [(.int i)])
  exact own_retI X0 hx Bd.returns Bd.notSynchronized (hb hby own_d_jdk_41_11_17) e0 rfl ⟨rfl, N0, rfl⟩ (by decide) (by decide)
theorem own_d_jdk_42_155_0 : decode jdk_42_method_155_code 0 = .ok (.iload_n 0, 1) := by decide +kernel
theorem own_d_jdk_42_155_1 : decode jdk_42_method_155_code 1 = .ok (.iload_n 1, 1) := by decide +kernel
theorem own_d_jdk_42_155_2 : decode jdk_42_method_155_code 2 = .ok (.getstatic 1053, 3) := by decide +kernel
theorem own_d_jdk_42_155_5 : decode jdk_42_method_155_code 5 = .ok (.invokestatic 1059, 3) := by decide +kernel
theorem own_pd1 : parseMethodDescriptor "(IILjava/util/function/BiFunction;)I" = some ⟨[.int, .int, (.object "java/util/function/BiFunction")], some .int⟩ := by decide +kernel
theorem own_d_jdk_42_155_8 : decode jdk_42_method_155_code 8 = .ok (.pop, 1) := by decide +kernel
theorem own_d_jdk_42_155_9 : decode jdk_42_method_155_code 9 = .ok (.return_, 1) := by decide +kernel
theorem own_ef_chk (m : MethodId) (i : Int32) (n : Int32) : entryFrame m #[(.int i), (.int n)] 2 = mkF m 0 #[.val (.int i), .val (.int n)] [] := by (first | (simp [entryFrame, mkF, argsToLocals, Value.category]; done) | rfl)
def own_Q_chk (Z : State) (i : Int32) (n : Int32) (fm : Value) (h0 : Heap) (n0 : Nat) (vq : Option Value) (h : Heap) (Lq : List Loc) : Prop := (vq = none) ∧ (Fr n0 Lq) ∧ (h = h0)
set_option maxRecDepth 65536 in
set_option maxHeartbeats 40000000 in
theorem own_rm_chk (l : Launch) (Z : State) (a0 : Array Value) (hw : ∀ d ∈ tables_1, d.before a0 Z = true) (wsq : List Jvm.Cond) (i : Int32) (n : Int32) (fm : Value) (h0 : Heap) (n0 : Nat) (Z0 : n0 ≤ h0.size) (O0 : Old Z n0 h0) (S2 : Sta Z Z.heap "jdk/internal/util/Preconditions" "SIOOBE_FORMATTER" "Ljava/util/function/BiFunction;" fm) (r_fm : fm.isRef = true) (h1 : ¬ i < (0 : Int32)) (h2 : i < n) :
    MetFree l (⟨"java/lang/String", "checkIndex", "(II)V"⟩ : MethodName) (head1 (Jvm.Cond.code (⟨"java/lang/String", "checkIndex", "(II)V"⟩ : MethodName) jdk_42_method_155_code 2 none :: wsq) ({ frames := 1, cells := 0, slots := 0, locals := 14 } : Room)) (fun aq Uq => aq = #[(.int i), (.int n)] ∧ Z.Warmed39 Uq.vm ∧ Uq.heap = h0) (fun _ _ _ _ _ => True) (fun _ Uq oq Uq' => ∃ vq Lq, oq = .returned vq ∧ own_Q_chk Z i n fm h0 n0 vq Uq'.heap Lq ∧ FrameEnd Uq oq Uq' Lq ({ frames := 1, cells := 0, slots := 0, locals := 14 } : Room).cells ({ frames := 1, cells := 0, slots := 0, locals := 14 } : Room).slots) := by
  refine MetFree.of_bodySF (plainFor_of_name own_pn0) hisR ?_
  intro p e s m args below meth cde s₁ Bd hml0 hP hK
  obtain ⟨rfl, hZ, hh⟩ := hP
  have hx := Bd.exec
  have hby := Bd.bytes
  have hml : cde.maxLocals = 2 := hml0
  have hown : s.vm.findClass "java/lang/String" = some m.cls := findClass_of_methodNamed Bd.named
  have hnm := (name_of_methodNamed Bd.named Bd.method).1
  have X0 : Stand p l e ({ frames := 1, cells := 0, slots := 0, locals := 14 } : Room) s m #[(.int i), (.int n)] below meth cde s₁ [] 0 0 := Stand.of_body Bd
  have e0 : s₁.heap = h0 := by rw [← hh, Bd.state]; rfl
  have N0 := Fr.nil n0
  show own_Fin p e s below (own_Q_chk Z i n fm h0 n0) ({ frames := 1, cells := 0, slots := 0, locals := 14 } : Room).cells ({ frames := 1, cells := 0, slots := 0, locals := 14 } : Room).slots s₁ (entryFrame m #[(.int i), (.int n)] 2)
  rw [own_ef_chk m i n]
  refine own_via (fun _ k => XS.iloadN X0.here hx rfl (hb hby own_d_jdk_42_155_0) rfl k) ?_
  show own_Fin _ _ _ _ _ _ _ s₁ (mkF m 1 #[.val (.int i), .val (.int n)] [(.int i)])
  refine own_via (fun _ k => XS.iloadN X0.here hx rfl (hb hby own_d_jdk_42_155_1) rfl k) ?_
  show own_Fin _ _ _ _ _ _ _ s₁ (mkF m 2 #[.val (.int i), .val (.int n)] [(.int n), (.int i)])
  obtain ⟨T1_, X1_, e1_, st1_⟩ := getS2 X0 hx hZ hown (host := "") (Or.inl (hw _ (List.mem_of_getElem? (i := 121) rfl))) Via.refl e0 (S2.ext O0.2) (g := (mkF m 2 #[.val (.int i), .val (.int n)] [(.int n), (.int i)])) rfl (hb hby own_d_jdk_42_155_2)
  refine own_via (fun _ k => st1_ _ k) ?_
  show own_Fin _ _ _ _ _ _ _ T1_ (mkF m 5 #[.val (.int i), .val (.int n)] [fm, (.int n), (.int i)])
  obtain ⟨_, _, ⟨T2_, L2_, k2_, n2_⟩, -, X2_, ⟨Lc2_, hQ2_, l2_, y2_, z2_⟩, st2_⟩ := Jvm.LawKit.callS X1_ hx (y := (⟨"jdk/internal/util/Preconditions", "checkIndex", "(IILjava/util/function/BiFunction;)I"⟩ : MethodName)) hown (mvT hZ (hw _ (List.mem_of_getElem? (i := 123) rfl))) (mvT hZ (hw _ (List.mem_of_getElem? (i := 124) rfl))) (mvT hZ (hw _ (List.mem_of_getElem? (i := 122) rfl))) (mvT hZ (hw _ (List.mem_of_getElem? (i := 125) rfl))) (by decide) (backOf (W := 0) (own_rm_chkP l Z a0 hw [] i n fm h0 n0 Z0 h1 h2 r_fm) hZ (hw _ (List.mem_of_getElem? (i := 125) rfl)) (hw _ (List.mem_of_getElem? (i := 122) rfl)) (by decide) (by decide)) (g := (mkF m 5 #[.val (.int i), .val (.int n)] [fm, (.int n), (.int i)])) rfl (by rw [hml]; rfl) (argsL := [(.int i), (.int n), fm]) (rest := []) (lenOf own_pd1 rfl) rfl (by show 2 * 0 + _ ≤ _; exact Nat.le_of_eq rfl) (hb hby own_d_jdk_42_155_5) (fun _ _ => ⟨rfl, e1_, (by decide : 0 + 0 ≤ _), (by decide : 0 + 0 ≤ _)⟩)
  dsimp only [Pt.U, Pt.locs, Pt.cells, Pt.slots] at X2_ l2_ y2_ z2_ st2_ hQ2_
  subst l2_ y2_ z2_
  obtain ⟨rfl, Nq2_, hh2_⟩ := hQ2_
  have N2_ := Fr.app N0 Nq2_
  refine own_via (fun _ k => st2_ _ k) ?_
  show own_Fin _ _ _ _ _ _ _ T2_ (mkF m 8 #[.val (.int i), .val (.int n)] [(.int i)])
  refine own_via (fun _ k => XS.pop X2_.here hx rfl (hb hby own_d_jdk_42_155_8) rfl rfl k) ?_
  show own_Fin _ _ _ _ _ _ _ T2_ (mkF m 9 #[.val (.int i), .val (.int n)] [])
  exact own_ret0 X2_ hx Bd.returns Bd.notSynchronized (hb hby own_d_jdk_42_155_9) hh2_ ⟨rfl, N2_, rfl⟩ (by decide) (by decide)
theorem own_d_jdk_43_2_0 : decode jdk_43_method_2_code 0 = .ok (.iload_n 1, 1) := by decide +kernel
theorem own_d_jdk_43_2_1 : decode jdk_43_method_2_code 1 = .ok (.aload_n 0, 1) := by decide +kernel
theorem own_d_jdk_43_2_2 : decode jdk_43_method_2_code 2 = .ok (.arraylength, 1) := by decide +kernel
theorem own_d_jdk_43_2_3 : decode jdk_43_method_2_code 3 = .ok (.invokestatic 9, 3) := by decide +kernel
theorem own_pd2 : parseMethodDescriptor "(II)V" = some ⟨[.int, .int], none⟩ := by decide +kernel
theorem own_d_jdk_43_2_6 : decode jdk_43_method_2_code 6 = .ok (.aload_n 0, 1) := by decide +kernel
theorem own_d_jdk_43_2_7 : decode jdk_43_method_2_code 7 = .ok (.iload_n 1, 1) := by decide +kernel
theorem own_d_jdk_43_2_8 : decode jdk_43_method_2_code 8 = .ok (.baload, 1) := by decide +kernel
theorem own_d_jdk_43_2_9 : decode jdk_43_method_2_code 9 = .ok (.sipush 255, 3) := by decide +kernel
theorem own_d_jdk_43_2_12 : decode jdk_43_method_2_code 12 = .ok (.iand, 1) := by decide +kernel
theorem own_d_jdk_43_2_13 : decode jdk_43_method_2_code 13 = .ok (.i2c, 1) := by decide +kernel
theorem own_d_jdk_43_2_14 : decode jdk_43_method_2_code 14 = .ok (.ireturn, 1) := by decide +kernel
theorem own_pn2 : plainName "java/lang/StringLatin1" = true := by first | (simp [plainName, overriddenIn]; done) | decide +kernel
theorem own_ef_latCh (m : MethodId) (t : Addr) (j : Int32) : entryFrame m #[(.ref t), (.int j)] 2 = mkF m 0 #[.val (.ref t), .val (.int j)] [] := by (first | (simp [entryFrame, mkF, argsToLocals, Value.category]; done) | rfl)
def own_Q_latCh (Z : State) (t : Addr) (kt : ClassId) (N2 : Int32) (vs : List Value) (fm : Value) (c : Int32) (j : Int32) (i : Nat) (n : Nat) (h0 : Heap) (n0 : Nat) (vq : Option Value) (h : Heap) (Lq : List Loc) : Prop := (vq = some (.int c)) ∧ (Fr n0 Lq) ∧ (h = h0)
set_option maxRecDepth 65536 in
set_option maxHeartbeats 40000000 in
theorem own_rm_latCh (l : Launch) (Z : State) (a0 : Array Value) (hw : ∀ d ∈ tables_1, d.before a0 Z = true) (wsq : List Jvm.Cond) (t : Addr) (kt : ClassId) (N2 : Int32) (vs : List Value) (fm : Value) (c : Int32) (j : Int32) (i : Nat) (n : Nat) (h0 : Heap) (n0 : Nat) (Z0 : n0 ≤ h0.size) (O0 : Old Z n0 h0) (S2 : Sta Z Z.heap "jdk/internal/util/Preconditions" "SIOOBE_FORMATTER" "Ljava/util/function/BiFunction;" fm) (r_fm : fm.isRef = true) (Va : Arv Z h0 t kt .byte N2 vs (.int 0)) (hj : j = Int32.ofNat i) (hi : i < n) (hn : n ≤ 4000) (hN : N2 = Int32.ofNat n) (he : vs.getD i (.int 0) = .int (own_lo c)) (hcr : own_lat c) :
    MetFree l (⟨"java/lang/StringLatin1", "charAt", "([BI)C"⟩ : MethodName) (head1 (Jvm.Cond.code (⟨"java/lang/StringLatin1", "charAt", "([BI)C"⟩ : MethodName) jdk_43_method_2_code 2 (some .char) :: wsq) ({ frames := 2, cells := 0, slots := 0, locals := 27 } : Room)) (fun aq Uq => aq = #[(.ref t), (.int j)] ∧ Z.Warmed39 Uq.vm ∧ Uq.heap = h0) (fun _ _ _ _ _ => True) (fun _ Uq oq Uq' => ∃ vq Lq, oq = .returned vq ∧ own_Q_latCh Z t kt N2 vs fm c j i n h0 n0 vq Uq'.heap Lq ∧ FrameEnd Uq oq Uq' Lq ({ frames := 2, cells := 0, slots := 0, locals := 27 } : Room).cells ({ frames := 2, cells := 0, slots := 0, locals := 27 } : Room).slots) := by
  refine MetFree.of_bodySF (plainFor_of_name own_pn2) hisR ?_
  intro p e s m args below meth cde s₁ Bd hml0 hP hK
  obtain ⟨rfl, hZ, hh⟩ := hP
  have hx := Bd.exec
  have hby := Bd.bytes
  have hml : cde.maxLocals = 2 := hml0
  have hown : s.vm.findClass "java/lang/StringLatin1" = some m.cls := findClass_of_methodNamed Bd.named
  have hnm := (name_of_methodNamed Bd.named Bd.method).1
  have X0 : Stand p l e ({ frames := 2, cells := 0, slots := 0, locals := 27 } : Room) s m #[(.ref t), (.int j)] below meth cde s₁ [] 0 0 := Stand.of_body Bd
  have e0 : s₁.heap = h0 := by rw [← hh, Bd.state]; rfl
  have N0 := Fr.nil n0
  show own_Fin p e s below (own_Q_latCh Z t kt N2 vs fm c j i n h0 n0) ({ frames := 2, cells := 0, slots := 0, locals := 27 } : Room).cells ({ frames := 2, cells := 0, slots := 0, locals := 27 } : Room).slots s₁ (entryFrame m #[(.ref t), (.int j)] 2)
  rw [own_ef_latCh m t j]
  refine own_via (fun _ k => XS.iloadN X0.here hx rfl (hb hby own_d_jdk_43_2_0) rfl k) ?_
  show own_Fin _ _ _ _ _ _ _ s₁ (mkF m 1 #[.val (.ref t), .val (.int j)] [(.int j)])
  refine own_via (fun _ k => XS.aloadN X0.here hx rfl (hb hby own_d_jdk_43_2_1) rfl rfl k) ?_
  show own_Fin _ _ _ _ _ _ _ s₁ (mkF m 2 #[.val (.ref t), .val (.int j)] [(.ref t), (.int j)])
  obtain ⟨c1_, Ar1_, -, S1_, M1_, -, -⟩ := (id Va)
  refine own_via (fun _ k => X0.arraylength hx (own_eq e0 Ar1_.1) (State.isArrayOf_alike hZ.alike Ar1_.2.1) (g := (mkF m 2 #[.val (.ref t), .val (.int j)] [(.ref t), (.int j)])) rfl rfl (hb hby own_d_jdk_43_2_2) _ (by rw [len_of S1_ M1_]; exact k)) ?_
  show own_Fin _ _ _ _ _ _ _ s₁ (mkF m 3 #[.val (.ref t), .val (.int j)] [(.int N2), (.int j)])
  obtain ⟨_, _, ⟨T2_, L2_, k2_, n2_⟩, -, X2_, ⟨Lc2_, hQ2_, l2_, y2_, z2_⟩, st2_⟩ := Jvm.LawKit.callS X0 hx (y := (⟨"java/lang/String", "checkIndex", "(II)V"⟩ : MethodName)) hown (mvT hZ (hw _ (List.mem_of_getElem? (i := 159) rfl))) (mvT hZ (hw _ (List.mem_of_getElem? (i := 119) rfl))) (mvT hZ (hw _ (List.mem_of_getElem? (i := 14) rfl))) (mvT hZ (hw _ (List.mem_of_getElem? (i := 120) rfl))) (by decide) (backOf (W := 0) (own_rm_chk l Z a0 hw [] j N2 fm h0 n0 Z0 O0 S2 r_fm (own_inb hj hN hi (by omega)).1 (own_inb hj hN hi (by omega)).2) hZ (hw _ (List.mem_of_getElem? (i := 120) rfl)) (hw _ (List.mem_of_getElem? (i := 14) rfl)) (by decide) (by decide)) (g := (mkF m 3 #[.val (.ref t), .val (.int j)] [(.int N2), (.int j)])) rfl (by rw [hml]; rfl) (argsL := [(.int j), (.int N2)]) (rest := []) (lenOf own_pd2 rfl) rfl (by show 2 * 0 + _ ≤ _; exact Nat.le_of_eq rfl) (hb hby own_d_jdk_43_2_3) (fun _ _ => ⟨rfl, e0, (by decide : 0 + 0 ≤ _), (by decide : 0 + 0 ≤ _)⟩)
  dsimp only [Pt.U, Pt.locs, Pt.cells, Pt.slots] at X2_ l2_ y2_ z2_ st2_ hQ2_
  subst l2_ y2_ z2_
  obtain ⟨rfl, Nq2_, hh2_⟩ := hQ2_
  have N2_ := Fr.app N0 Nq2_
  refine own_via (fun _ k => st2_ _ k) ?_
  show own_Fin _ _ _ _ _ _ _ T2_ (mkF m 6 #[.val (.ref t), .val (.int j)] [])
  refine own_via (fun _ k => XS.aloadN X2_.here hx rfl (hb hby own_d_jdk_43_2_6) rfl rfl k) ?_
  show own_Fin _ _ _ _ _ _ _ T2_ (mkF m 7 #[.val (.ref t), .val (.int j)] [(.ref t)])
  refine own_via (fun _ k => XS.iloadN X2_.here hx rfl (hb hby own_d_jdk_43_2_7) rfl k) ?_
  show own_Fin _ _ _ _ _ _ _ T2_ (mkF m 8 #[.val (.ref t), .val (.int j)] [(.int j), (.ref t)])
  obtain ⟨c3_, Ar3_, q3_, S3_, M3_, H3_, G3_⟩ := (id Va)
  have hin3_ : ¬ (j < 0 ∨ c3_.slots.size ≤ (j).toNatClampNeg) := inb_of S3_ (own_inb hj hN hi (by omega))
  have hat3_ : c3_.slots[(j).toNatClampNeg]? = some (.int (own_lo c)) := H3_.at hin3_ (by rw [own_clamp hj (by omega)]; exact he)
  refine own_via (fun _ k => X2_.baloadBytes hx (j := j) (v := (.int (own_lo c))) (own_eq hh2_ Ar3_.1) (State.isArrayOf_alike hZ.alike Ar3_.2.1) Ar3_.2.2 hin3_ hat3_ (g := (mkF m 8 #[.val (.ref t), .val (.int j)] [(.int j), (.ref t)])) rfl rfl (hb hby own_d_jdk_43_2_8) _ k) ?_
  show own_Fin _ _ _ _ _ _ _ T2_ (mkF m 9 #[.val (.ref t), .val (.int j)] [(.int (own_lo c))])
  refine own_via (fun _ k => XS.sipush X2_.here hx rfl (hb hby own_d_jdk_43_2_9) k) ?_
  show own_Fin _ _ _ _ _ _ _ T2_ (mkF m 12 #[.val (.ref t), .val (.int j)] [(.int (255 : Int32)), (.int (own_lo c))])
  refine own_via (fun _ k => XS.iand X2_.here hx rfl (hb hby own_d_jdk_43_2_12) rfl k) ?_
  show own_Fin _ _ _ _ _ _ _ T2_ (mkF m 13 #[.val (.ref t), .val (.int j)] [(.int ((own_lo c) &&& (255 : Int32)))])
  refine own_via (fun _ k => XS.i2c X2_.here hx rfl (hb hby own_d_jdk_43_2_13) rfl k) ?_
  show own_Fin _ _ _ _ _ _ _ T2_ (mkF m 14 #[.val (.ref t), .val (.int j)] [(.int (((own_lo c) &&& (255 : Int32)).toUInt32.toUInt16.toUInt32.toInt32))])
  exact own_retN X2_ hx (t := .char) Bd.returns Bd.notSynchronized (by simp) (hb hby own_d_jdk_43_2_14) hh2_ (own_latch hcr) ⟨rfl, N2_, rfl⟩ (by decide) (by decide)
theorem own_d_jdk_52_5_0 : decode jdk_52_method_5_code 0 = .ok (.getstatic 44, 3) := by decide +kernel
theorem own_d_jdk_52_5_3 : decode jdk_52_method_5_code 3 = .ok (.ifCond .ne 25, 3) := by decide +kernel
theorem own_d_jdk_52_5_28 : decode jdk_52_method_5_code 28 = .ok (.iload_n 1, 1) := by decide +kernel
theorem own_d_jdk_52_5_29 : decode jdk_52_method_5_code 29 = .ok (.iconst 1, 1) := by decide +kernel
theorem own_d_jdk_52_5_30 : decode jdk_52_method_5_code 30 = .ok (.ishl, 1) := by decide +kernel
theorem own_d_jdk_52_5_31 : decode jdk_52_method_5_code 31 = .ok (.istore_n 1, 1) := by decide +kernel
theorem own_d_jdk_52_5_32 : decode jdk_52_method_5_code 32 = .ok (.aload_n 0, 1) := by decide +kernel
theorem own_d_jdk_52_5_33 : decode jdk_52_method_5_code 33 = .ok (.iload_n 1, 1) := by decide +kernel
theorem own_d_jdk_52_5_34 : decode jdk_52_method_5_code 34 = .ok (.iinc 1 1, 3) := by decide +kernel
theorem own_d_jdk_52_5_37 : decode jdk_52_method_5_code 37 = .ok (.baload, 1) := by decide +kernel
theorem own_d_jdk_52_5_38 : decode jdk_52_method_5_code 38 = .ok (.sipush 255, 3) := by decide +kernel
theorem own_d_jdk_52_5_41 : decode jdk_52_method_5_code 41 = .ok (.iand, 1) := by decide +kernel
theorem own_d_jdk_52_5_42 : decode jdk_52_method_5_code 42 = .ok (.getstatic 59, 3) := by decide +kernel
theorem own_d_jdk_52_5_45 : decode jdk_52_method_5_code 45 = .ok (.ishl, 1) := by decide +kernel
theorem own_d_jdk_52_5_46 : decode jdk_52_method_5_code 46 = .ok (.aload_n 0, 1) := by decide +kernel
theorem own_d_jdk_52_5_47 : decode jdk_52_method_5_code 47 = .ok (.iload_n 1, 1) := by decide +kernel
theorem own_d_jdk_52_5_48 : decode jdk_52_method_5_code 48 = .ok (.baload, 1) := by decide +kernel
theorem own_d_jdk_52_5_49 : decode jdk_52_method_5_code 49 = .ok (.sipush 255, 3) := by decide +kernel
theorem own_d_jdk_52_5_52 : decode jdk_52_method_5_code 52 = .ok (.iand, 1) := by decide +kernel
theorem own_d_jdk_52_5_53 : decode jdk_52_method_5_code 53 = .ok (.getstatic 63, 3) := by decide +kernel
theorem own_d_jdk_52_5_56 : decode jdk_52_method_5_code 56 = .ok (.ishl, 1) := by decide +kernel
theorem own_d_jdk_52_5_57 : decode jdk_52_method_5_code 57 = .ok (.ior, 1) := by decide +kernel
theorem own_d_jdk_52_5_58 : decode jdk_52_method_5_code 58 = .ok (.i2c, 1) := by decide +kernel
theorem own_d_jdk_52_5_59 : decode jdk_52_method_5_code 59 = .ok (.ireturn, 1) := by decide +kernel
theorem own_pn3 : plainName "java/lang/StringUTF16" = true := by first | (simp [plainName, overriddenIn]; done) | decide +kernel
theorem own_ef_getCh (m : MethodId) (t : Addr) (j : Int32) : entryFrame m #[(.ref t), (.int j)] 2 = mkF m 0 #[.val (.ref t), .val (.int j)] [] := by (first | (simp [entryFrame, mkF, argsToLocals, Value.category]; done) | rfl)
def own_Q_getCh (Z : State) (t : Addr) (kt : ClassId) (N2 : Int32) (vs : List Value) (c : Int32) (j : Int32) (i : Nat) (n : Nat) (h0 : Heap) (n0 : Nat) (vq : Option Value) (h : Heap) (Lq : List Loc) : Prop := (vq = some (.int c)) ∧ (Fr n0 Lq) ∧ (h = h0)
set_option maxRecDepth 65536 in
set_option maxHeartbeats 40000000 in
theorem own_rm_getCh (l : Launch) (Z : State) (a0 : Array Value) (hw : ∀ d ∈ tables_1, d.before a0 Z = true) (wsq : List Jvm.Cond) (t : Addr) (kt : ClassId) (N2 : Int32) (vs : List Value) (c : Int32) (j : Int32) (i : Nat) (n : Nat) (h0 : Heap) (n0 : Nat) (Z0 : n0 ≤ h0.size) (O0 : Old Z n0 h0) (S3 : Sta Z Z.heap "java/lang/StringUTF16" "$assertionsDisabled" "Z" (.int (1 : Int32))) (S4 : Sta Z Z.heap "java/lang/StringUTF16" "HI_BYTE_SHIFT" "I" (.int (0 : Int32))) (S5 : Sta Z Z.heap "java/lang/StringUTF16" "LO_BYTE_SHIFT" "I" (.int (8 : Int32))) (Va : Arv Z h0 t kt .byte N2 vs (.int 0)) (hj : j = Int32.ofNat i) (hi : i < n) (hn : n ≤ 4000) (hN : N2 = Int32.ofNat (2 * n)) (he1 : vs.getD (2 * i) (.int 0) = .int (own_lo c)) (he2 : vs.getD (2 * i + 1) (.int 0) = .int (own_hi c)) (hcr : own_chr c) :
    MetFree l (⟨"java/lang/StringUTF16", "getChar", "([BI)C"⟩ : MethodName) (head1 (Jvm.Cond.code (⟨"java/lang/StringUTF16", "getChar", "([BI)C"⟩ : MethodName) jdk_52_method_5_code 2 (some .char) :: wsq) ({ frames := 0, cells := 0, slots := 0, locals := 0 } : Room)) (fun aq Uq => aq = #[(.ref t), (.int j)] ∧ Z.Warmed39 Uq.vm ∧ Uq.heap = h0) (fun _ _ _ _ _ => True) (fun _ Uq oq Uq' => ∃ vq Lq, oq = .returned vq ∧ own_Q_getCh Z t kt N2 vs c j i n h0 n0 vq Uq'.heap Lq ∧ FrameEnd Uq oq Uq' Lq ({ frames := 0, cells := 0, slots := 0, locals := 0 } : Room).cells ({ frames := 0, cells := 0, slots := 0, locals := 0 } : Room).slots) := by
  refine MetFree.of_bodySF (plainFor_of_name own_pn3) hisR ?_
  intro p e s m args below meth cde s₁ Bd hml0 hP hK
  obtain ⟨rfl, hZ, hh⟩ := hP
  have hx := Bd.exec
  have hby := Bd.bytes
  have hml : cde.maxLocals = 2 := hml0
  have hown : s.vm.findClass "java/lang/StringUTF16" = some m.cls := findClass_of_methodNamed Bd.named
  have hnm := (name_of_methodNamed Bd.named Bd.method).1
  have X0 : Stand p l e ({ frames := 0, cells := 0, slots := 0, locals := 0 } : Room) s m #[(.ref t), (.int j)] below meth cde s₁ [] 0 0 := Stand.of_body Bd
  have e0 : s₁.heap = h0 := by rw [← hh, Bd.state]; rfl
  have N0 := Fr.nil n0
  show own_Fin p e s below (own_Q_getCh Z t kt N2 vs c j i n h0 n0) ({ frames := 0, cells := 0, slots := 0, locals := 0 } : Room).cells ({ frames := 0, cells := 0, slots := 0, locals := 0 } : Room).slots s₁ (entryFrame m #[(.ref t), (.int j)] 2)
  rw [own_ef_getCh m t j]
  obtain ⟨T1_, X1_, e1_, st1_⟩ := getS2 X0 hx hZ hown (host := "") (Or.inl (hw _ (List.mem_of_getElem? (i := 89) rfl))) Via.refl e0 (S3.ext O0.2) (g := (mkF m 0 #[.val (.ref t), .val (.int j)] [])) rfl (hb hby own_d_jdk_52_5_0)
  refine own_via (fun _ k => st1_ _ k) ?_
  show own_Fin _ _ _ _ _ _ _ T1_ (mkF m 3 #[.val (.ref t), .val (.int j)] [(.int (1 : Int32))])
  refine own_via (fun _ k => XS.ifYes X1_.here hx rfl (pc0 := 3) (pc' := 28) rfl (hb hby own_d_jdk_52_5_3) rfl ((if0 _ _).trans (feq (by decide)).2) (by decide) (by decide) k) ?_
  show own_Fin _ _ _ _ _ _ _ T1_ (mkF m 28 #[.val (.ref t), .val (.int j)] [])
  refine own_via (fun _ k => XS.iloadN X1_.here hx rfl (hb hby own_d_jdk_52_5_28) rfl k) ?_
  show own_Fin _ _ _ _ _ _ _ T1_ (mkF m 29 #[.val (.ref t), .val (.int j)] [(.int j)])
  refine own_via (fun _ k => XS.iconst X1_.here hx rfl (hb hby own_d_jdk_52_5_29) k) ?_
  show own_Fin _ _ _ _ _ _ _ T1_ (mkF m 30 #[.val (.ref t), .val (.int j)] [(.int (1 : Int32)), (.int j)])
  refine own_via (fun _ k => XS.ishl X1_.here hx rfl (hb hby own_d_jdk_52_5_30) rfl k) ?_
  show own_Fin _ _ _ _ _ _ _ T1_ (mkF m 31 #[.val (.ref t), .val (.int j)] [(.int (j <<< ((1 : Int32) &&& 31)))])
  refine own_via (fun _ k => XS.istoreN X1_.here hx rfl (hb hby own_d_jdk_52_5_31) rfl (l' := #[.val (.ref t), .val (.int (j <<< ((1 : Int32) &&& 31)))]) rfl k) ?_
  show own_Fin _ _ _ _ _ _ _ T1_ (mkF m 32 #[.val (.ref t), .val (.int (j <<< ((1 : Int32) &&& 31)))] [])
  refine own_via (fun _ k => XS.aloadN X1_.here hx rfl (hb hby own_d_jdk_52_5_32) rfl rfl k) ?_
  show own_Fin _ _ _ _ _ _ _ T1_ (mkF m 33 #[.val (.ref t), .val (.int (j <<< ((1 : Int32) &&& 31)))] [(.ref t)])
  refine own_via (fun _ k => XS.iloadN X1_.here hx rfl (hb hby own_d_jdk_52_5_33) rfl k) ?_
  show own_Fin _ _ _ _ _ _ _ T1_ (mkF m 34 #[.val (.ref t), .val (.int (j <<< ((1 : Int32) &&& 31)))] [(.int (j <<< ((1 : Int32) &&& 31))), (.ref t)])
  refine own_via (fun _ k => XS.iinc X1_.here hx rfl (hb hby own_d_jdk_52_5_34) rfl (l' := #[.val (.ref t), .val (.int ((j <<< ((1 : Int32) &&& 31)) + (1 : Int32)))]) rfl k) ?_
  show own_Fin _ _ _ _ _ _ _ T1_ (mkF m 37 #[.val (.ref t), .val (.int ((j <<< ((1 : Int32) &&& 31)) + (1 : Int32)))] [(.int (j <<< ((1 : Int32) &&& 31))), (.ref t)])
  obtain ⟨c2_, Ar2_, q2_, S2_, M2_, H2_, G2_⟩ := (id Va)
  have hin2_ : ¬ ((j <<< ((1 : Int32) &&& 31)) < 0 ∨ c2_.slots.size ≤ ((j <<< ((1 : Int32) &&& 31))).toNatClampNeg) := inb_of S2_ (own_shin hj hN hi hn)
  have hat2_ : c2_.slots[((j <<< ((1 : Int32) &&& 31))).toNatClampNeg]? = some (.int (own_lo c)) := H2_.at hin2_ (by rw [own_sh1 hj (by omega)]; exact he1)
  refine own_via (fun _ k => X1_.baloadBytes hx (j := (j <<< ((1 : Int32) &&& 31))) (v := (.int (own_lo c))) (own_eq e1_ Ar2_.1) (State.isArrayOf_alike hZ.alike Ar2_.2.1) Ar2_.2.2 hin2_ hat2_ (g := (mkF m 37 #[.val (.ref t), .val (.int ((j <<< ((1 : Int32) &&& 31)) + (1 : Int32)))] [(.int (j <<< ((1 : Int32) &&& 31))), (.ref t)])) rfl rfl (hb hby own_d_jdk_52_5_37) _ k) ?_
  show own_Fin _ _ _ _ _ _ _ T1_ (mkF m 38 #[.val (.ref t), .val (.int ((j <<< ((1 : Int32) &&& 31)) + (1 : Int32)))] [(.int (own_lo c))])
  refine own_via (fun _ k => XS.sipush X1_.here hx rfl (hb hby own_d_jdk_52_5_38) k) ?_
  show own_Fin _ _ _ _ _ _ _ T1_ (mkF m 41 #[.val (.ref t), .val (.int ((j <<< ((1 : Int32) &&& 31)) + (1 : Int32)))] [(.int (255 : Int32)), (.int (own_lo c))])
  refine own_via (fun _ k => XS.iand X1_.here hx rfl (hb hby own_d_jdk_52_5_41) rfl k) ?_
  show own_Fin _ _ _ _ _ _ _ T1_ (mkF m 42 #[.val (.ref t), .val (.int ((j <<< ((1 : Int32) &&& 31)) + (1 : Int32)))] [(.int ((own_lo c) &&& (255 : Int32)))])
  obtain ⟨T3_, X3_, e3_, st3_⟩ := getS2 X1_ hx hZ hown (host := "") (Or.inl (hw _ (List.mem_of_getElem? (i := 90) rfl))) Via.refl e1_ (S4.ext O0.2) (g := (mkF m 42 #[.val (.ref t), .val (.int ((j <<< ((1 : Int32) &&& 31)) + (1 : Int32)))] [(.int ((own_lo c) &&& (255 : Int32)))])) rfl (hb hby own_d_jdk_52_5_42)
  refine own_via (fun _ k => st3_ _ k) ?_
  show own_Fin _ _ _ _ _ _ _ T3_ (mkF m 45 #[.val (.ref t), .val (.int ((j <<< ((1 : Int32) &&& 31)) + (1 : Int32)))] [(.int (0 : Int32)), (.int ((own_lo c) &&& (255 : Int32)))])
  refine own_via (fun _ k => XS.ishl X3_.here hx rfl (hb hby own_d_jdk_52_5_45) rfl k) ?_
  show own_Fin _ _ _ _ _ _ _ T3_ (mkF m 46 #[.val (.ref t), .val (.int ((j <<< ((1 : Int32) &&& 31)) + (1 : Int32)))] [(.int (((own_lo c) &&& (255 : Int32)) <<< ((0 : Int32) &&& 31)))])
  refine own_via (fun _ k => XS.aloadN X3_.here hx rfl (hb hby own_d_jdk_52_5_46) rfl rfl k) ?_
  show own_Fin _ _ _ _ _ _ _ T3_ (mkF m 47 #[.val (.ref t), .val (.int ((j <<< ((1 : Int32) &&& 31)) + (1 : Int32)))] [(.ref t), (.int (((own_lo c) &&& (255 : Int32)) <<< ((0 : Int32) &&& 31)))])
  refine own_via (fun _ k => XS.iloadN X3_.here hx rfl (hb hby own_d_jdk_52_5_47) rfl k) ?_
  show own_Fin _ _ _ _ _ _ _ T3_ (mkF m 48 #[.val (.ref t), .val (.int ((j <<< ((1 : Int32) &&& 31)) + (1 : Int32)))] [(.int ((j <<< ((1 : Int32) &&& 31)) + (1 : Int32))), (.ref t), (.int (((own_lo c) &&& (255 : Int32)) <<< ((0 : Int32) &&& 31)))])
  obtain ⟨c4_, Ar4_, q4_, S4_, M4_, H4_, G4_⟩ := (id Va)
  have hin4_ : ¬ (((j <<< ((1 : Int32) &&& 31)) + (1 : Int32)) < 0 ∨ c4_.slots.size ≤ (((j <<< ((1 : Int32) &&& 31)) + (1 : Int32))).toNatClampNeg) := inb_of S4_ (own_shin2 hj hN hi hn)
  have hat4_ : c4_.slots[(((j <<< ((1 : Int32) &&& 31)) + (1 : Int32))).toNatClampNeg]? = some (.int (own_hi c)) := H4_.at hin4_ (by rw [own_sh2 hj (by omega)]; exact he2)
  refine own_via (fun _ k => X3_.baloadBytes hx (j := ((j <<< ((1 : Int32) &&& 31)) + (1 : Int32))) (v := (.int (own_hi c))) (own_eq e3_ Ar4_.1) (State.isArrayOf_alike hZ.alike Ar4_.2.1) Ar4_.2.2 hin4_ hat4_ (g := (mkF m 48 #[.val (.ref t), .val (.int ((j <<< ((1 : Int32) &&& 31)) + (1 : Int32)))] [(.int ((j <<< ((1 : Int32) &&& 31)) + (1 : Int32))), (.ref t), (.int (((own_lo c) &&& (255 : Int32)) <<< ((0 : Int32) &&& 31)))])) rfl rfl (hb hby own_d_jdk_52_5_48) _ k) ?_
  show own_Fin _ _ _ _ _ _ _ T3_ (mkF m 49 #[.val (.ref t), .val (.int ((j <<< ((1 : Int32) &&& 31)) + (1 : Int32)))] [(.int (own_hi c)), (.int (((own_lo c) &&& (255 : Int32)) <<< ((0 : Int32) &&& 31)))])
  refine own_via (fun _ k => XS.sipush X3_.here hx rfl (hb hby own_d_jdk_52_5_49) k) ?_
  show own_Fin _ _ _ _ _ _ _ T3_ (mkF m 52 #[.val (.ref t), .val (.int ((j <<< ((1 : Int32) &&& 31)) + (1 : Int32)))] [(.int (255 : Int32)), (.int (own_hi c)), (.int (((own_lo c) &&& (255 : Int32)) <<< ((0 : Int32) &&& 31)))])
  refine own_via (fun _ k => XS.iand X3_.here hx rfl (hb hby own_d_jdk_52_5_52) rfl k) ?_
  show own_Fin _ _ _ _ _ _ _ T3_ (mkF m 53 #[.val (.ref t), .val (.int ((j <<< ((1 : Int32) &&& 31)) + (1 : Int32)))] [(.int ((own_hi c) &&& (255 : Int32))), (.int (((own_lo c) &&& (255 : Int32)) <<< ((0 : Int32) &&& 31)))])
  obtain ⟨T5_, X5_, e5_, st5_⟩ := getS2 X3_ hx hZ hown (host := "") (Or.inl (hw _ (List.mem_of_getElem? (i := 91) rfl))) Via.refl e3_ (S5.ext O0.2) (g := (mkF m 53 #[.val (.ref t), .val (.int ((j <<< ((1 : Int32) &&& 31)) + (1 : Int32)))] [(.int ((own_hi c) &&& (255 : Int32))), (.int (((own_lo c) &&& (255 : Int32)) <<< ((0 : Int32) &&& 31)))])) rfl (hb hby own_d_jdk_52_5_53)
  refine own_via (fun _ k => st5_ _ k) ?_
  show own_Fin _ _ _ _ _ _ _ T5_ (mkF m 56 #[.val (.ref t), .val (.int ((j <<< ((1 : Int32) &&& 31)) + (1 : Int32)))] [(.int (8 : Int32)), (.int ((own_hi c) &&& (255 : Int32))), (.int (((own_lo c) &&& (255 : Int32)) <<< ((0 : Int32) &&& 31)))])
  refine own_via (fun _ k => XS.ishl X5_.here hx rfl (hb hby own_d_jdk_52_5_56) rfl k) ?_
  show own_Fin _ _ _ _ _ _ _ T5_ (mkF m 57 #[.val (.ref t), .val (.int ((j <<< ((1 : Int32) &&& 31)) + (1 : Int32)))] [(.int (((own_hi c) &&& (255 : Int32)) <<< ((8 : Int32) &&& 31))), (.int (((own_lo c) &&& (255 : Int32)) <<< ((0 : Int32) &&& 31)))])
  refine own_via (fun _ k => XS.ior X5_.here hx rfl (hb hby own_d_jdk_52_5_57) rfl k) ?_
  show own_Fin _ _ _ _ _ _ _ T5_ (mkF m 58 #[.val (.ref t), .val (.int ((j <<< ((1 : Int32) &&& 31)) + (1 : Int32)))] [(.int ((((own_lo c) &&& (255 : Int32)) <<< ((0 : Int32) &&& 31)) ||| (((own_hi c) &&& (255 : Int32)) <<< ((8 : Int32) &&& 31))))])
  refine own_via (fun _ k => XS.i2c X5_.here hx rfl (hb hby own_d_jdk_52_5_58) rfl k) ?_
  show own_Fin _ _ _ _ _ _ _ T5_ (mkF m 59 #[.val (.ref t), .val (.int ((j <<< ((1 : Int32) &&& 31)) + (1 : Int32)))] [(.int (((((own_lo c) &&& (255 : Int32)) <<< ((0 : Int32) &&& 31)) ||| (((own_hi c) &&& (255 : Int32)) <<< ((8 : Int32) &&& 31))).toUInt32.toUInt16.toUInt32.toInt32))])
  exact own_retN X5_ hx (t := .char) Bd.returns Bd.notSynchronized (by simp) (hb hby own_d_jdk_52_5_59) e5_ (own_getch hcr) ⟨rfl, N0, rfl⟩ (by decide) (by decide)
theorem own_d_jdk_52_6_0 : decode jdk_52_method_6_code 0 = .ok (.aload_n 0, 1) := by decide +kernel
theorem own_d_jdk_52_6_1 : decode jdk_52_method_6_code 1 = .ok (.arraylength, 1) := by decide +kernel
theorem own_d_jdk_52_6_2 : decode jdk_52_method_6_code 2 = .ok (.iconst 1, 1) := by decide +kernel
theorem own_d_jdk_52_6_3 : decode jdk_52_method_6_code 3 = .ok (.ishr, 1) := by decide +kernel
theorem own_d_jdk_52_6_4 : decode jdk_52_method_6_code 4 = .ok (.ireturn, 1) := by decide +kernel
theorem own_ef_u16len (m : MethodId) (t : Addr) : entryFrame m #[(.ref t)] 1 = mkF m 0 #[.val (.ref t)] [] := by (first | (simp [entryFrame, mkF, argsToLocals, Value.category]; done) | rfl)
def own_Q_u16len (Z : State) (t : Addr) (kt : ClassId) (N2 : Int32) (vs : List Value) (n : Nat) (h0 : Heap) (n0 : Nat) (vq : Option Value) (h : Heap) (Lq : List Loc) : Prop := (vq = some (.int (Int32.ofNat n))) ∧ (Fr n0 Lq) ∧ (h = h0)
set_option maxRecDepth 65536 in
set_option maxHeartbeats 40000000 in
theorem own_rm_u16len (l : Launch) (Z : State) (a0 : Array Value) (hw : ∀ d ∈ tables_1, d.before a0 Z = true) (wsq : List Jvm.Cond) (t : Addr) (kt : ClassId) (N2 : Int32) (vs : List Value) (n : Nat) (h0 : Heap) (n0 : Nat) (Z0 : n0 ≤ h0.size) (Va : Arv Z h0 t kt .byte N2 vs (.int 0)) (hN : N2 = Int32.ofNat (2 * n)) (hn : n ≤ 4000) :
    MetFree l (⟨"java/lang/StringUTF16", "length", "([B)I"⟩ : MethodName) (head1 (Jvm.Cond.code (⟨"java/lang/StringUTF16", "length", "([B)I"⟩ : MethodName) jdk_52_method_6_code 1 (some .int) :: wsq) ({ frames := 0, cells := 0, slots := 0, locals := 0 } : Room)) (fun aq Uq => aq = #[(.ref t)] ∧ Z.Warmed39 Uq.vm ∧ Uq.heap = h0) (fun _ _ _ _ _ => True) (fun _ Uq oq Uq' => ∃ vq Lq, oq = .returned vq ∧ own_Q_u16len Z t kt N2 vs n h0 n0 vq Uq'.heap Lq ∧ FrameEnd Uq oq Uq' Lq ({ frames := 0, cells := 0, slots := 0, locals := 0 } : Room).cells ({ frames := 0, cells := 0, slots := 0, locals := 0 } : Room).slots) := by
  refine MetFree.of_bodySF (plainFor_of_name own_pn3) hisR ?_
  intro p e s m args below meth cde s₁ Bd hml0 hP hK
  obtain ⟨rfl, hZ, hh⟩ := hP
  have hx := Bd.exec
  have hby := Bd.bytes
  have hml : cde.maxLocals = 1 := hml0
  have hown : s.vm.findClass "java/lang/StringUTF16" = some m.cls := findClass_of_methodNamed Bd.named
  have hnm := (name_of_methodNamed Bd.named Bd.method).1
  have X0 : Stand p l e ({ frames := 0, cells := 0, slots := 0, locals := 0 } : Room) s m #[(.ref t)] below meth cde s₁ [] 0 0 := Stand.of_body Bd
  have e0 : s₁.heap = h0 := by rw [← hh, Bd.state]; rfl
  have N0 := Fr.nil n0
  show own_Fin p e s below (own_Q_u16len Z t kt N2 vs n h0 n0) ({ frames := 0, cells := 0, slots := 0, locals := 0 } : Room).cells ({ frames := 0, cells := 0, slots := 0, locals := 0 } : Room).slots s₁ (entryFrame m #[(.ref t)] 1)
  rw [own_ef_u16len m t]
  refine own_via (fun _ k => XS.aloadN X0.here hx rfl (hb hby own_d_jdk_52_6_0) rfl rfl k) ?_
  show own_Fin _ _ _ _ _ _ _ s₁ (mkF m 1 #[.val (.ref t)] [(.ref t)])
  obtain ⟨c1_, Ar1_, -, S1_, M1_, -, -⟩ := (id Va)
  refine own_via (fun _ k => X0.arraylength hx (own_eq e0 Ar1_.1) (State.isArrayOf_alike hZ.alike Ar1_.2.1) (g := (mkF m 1 #[.val (.ref t)] [(.ref t)])) rfl rfl (hb hby own_d_jdk_52_6_1) _ (by rw [len_of S1_ M1_]; exact k)) ?_
  show own_Fin _ _ _ _ _ _ _ s₁ (mkF m 2 #[.val (.ref t)] [(.int N2)])
  refine own_via (fun _ k => XS.iconst X0.here hx rfl (hb hby own_d_jdk_52_6_2) k) ?_
  show own_Fin _ _ _ _ _ _ _ s₁ (mkF m 3 #[.val (.ref t)] [(.int (1 : Int32)), (.int N2)])
  refine own_via (fun _ k => XS.ishr X0.here hx rfl (hb hby own_d_jdk_52_6_3) rfl k) ?_
  show own_Fin _ _ _ _ _ _ _ s₁ (mkF m 4 #[.val (.ref t)] [(.int (N2 >>> ((1 : Int32) &&& 31)))])
  exact own_retI X0 hx Bd.returns Bd.notSynchronized (hb hby own_d_jdk_52_6_4) e0 (own_half hN hn) ⟨rfl, N0, rfl⟩ (by decide) (by decide)
theorem own_d_jdk_52_91_0 : decode jdk_52_method_91_code 0 = .ok (.iload_n 0, 1) := by decide +kernel
theorem own_d_jdk_52_91_1 : decode jdk_52_method_91_code 1 = .ok (.aload_n 1, 1) := by decide +kernel
theorem own_d_jdk_52_91_2 : decode jdk_52_method_91_code 2 = .ok (.invokestatic 48, 3) := by decide +kernel
theorem own_pd3 : parseMethodDescriptor "([B)I" = some ⟨[(.array .byte)], some .int⟩ := by decide +kernel
theorem own_d_jdk_52_91_5 : decode jdk_52_method_91_code 5 = .ok (.invokestatic 414, 3) := by decide +kernel
theorem own_d_jdk_52_91_8 : decode jdk_52_method_91_code 8 = .ok (.return_, 1) := by decide +kernel
theorem own_ef_u16chk (m : MethodId) (j : Int32) (t : Addr) : entryFrame m #[(.int j), (.ref t)] 2 = mkF m 0 #[.val (.int j), .val (.ref t)] [] := by (first | (simp [entryFrame, mkF, argsToLocals, Value.category]; done) | rfl)
def own_Q_u16chk (Z : State) (t : Addr) (kt : ClassId) (N2 : Int32) (vs : List Value) (fm : Value) (j : Int32) (i : Nat) (n : Nat) (h0 : Heap) (n0 : Nat) (vq : Option Value) (h : Heap) (Lq : List Loc) : Prop := (vq = none) ∧ (Fr n0 Lq) ∧ (h = h0)
set_option maxRecDepth 65536 in
set_option maxHeartbeats 40000000 in
theorem own_rm_u16chk (l : Launch) (Z : State) (a0 : Array Value) (hw : ∀ d ∈ tables_1, d.before a0 Z = true) (wsq : List Jvm.Cond) (t : Addr) (kt : ClassId) (N2 : Int32) (vs : List Value) (fm : Value) (j : Int32) (i : Nat) (n : Nat) (h0 : Heap) (n0 : Nat) (Z0 : n0 ≤ h0.size) (O0 : Old Z n0 h0) (S2 : Sta Z Z.heap "jdk/internal/util/Preconditions" "SIOOBE_FORMATTER" "Ljava/util/function/BiFunction;" fm) (r_fm : fm.isRef = true) (Va : Arv Z h0 t kt .byte N2 vs (.int 0)) (hj : j = Int32.ofNat i) (hi : i < n) (hn : n ≤ 4000) (hN : N2 = Int32.ofNat (2 * n)) :
    MetFree l (⟨"java/lang/StringUTF16", "checkIndex", "(I[B)V"⟩ : MethodName) (head1 (Jvm.Cond.code (⟨"java/lang/StringUTF16", "checkIndex", "(I[B)V"⟩ : MethodName) jdk_52_method_91_code 2 none :: wsq) ({ frames := 2, cells := 0, slots := 0, locals := 27 } : Room)) (fun aq Uq => aq = #[(.int j), (.ref t)] ∧ Z.Warmed39 Uq.vm ∧ Uq.heap = h0) (fun _ _ _ _ _ => True) (fun _ Uq oq Uq' => ∃ vq Lq, oq = .returned vq ∧ own_Q_u16chk Z t kt N2 vs fm j i n h0 n0 vq Uq'.heap Lq ∧ FrameEnd Uq oq Uq' Lq ({ frames := 2, cells := 0, slots := 0, locals := 27 } : Room).cells ({ frames := 2, cells := 0, slots := 0, locals := 27 } : Room).slots) := by
  refine MetFree.of_bodySF (plainFor_of_name own_pn3) hisR ?_
  intro p e s m args below meth cde s₁ Bd hml0 hP hK
  obtain ⟨rfl, hZ, hh⟩ := hP
  have hx := Bd.exec
  have hby := Bd.bytes
  have hml : cde.maxLocals = 2 := hml0
  have hown : s.vm.findClass "java/lang/StringUTF16" = some m.cls := findClass_of_methodNamed Bd.named
  have hnm := (name_of_methodNamed Bd.named Bd.method).1
  have X0 : Stand p l e ({ frames := 2, cells := 0, slots := 0, locals := 27 } : Room) s m #[(.int j), (.ref t)] below meth cde s₁ [] 0 0 := Stand.of_body Bd
  have e0 : s₁.heap = h0 := by rw [← hh, Bd.state]; rfl
  have N0 := Fr.nil n0
  show own_Fin p e s below (own_Q_u16chk Z t kt N2 vs fm j i n h0 n0) ({ frames := 2, cells := 0, slots := 0, locals := 27 } : Room).cells ({ frames := 2, cells := 0, slots := 0, locals := 27 } : Room).slots s₁ (entryFrame m #[(.int j), (.ref t)] 2)
  rw [own_ef_u16chk m j t]
  refine own_via (fun _ k => XS.iloadN X0.here hx rfl (hb hby own_d_jdk_52_91_0) rfl k) ?_
  show own_Fin _ _ _ _ _ _ _ s₁ (mkF m 1 #[.val (.int j), .val (.ref t)] [(.int j)])
  refine own_via (fun _ k => XS.aloadN X0.here hx rfl (hb hby own_d_jdk_52_91_1) rfl rfl k) ?_
  show own_Fin _ _ _ _ _ _ _ s₁ (mkF m 2 #[.val (.int j), .val (.ref t)] [(.ref t), (.int j)])
  obtain ⟨_, _, ⟨T1_, L1_, k1_, n1_⟩, -, X1_, ⟨Lc1_, hQ1_, l1_, y1_, z1_⟩, st1_⟩ := Jvm.LawKit.callS X0 hx (y := (⟨"java/lang/StringUTF16", "length", "([B)I"⟩ : MethodName)) hown (mvT hZ (hw _ (List.mem_of_getElem? (i := 115) rfl))) (mvT hZ (hw _ (List.mem_of_getElem? (i := 116) rfl))) (mvT hZ (hw _ (List.mem_of_getElem? (i := 71) rfl))) (mvT hZ (hw _ (List.mem_of_getElem? (i := 117) rfl))) (by decide) (backOf (W := 1) (own_rm_u16len l Z a0 hw [] t kt N2 vs n h0 n0 Z0 Va hN hn) hZ (hw _ (List.mem_of_getElem? (i := 117) rfl)) (hw _ (List.mem_of_getElem? (i := 71) rfl)) (by decide) (by decide)) (g := (mkF m 2 #[.val (.int j), .val (.ref t)] [(.ref t), (.int j)])) rfl (by rw [hml]; rfl) (argsL := [(.ref t)]) (rest := [(.int j)]) (lenOf own_pd3 rfl) rfl (by show 2 * 0 + _ ≤ _; exact Nat.le_of_eq rfl) (hb hby own_d_jdk_52_91_2) (fun _ _ => ⟨rfl, e0, (by decide : 0 + 0 ≤ _), (by decide : 0 + 0 ≤ _)⟩)
  dsimp only [Pt.U, Pt.locs, Pt.cells, Pt.slots] at X1_ l1_ y1_ z1_ st1_ hQ1_
  subst l1_ y1_ z1_
  obtain ⟨rfl, Nq1_, hh1_⟩ := hQ1_
  have N1_ := Fr.app N0 Nq1_
  refine own_via (fun _ k => st1_ _ k) ?_
  show own_Fin _ _ _ _ _ _ _ T1_ (mkF m 5 #[.val (.int j), .val (.ref t)] [(.int (Int32.ofNat n)), (.int j)])
  obtain ⟨_, _, ⟨T2_, L2_, k2_, n2_⟩, -, X2_, ⟨Lc2_, hQ2_, l2_, y2_, z2_⟩, st2_⟩ := Jvm.LawKit.callS X1_ hx (y := (⟨"java/lang/String", "checkIndex", "(II)V"⟩ : MethodName)) hown (mvT hZ (hw _ (List.mem_of_getElem? (i := 118) rfl))) (mvT hZ (hw _ (List.mem_of_getElem? (i := 119) rfl))) (mvT hZ (hw _ (List.mem_of_getElem? (i := 14) rfl))) (mvT hZ (hw _ (List.mem_of_getElem? (i := 120) rfl))) (by decide) (backOf (W := 0) (own_rm_chk l Z a0 hw [] j (Int32.ofNat n) fm h0 n0 Z0 O0 S2 r_fm (own_inb hj rfl hi (by omega)).1 (own_inb hj rfl hi (by omega)).2) hZ (hw _ (List.mem_of_getElem? (i := 120) rfl)) (hw _ (List.mem_of_getElem? (i := 14) rfl)) (by decide) (by decide)) (g := (mkF m 5 #[.val (.int j), .val (.ref t)] [(.int (Int32.ofNat n)), (.int j)])) rfl (by rw [hml]; rfl) (argsL := [(.int j), (.int (Int32.ofNat n))]) (rest := []) (lenOf own_pd2 rfl) rfl (by show 2 * 0 + _ ≤ _; exact Nat.le_of_eq rfl) (hb hby own_d_jdk_52_91_5) (fun _ _ => ⟨rfl, hh1_, (by decide : 0 + 0 + 0 ≤ _), (by decide : 0 + 0 + 0 ≤ _)⟩)
  dsimp only [Pt.U, Pt.locs, Pt.cells, Pt.slots] at X2_ l2_ y2_ z2_ st2_ hQ2_
  subst l2_ y2_ z2_
  obtain ⟨rfl, Nq2_, hh2_⟩ := hQ2_
  have N2_ := Fr.app N1_ Nq2_
  refine own_via (fun _ k => st2_ _ k) ?_
  show own_Fin _ _ _ _ _ _ _ T2_ (mkF m 8 #[.val (.int j), .val (.ref t)] [])
  exact own_ret0 X2_ hx Bd.returns Bd.notSynchronized (hb hby own_d_jdk_52_91_8) hh2_ ⟨rfl, N2_, rfl⟩ (by decide) (by decide)
theorem own_d_jdk_52_83_0 : decode jdk_52_method_83_code 0 = .ok (.iload_n 1, 1) := by decide +kernel
theorem own_d_jdk_52_83_1 : decode jdk_52_method_83_code 1 = .ok (.aload_n 0, 1) := by decide +kernel
theorem own_d_jdk_52_83_2 : decode jdk_52_method_83_code 2 = .ok (.invokestatic 67, 3) := by decide +kernel
theorem own_pd4 : parseMethodDescriptor "(I[B)V" = some ⟨[.int, (.array .byte)], none⟩ := by decide +kernel
theorem own_d_jdk_52_83_5 : decode jdk_52_method_83_code 5 = .ok (.aload_n 0, 1) := by decide +kernel
theorem own_d_jdk_52_83_6 : decode jdk_52_method_83_code 6 = .ok (.iload_n 1, 1) := by decide +kernel
theorem own_d_jdk_52_83_7 : decode jdk_52_method_83_code 7 = .ok (.invokestatic 71, 3) := by decide +kernel
theorem own_pd5 : parseMethodDescriptor "([BI)C" = some ⟨[(.array .byte), .int], some .char⟩ := by decide +kernel
theorem own_d_jdk_52_83_10 : decode jdk_52_method_83_code 10 = .ok (.ireturn, 1) := by decide +kernel
theorem own_ef_u16ch (m : MethodId) (t : Addr) (j : Int32) : entryFrame m #[(.ref t), (.int j)] 2 = mkF m 0 #[.val (.ref t), .val (.int j)] [] := by (first | (simp [entryFrame, mkF, argsToLocals, Value.category]; done) | rfl)
def own_Q_u16ch (Z : State) (t : Addr) (kt : ClassId) (N2 : Int32) (vs : List Value) (fm : Value) (c : Int32) (j : Int32) (i : Nat) (n : Nat) (h0 : Heap) (n0 : Nat) (vq : Option Value) (h : Heap) (Lq : List Loc) : Prop := (vq = some (.int c)) ∧ (Fr n0 Lq) ∧ (h = h0)
set_option maxRecDepth 65536 in
set_option maxHeartbeats 40000000 in
theorem own_rm_u16ch (l : Launch) (Z : State) (a0 : Array Value) (hw : ∀ d ∈ tables_1, d.before a0 Z = true) (wsq : List Jvm.Cond) (t : Addr) (kt : ClassId) (N2 : Int32) (vs : List Value) (fm : Value) (c : Int32) (j : Int32) (i : Nat) (n : Nat) (h0 : Heap) (n0 : Nat) (Z0 : n0 ≤ h0.size) (O0 : Old Z n0 h0) (S2 : Sta Z Z.heap "jdk/internal/util/Preconditions" "SIOOBE_FORMATTER" "Ljava/util/function/BiFunction;" fm) (r_fm : fm.isRef = true) (S3 : Sta Z Z.heap "java/lang/StringUTF16" "$assertionsDisabled" "Z" (.int (1 : Int32))) (S4 : Sta Z Z.heap "java/lang/StringUTF16" "HI_BYTE_SHIFT" "I" (.int (0 : Int32))) (S5 : Sta Z Z.heap "java/lang/StringUTF16" "LO_BYTE_SHIFT" "I" (.int (8 : Int32))) (Va : Arv Z h0 t kt .byte N2 vs (.int 0)) (hj : j = Int32.ofNat i) (hi : i < n) (hn : n ≤ 4000) (hN : N2 = Int32.ofNat (2 * n)) (he1 : vs.getD (2 * i) (.int 0) = .int (own_lo c)) (he2 : vs.getD (2 * i + 1) (.int 0) = .int (own_hi c)) (hcr : own_chr c) :
    MetFree l (⟨"java/lang/StringUTF16", "charAt", "([BI)C"⟩ : MethodName) (head1 (Jvm.Cond.code (⟨"java/lang/StringUTF16", "charAt", "([BI)C"⟩ : MethodName) jdk_52_method_83_code 2 (some .char) :: wsq) ({ frames := 3, cells := 0, slots := 0, locals := 40 } : Room)) (fun aq Uq => aq = #[(.ref t), (.int j)] ∧ Z.Warmed39 Uq.vm ∧ Uq.heap = h0) (fun _ _ _ _ _ => True) (fun _ Uq oq Uq' => ∃ vq Lq, oq = .returned vq ∧ own_Q_u16ch Z t kt N2 vs fm c j i n h0 n0 vq Uq'.heap Lq ∧ FrameEnd Uq oq Uq' Lq ({ frames := 3, cells := 0, slots := 0, locals := 40 } : Room).cells ({ frames := 3, cells := 0, slots := 0, locals := 40 } : Room).slots) := by
  refine MetFree.of_bodySF (plainFor_of_name own_pn3) hisR ?_
  intro p e s m args below meth cde s₁ Bd hml0 hP hK
  obtain ⟨rfl, hZ, hh⟩ := hP
  have hx := Bd.exec
  have hby := Bd.bytes
  have hml : cde.maxLocals = 2 := hml0
  have hown : s.vm.findClass "java/lang/StringUTF16" = some m.cls := findClass_of_methodNamed Bd.named
  have hnm := (name_of_methodNamed Bd.named Bd.method).1
  have X0 : Stand p l e ({ frames := 3, cells := 0, slots := 0, locals := 40 } : Room) s m #[(.ref t), (.int j)] below meth cde s₁ [] 0 0 := Stand.of_body Bd
  have e0 : s₁.heap = h0 := by rw [← hh, Bd.state]; rfl
  have N0 := Fr.nil n0
  show own_Fin p e s below (own_Q_u16ch Z t kt N2 vs fm c j i n h0 n0) ({ frames := 3, cells := 0, slots := 0, locals := 40 } : Room).cells ({ frames := 3, cells := 0, slots := 0, locals := 40 } : Room).slots s₁ (entryFrame m #[(.ref t), (.int j)] 2)
  rw [own_ef_u16ch m t j]
  refine own_via (fun _ k => XS.iloadN X0.here hx rfl (hb hby own_d_jdk_52_83_0) rfl k) ?_
  show own_Fin _ _ _ _ _ _ _ s₁ (mkF m 1 #[.val (.ref t), .val (.int j)] [(.int j)])
  refine own_via (fun _ k => XS.aloadN X0.here hx rfl (hb hby own_d_jdk_52_83_1) rfl rfl k) ?_
  show own_Fin _ _ _ _ _ _ _ s₁ (mkF m 2 #[.val (.ref t), .val (.int j)] [(.ref t), (.int j)])
  obtain ⟨_, _, ⟨T1_, L1_, k1_, n1_⟩, -, X1_, ⟨Lc1_, hQ1_, l1_, y1_, z1_⟩, st1_⟩ := Jvm.LawKit.callS X0 hx (y := (⟨"java/lang/StringUTF16", "checkIndex", "(I[B)V"⟩ : MethodName)) hown (mvT hZ (hw _ (List.mem_of_getElem? (i := 112) rfl))) (mvT hZ (hw _ (List.mem_of_getElem? (i := 113) rfl))) (mvT hZ (hw _ (List.mem_of_getElem? (i := 71) rfl))) (mvT hZ (hw _ (List.mem_of_getElem? (i := 114) rfl))) (by decide) (backOf (W := 0) (own_rm_u16chk l Z a0 hw [] t kt N2 vs fm j i n h0 n0 Z0 O0 S2 r_fm Va hj hi hn hN) hZ (hw _ (List.mem_of_getElem? (i := 114) rfl)) (hw _ (List.mem_of_getElem? (i := 71) rfl)) (by decide) (by decide)) (g := (mkF m 2 #[.val (.ref t), .val (.int j)] [(.ref t), (.int j)])) rfl (by rw [hml]; rfl) (argsL := [(.int j), (.ref t)]) (rest := []) (lenOf own_pd4 rfl) rfl (by show 2 * 0 + _ ≤ _; exact Nat.le_of_eq rfl) (hb hby own_d_jdk_52_83_2) (fun _ _ => ⟨rfl, e0, (by decide : 0 + 0 ≤ _), (by decide : 0 + 0 ≤ _)⟩)
  dsimp only [Pt.U, Pt.locs, Pt.cells, Pt.slots] at X1_ l1_ y1_ z1_ st1_ hQ1_
  subst l1_ y1_ z1_
  obtain ⟨rfl, Nq1_, hh1_⟩ := hQ1_
  have N1_ := Fr.app N0 Nq1_
  refine own_via (fun _ k => st1_ _ k) ?_
  show own_Fin _ _ _ _ _ _ _ T1_ (mkF m 5 #[.val (.ref t), .val (.int j)] [])
  refine own_via (fun _ k => XS.aloadN X1_.here hx rfl (hb hby own_d_jdk_52_83_5) rfl rfl k) ?_
  show own_Fin _ _ _ _ _ _ _ T1_ (mkF m 6 #[.val (.ref t), .val (.int j)] [(.ref t)])
  refine own_via (fun _ k => XS.iloadN X1_.here hx rfl (hb hby own_d_jdk_52_83_6) rfl k) ?_
  show own_Fin _ _ _ _ _ _ _ T1_ (mkF m 7 #[.val (.ref t), .val (.int j)] [(.int j), (.ref t)])
  obtain ⟨_, _, ⟨T2_, L2_, k2_, n2_⟩, -, X2_, ⟨Lc2_, hQ2_, l2_, y2_, z2_⟩, st2_⟩ := Jvm.LawKit.callS X1_ hx (y := (⟨"java/lang/StringUTF16", "getChar", "([BI)C"⟩ : MethodName)) hown (mvT hZ (hw _ (List.mem_of_getElem? (i := 92) rfl))) (mvT hZ (hw _ (List.mem_of_getElem? (i := 93) rfl))) (mvT hZ (hw _ (List.mem_of_getElem? (i := 71) rfl))) (mvT hZ (hw _ (List.mem_of_getElem? (i := 94) rfl))) (by decide) (backOf (W := 0) (own_rm_getCh l Z a0 hw [] t kt N2 vs c j i n h0 n0 Z0 O0 S3 S4 S5 Va hj hi hn hN he1 he2 hcr) hZ (hw _ (List.mem_of_getElem? (i := 94) rfl)) (hw _ (List.mem_of_getElem? (i := 71) rfl)) (by decide) (by decide)) (g := (mkF m 7 #[.val (.ref t), .val (.int j)] [(.int j), (.ref t)])) rfl (by rw [hml]; rfl) (argsL := [(.ref t), (.int j)]) (rest := []) (lenOf own_pd5 rfl) rfl (by show 2 * 0 + _ ≤ _; exact Nat.le_of_eq rfl) (hb hby own_d_jdk_52_83_7) (fun _ _ => ⟨rfl, hh1_, (by decide : 0 + 0 + 0 ≤ _), (by decide : 0 + 0 + 0 ≤ _)⟩)
  dsimp only [Pt.U, Pt.locs, Pt.cells, Pt.slots] at X2_ l2_ y2_ z2_ st2_ hQ2_
  subst l2_ y2_ z2_
  obtain ⟨rfl, Nq2_, hh2_⟩ := hQ2_
  have N2_ := Fr.app N1_ Nq2_
  refine own_via (fun _ k => st2_ _ k) ?_
  show own_Fin _ _ _ _ _ _ _ T2_ (mkF m 10 #[.val (.ref t), .val (.int j)] [(.int c)])
  exact own_retN X2_ hx (t := .char) Bd.returns Bd.notSynchronized (by simp) (hb hby own_d_jdk_52_83_10) hh2_ (own_narch hcr) ⟨rfl, N2_, rfl⟩ (by decide) (by decide)
theorem own_d_jdk_42_56_0 : decode jdk_42_method_56_code 0 = .ok (.aload_n 0, 1) := by decide +kernel
theorem own_d_jdk_42_56_1 : decode jdk_42_method_56_code 1 = .ok (.invokevirtual 492, 3) := by decide +kernel
theorem own_pd6 : parseMethodDescriptor "()Z" = some ⟨[], some .boolean⟩ := by decide +kernel
theorem own_d_jdk_42_56_4 : decode jdk_42_method_56_code 4 = .ok (.ifCond .eq 12, 3) := by decide +kernel
theorem own_d_jdk_42_56_7 : decode jdk_42_method_56_code 7 = .ok (.aload_n 0, 1) := by decide +kernel
theorem own_d_jdk_42_56_8 : decode jdk_42_method_56_code 8 = .ok (.getfield 9, 3) := by decide +kernel
theorem own_d_jdk_42_56_11 : decode jdk_42_method_56_code 11 = .ok (.iload_n 1, 1) := by decide +kernel
theorem own_d_jdk_42_56_12 : decode jdk_42_method_56_code 12 = .ok (.invokestatic 495, 3) := by decide +kernel
theorem own_d_jdk_42_56_15 : decode jdk_42_method_56_code 15 = .ok (.ireturn, 1) := by decide +kernel
theorem own_d_jdk_42_56_16 : decode jdk_42_method_56_code 16 = .ok (.aload_n 0, 1) := by decide +kernel
theorem own_d_jdk_42_56_17 : decode jdk_42_method_56_code 17 = .ok (.getfield 9, 3) := by decide +kernel
theorem own_d_jdk_42_56_20 : decode jdk_42_method_56_code 20 = .ok (.iload_n 1, 1) := by decide +kernel
theorem own_d_jdk_42_56_21 : decode jdk_42_method_56_code 21 = .ok (.invokestatic 498, 3) := by decide +kernel
theorem own_d_jdk_42_56_24 : decode jdk_42_method_56_code 24 = .ok (.ireturn, 1) := by decide +kernel
theorem own_ef_chAt (m : MethodId) (a1 : Addr) (j : Int32) : entryFrame m #[(.ref a1), (.int j)] 2 = mkF m 0 #[.val (.ref a1), .val (.int j)] [] := by (first | (simp [entryFrame, mkF, argsToLocals, Value.category]; done) | rfl)
def own_Q_chAt (Z : State) (a1 : Addr) (cz : Int32) (t : Addr) (kt : ClassId) (cd : Int32) (N2 : Int32) (vs : List Value) (cs : List Int32) (fm : Value) (j : Int32) (i : Nat) (h0 : Heap) (n0 : Nat) (vq : Option Value) (h : Heap) (Lq : List Loc) : Prop := (vq = some (.int (cs.getD i 0))) ∧ (Fr n0 Lq) ∧ (h = h0)
set_option maxRecDepth 65536 in
set_option maxHeartbeats 40000000 in
theorem own_rm_chAt (l : Launch) (Z : State) (a0 : Array Value) (hw : ∀ d ∈ tables_1, d.before a0 Z = true) (wsq : List Jvm.Cond) (a1 : Addr) (cz : Int32) (t : Addr) (kt : ClassId) (cd : Int32) (N2 : Int32) (vs : List Value) (cs : List Int32) (fm : Value) (j : Int32) (i : Nat) (h0 : Heap) (n0 : Nat) (Z0 : n0 ≤ h0.size) (O0 : Old Z n0 h0) (S1 : Sta Z Z.heap "java/lang/String" "COMPACT_STRINGS" "Z" (.int cz)) (P5 : ¬ cz = (0 : Int32)) (S2 : Sta Z Z.heap "jdk/internal/util/Preconditions" "SIOOBE_FORMATTER" "Ljava/util/function/BiFunction;" fm) (r_fm : fm.isRef = true) (S3 : Sta Z Z.heap "java/lang/StringUTF16" "$assertionsDisabled" "Z" (.int (1 : Int32))) (S4 : Sta Z Z.heap "java/lang/StringUTF16" "HI_BYTE_SHIFT" "I" (.int (0 : Int32))) (S5 : Sta Z Z.heap "java/lang/StringUTF16" "LO_BYTE_SHIFT" "I" (.int (8 : Int32))) (E1 : Exa Z h0 a1 "java/lang/String") (F1 : Fld Z h0 a1 "java/lang/String" "coder" "B" (.int cd)) (F2 : Fld Z h0 a1 "java/lang/String" "value" "[B" (.ref t)) (Va : Arv Z h0 t kt .byte N2 vs (.int 0)) (hc : own_cod cs cd N2 vs) (hlen : cs.length ≤ 4000) (hr : own_chs cs) (hj : j = Int32.ofNat i) (hi : i < cs.length) :
    MetFree l (⟨"java/lang/String", "charAt", "(I)C"⟩ : MethodName) (head1 (Jvm.Cond.code (⟨"java/lang/String", "charAt", "(I)C"⟩ : MethodName) jdk_42_method_56_code 2 (some .char) :: wsq) ({ frames := 4, cells := 0, slots := 0, locals := 53 } : Room)) (fun aq Uq => aq = #[(.ref a1), (.int j)] ∧ Z.Warmed39 Uq.vm ∧ Uq.heap = h0) (fun _ _ _ _ _ => True) (fun _ Uq oq Uq' => ∃ vq Lq, oq = .returned vq ∧ own_Q_chAt Z a1 cz t kt cd N2 vs cs fm j i h0 n0 vq Uq'.heap Lq ∧ FrameEnd Uq oq Uq' Lq ({ frames := 4, cells := 0, slots := 0, locals := 53 } : Room).cells ({ frames := 4, cells := 0, slots := 0, locals := 53 } : Room).slots) := by
  refine MetFree.of_bodySF (plainFor_of_name own_pn0) hisR ?_
  intro p e s m args below meth cde s₁ Bd hml0 hP hK
  obtain ⟨rfl, hZ, hh⟩ := hP
  have hx := Bd.exec
  have hby := Bd.bytes
  have hml : cde.maxLocals = 2 := hml0
  have hown : s.vm.findClass "java/lang/String" = some m.cls := findClass_of_methodNamed Bd.named
  have hnm := (name_of_methodNamed Bd.named Bd.method).1
  have X0 : Stand p l e ({ frames := 4, cells := 0, slots := 0, locals := 53 } : Room) s m #[(.ref a1), (.int j)] below meth cde s₁ [] 0 0 := Stand.of_body Bd
  have e0 : s₁.heap = h0 := by rw [← hh, Bd.state]; rfl
  have N0 := Fr.nil n0
  show own_Fin p e s below (own_Q_chAt Z a1 cz t kt cd N2 vs cs fm j i h0 n0) ({ frames := 4, cells := 0, slots := 0, locals := 53 } : Room).cells ({ frames := 4, cells := 0, slots := 0, locals := 53 } : Room).slots s₁ (entryFrame m #[(.ref a1), (.int j)] 2)
  rw [own_ef_chAt m a1 j]
  refine own_via (fun _ k => XS.aloadN X0.here hx rfl (hb hby own_d_jdk_42_56_0) rfl rfl k) ?_
  show own_Fin _ _ _ _ _ _ _ s₁ (mkF m 1 #[.val (.ref a1), .val (.int j)] [(.ref a1)])
  obtain ⟨cq1_, kq1_, q1_a, q1_b, q1_c⟩ := isOf hZ e0 E1
  obtain ⟨_, _, ⟨T1_, L1_, k1_, n1_⟩, -, X1_, ⟨Lc1_, hQ1_, l1_, y1_, z1_⟩, st1_⟩ := X0.virtualBack hx (y := (⟨"java/lang/String", "isLatin1", "()Z"⟩ : MethodName)) (z := (⟨"java/lang/String", "isLatin1", "()Z"⟩ : MethodName)) hown (mvT hZ (hw _ (List.mem_of_getElem? (i := 104) rfl))) (mvT hZ (hw _ (List.mem_of_getElem? (i := 105) rfl))) (notFace_of_selects (args := #[]) (mvT hZ (hw _ (List.mem_of_getElem? (i := 107) rfl)))) (mvT hZ (hw _ (List.mem_of_getElem? (i := 107) rfl))) (mvT hZ (hw _ (List.mem_of_getElem? (i := 106) rfl))) (by decide) (backOf (W := 0) (own_rm_isLat l Z a0 hw [] a1 cz cd h0 n0 Z0 O0 S1 (by first | assumption | decide) F1) hZ (hw _ (List.mem_of_getElem? (i := 108) rfl)) (hw _ (List.mem_of_getElem? (i := 14) rfl)) (by decide) (by decide)) q1_a q1_c (g := (mkF m 1 #[.val (.ref a1), .val (.int j)] [(.ref a1)])) rfl (by rw [hml]; rfl) (Steps.refl _) (argsL := []) (rest := []) (lenOf own_pd6 rfl) rfl (by show 2 * 0 + _ ≤ _; exact Nat.le_of_eq rfl) (hb hby own_d_jdk_42_56_1) (fun _ _ => ⟨rfl, e0, (by decide : 0 + 0 ≤ _), (by decide : 0 + 0 ≤ _)⟩)
  dsimp only [Pt.U, Pt.locs, Pt.cells, Pt.slots] at X1_ l1_ y1_ z1_ st1_ hQ1_
  subst l1_ y1_ z1_
  obtain ⟨r, rfl, Nq1_, hh1_, hq⟩ := hQ1_
  have N1_ := Fr.app N0 Nq1_
  refine own_via (fun _ k => st1_.trans k) ?_
  show own_Fin _ _ _ _ _ _ _ T1_ (mkF m 4 #[.val (.ref a1), .val (.int j)] [(.int r)])
  rcases Classical.em (r = (0 : Int32)) with hz | hz
  · refine own_via (fun _ k => XS.ifYes X1_.here hx rfl (pc0 := 4) (pc' := 16) rfl (hb hby own_d_jdk_42_56_4) rfl ((if0 _ _).trans (teq hz).1) (by decide) (by decide) k) ?_
    show own_Fin _ _ _ _ _ _ _ T1_ (mkF m 16 #[.val (.ref a1), .val (.int j)] [])
    have hd : ¬ cd = (0 : Int32) := (hq.resolve_left fun z => absurd (z.1.symm.trans hz) (by decide)).2
    have hA := own_cod_u hc hd
    refine own_via (fun _ k => XS.aloadN X1_.here hx rfl (hb hby own_d_jdk_42_56_16) rfl rfl k) ?_
    show own_Fin _ _ _ _ _ _ _ T1_ (mkF m 17 #[.val (.ref a1), .val (.int j)] [(.ref a1)])
    obtain ⟨T4_, X4_, e4_, st4_⟩ := getF X1_ hx hZ hown (host := "") (Or.inl (hw _ (List.mem_of_getElem? (i := 31) rfl))) Via.refl hh1_ F2 (g := (mkF m 17 #[.val (.ref a1), .val (.int j)] [(.ref a1)])) rfl rfl (hb hby own_d_jdk_42_56_17)
    refine own_via (fun _ k => st4_ _ k) ?_
    show own_Fin _ _ _ _ _ _ _ T4_ (mkF m 20 #[.val (.ref a1), .val (.int j)] [(.ref t)])
    refine own_via (fun _ k => XS.iloadN X4_.here hx rfl (hb hby own_d_jdk_42_56_20) rfl k) ?_
    show own_Fin _ _ _ _ _ _ _ T4_ (mkF m 21 #[.val (.ref a1), .val (.int j)] [(.int j), (.ref t)])
    obtain ⟨_, _, ⟨T5_, L5_, k5_, n5_⟩, -, X5_, ⟨Lc5_, hQ5_, l5_, y5_, z5_⟩, st5_⟩ := Jvm.LawKit.callS X4_ hx (y := (⟨"java/lang/StringUTF16", "charAt", "([BI)C"⟩ : MethodName)) hown (mvT hZ (hw _ (List.mem_of_getElem? (i := 109) rfl))) (mvT hZ (hw _ (List.mem_of_getElem? (i := 110) rfl))) (mvT hZ (hw _ (List.mem_of_getElem? (i := 71) rfl))) (mvT hZ (hw _ (List.mem_of_getElem? (i := 111) rfl))) (by decide) (backOf (W := 0) (own_rm_u16ch l Z a0 hw [] t kt N2 vs fm (cs.getD i 0) j i cs.length h0 n0 Z0 O0 S2 r_fm S3 S4 S5 Va hj hi hlen hA.1 (hA.2.1 i hi).1 (hA.2.1 i hi).2 (hr i)) hZ (hw _ (List.mem_of_getElem? (i := 111) rfl)) (hw _ (List.mem_of_getElem? (i := 71) rfl)) (by decide) (by decide)) (g := (mkF m 21 #[.val (.ref a1), .val (.int j)] [(.int j), (.ref t)])) rfl (by rw [hml]; rfl) (argsL := [(.ref t), (.int j)]) (rest := []) (lenOf own_pd5 rfl) rfl (by show 2 * 0 + _ ≤ _; exact Nat.le_of_eq rfl) (hb hby own_d_jdk_42_56_21) (fun _ _ => ⟨rfl, e4_, (by decide : 0 + 0 + 0 ≤ _), (by decide : 0 + 0 + 0 ≤ _)⟩)
    dsimp only [Pt.U, Pt.locs, Pt.cells, Pt.slots] at X5_ l5_ y5_ z5_ st5_ hQ5_
    subst l5_ y5_ z5_
    obtain ⟨rfl, Nq5_, hh5_⟩ := hQ5_
    have N5_ := Fr.app N1_ Nq5_
    refine own_via (fun _ k => st5_ _ k) ?_
    show own_Fin _ _ _ _ _ _ _ T5_ (mkF m 24 #[.val (.ref a1), .val (.int j)] [(.int (cs.getD i 0))])
    exact own_retN X5_ hx (t := .char) Bd.returns Bd.notSynchronized (by simp) (hb hby own_d_jdk_42_56_24) hh5_ (own_narch (hr i)) ⟨rfl, N5_, rfl⟩ (by decide) (by decide)
  · refine own_via (fun _ k => XS.ifNo X1_.here hx rfl (hb hby own_d_jdk_42_56_4) rfl ((if0 _ _).trans (feq hz).1) k) ?_
    show own_Fin _ _ _ _ _ _ _ T1_ (mkF m 7 #[.val (.ref a1), .val (.int j)] [])
    have hd : cd = (0 : Int32) := (hq.resolve_right fun z => hz z.1).2
    have hA := own_cod_l hc hd
    refine own_via (fun _ k => XS.aloadN X1_.here hx rfl (hb hby own_d_jdk_42_56_7) rfl rfl k) ?_
    show own_Fin _ _ _ _ _ _ _ T1_ (mkF m 8 #[.val (.ref a1), .val (.int j)] [(.ref a1)])
    obtain ⟨T2_, X2_, e2_, st2_⟩ := getF X1_ hx hZ hown (host := "") (Or.inl (hw _ (List.mem_of_getElem? (i := 31) rfl))) Via.refl hh1_ F2 (g := (mkF m 8 #[.val (.ref a1), .val (.int j)] [(.ref a1)])) rfl rfl (hb hby own_d_jdk_42_56_8)
    refine own_via (fun _ k => st2_ _ k) ?_
    show own_Fin _ _ _ _ _ _ _ T2_ (mkF m 11 #[.val (.ref a1), .val (.int j)] [(.ref t)])
    refine own_via (fun _ k => XS.iloadN X2_.here hx rfl (hb hby own_d_jdk_42_56_11) rfl k) ?_
    show own_Fin _ _ _ _ _ _ _ T2_ (mkF m 12 #[.val (.ref a1), .val (.int j)] [(.int j), (.ref t)])
    obtain ⟨_, _, ⟨T3_, L3_, k3_, n3_⟩, -, X3_, ⟨Lc3_, hQ3_, l3_, y3_, z3_⟩, st3_⟩ := Jvm.LawKit.callS X2_ hx (y := (⟨"java/lang/StringLatin1", "charAt", "([BI)C"⟩ : MethodName)) hown (mvT hZ (hw _ (List.mem_of_getElem? (i := 155) rfl))) (mvT hZ (hw _ (List.mem_of_getElem? (i := 156) rfl))) (mvT hZ (hw _ (List.mem_of_getElem? (i := 157) rfl))) (mvT hZ (hw _ (List.mem_of_getElem? (i := 158) rfl))) (by decide) (backOf (W := 0) (own_rm_latCh l Z a0 hw [] t kt N2 vs fm (cs.getD i 0) j i cs.length h0 n0 Z0 O0 S2 r_fm Va hj hi hlen hA.1 (hA.2 i hi).1 (own_lat_of (hr i) (hA.2 i hi).2)) hZ (hw _ (List.mem_of_getElem? (i := 158) rfl)) (hw _ (List.mem_of_getElem? (i := 157) rfl)) (by decide) (by decide)) (g := (mkF m 12 #[.val (.ref a1), .val (.int j)] [(.int j), (.ref t)])) rfl (by rw [hml]; rfl) (argsL := [(.ref t), (.int j)]) (rest := []) (lenOf own_pd5 rfl) rfl (by show 2 * 0 + _ ≤ _; exact Nat.le_of_eq rfl) (hb hby own_d_jdk_42_56_12) (fun _ _ => ⟨rfl, e2_, (by decide : 0 + 0 + 0 ≤ _), (by decide : 0 + 0 + 0 ≤ _)⟩)
    dsimp only [Pt.U, Pt.locs, Pt.cells, Pt.slots] at X3_ l3_ y3_ z3_ st3_ hQ3_
    subst l3_ y3_ z3_
    obtain ⟨rfl, Nq3_, hh3_⟩ := hQ3_
    have N3_ := Fr.app N1_ Nq3_
    refine own_via (fun _ k => st3_ _ k) ?_
    show own_Fin _ _ _ _ _ _ _ T3_ (mkF m 15 #[.val (.ref a1), .val (.int j)] [(.int (cs.getD i 0))])
    exact own_retN X3_ hx (t := .char) Bd.returns Bd.notSynchronized (by simp) (hb hby own_d_jdk_42_56_15) hh3_ (own_narch (hr i)) ⟨rfl, N3_, rfl⟩ (by decide) (by decide)
theorem own_d_jdk_52_21_0 : decode jdk_52_method_21_code 0 = .ok (.iconst 0, 1) := by decide +kernel
theorem own_d_jdk_52_21_1 : decode jdk_52_method_21_code 1 = .ok (.istore 5, 2) := by decide +kernel
theorem own_d_jdk_52_21_3 : decode jdk_52_method_21_code 3 = .ok (.iload 5, 2) := by decide +kernel
theorem own_d_jdk_52_21_5 : decode jdk_52_method_21_code 5 = .ok (.iload 4, 2) := by decide +kernel
theorem own_d_jdk_52_21_7 : decode jdk_52_method_21_code 7 = .ok (.if_icmp .ge 37, 3) := by decide +kernel
theorem own_d_jdk_52_21_44 : decode jdk_52_method_21_code 44 = .ok (.iload 4, 2) := by decide +kernel
theorem own_d_jdk_52_21_46 : decode jdk_52_method_21_code 46 = .ok (.ireturn, 1) := by decide +kernel
theorem own_d_jdk_52_21_10 : decode jdk_52_method_21_code 10 = .ok (.aload_n 0, 1) := by decide +kernel
theorem own_d_jdk_52_21_11 : decode jdk_52_method_21_code 11 = .ok (.iload_n 1, 1) := by decide +kernel
theorem own_d_jdk_52_21_12 : decode jdk_52_method_21_code 12 = .ok (.caload, 1) := by decide +kernel
theorem own_d_jdk_52_21_13 : decode jdk_52_method_21_code 13 = .ok (.istore 6, 2) := by decide +kernel
theorem own_os_cmp5_13 {z0 : Value} {z1 : Value} {z2 : Value} {z3 : Value} {z4 : Value} {z5 : Value} {s6 : Slot} {v : Int32} (h : One s6) : storeLocals #[.val z0, .val z1, .val z2, .val z3, .val z4, .val z5, s6] 6 (.int v) = some #[.val z0, .val z1, .val z2, .val z3, .val z4, .val z5, .val (.int v)] := by
  rcases h with rfl | ⟨w, rfl, hw⟩
  · rfl
  · cases w <;> first | rfl | (simp [Value.category] at hw)
theorem own_d_jdk_52_21_15 : decode jdk_52_method_21_code 15 = .ok (.iload 6, 2) := by decide +kernel
theorem own_d_jdk_52_21_17 : decode jdk_52_method_21_code 17 = .ok (.sipush 255, 3) := by decide +kernel
theorem own_d_jdk_52_21_20 : decode jdk_52_method_21_code 20 = .ok (.if_icmp .le 6, 3) := by decide +kernel
theorem own_d_jdk_52_21_23 : decode jdk_52_method_21_code 23 = .ok (.iload 5, 2) := by decide +kernel
theorem own_d_jdk_52_21_25 : decode jdk_52_method_21_code 25 = .ok (.ireturn, 1) := by decide +kernel
theorem own_d_jdk_52_21_26 : decode jdk_52_method_21_code 26 = .ok (.aload_n 2, 1) := by decide +kernel
theorem own_d_jdk_52_21_27 : decode jdk_52_method_21_code 27 = .ok (.iload_n 3, 1) := by decide +kernel
theorem own_d_jdk_52_21_28 : decode jdk_52_method_21_code 28 = .ok (.iload 6, 2) := by decide +kernel
theorem own_d_jdk_52_21_30 : decode jdk_52_method_21_code 30 = .ok (.i2b, 1) := by decide +kernel
theorem own_d_jdk_52_21_31 : decode jdk_52_method_21_code 31 = .ok (.bastore, 1) := by decide +kernel
theorem own_d_jdk_52_21_32 : decode jdk_52_method_21_code 32 = .ok (.iinc 1 1, 3) := by decide +kernel
theorem own_d_jdk_52_21_35 : decode jdk_52_method_21_code 35 = .ok (.iinc 3 1, 3) := by decide +kernel
theorem own_d_jdk_52_21_38 : decode jdk_52_method_21_code 38 = .ok (.iinc 5 1, 3) := by decide +kernel
theorem own_d_jdk_52_21_41 : decode jdk_52_method_21_code 41 = .ok (.goto (-38), 3) := by decide +kernel
theorem own_ef_cmp5 (m : MethodId) (a : Addr) (b : Addr) (N : Int32) : entryFrame m #[(.ref a), (.int (0 : Int32)), (.ref b), (.int (0 : Int32)), (.int N)] 7 = mkF m 0 #[.val (.ref a), .val (.int (0 : Int32)), .val (.ref b), .val (.int (0 : Int32)), .val (.int N), .unset, .unset] [] := by (first | (simp [entryFrame, mkF, argsToLocals, Value.category]; done) | rfl)
def own_Q_cmp5 (Z : State) (a : Addr) (ka : ClassId) (N : Int32) (cs : List Int32) (b : Addr) (kb : ClassId) (bs : List Value) (h0 : Heap) (n0 : Nat) (vq : Option Value) (h : Heap) (Lq : List Loc) : Prop := ∃ (r : Int32) (ws : List Value), (vq = some (.int r)) ∧ (Fr n0 Lq) ∧ (Keep h0 h [b]) ∧ (Arv Z h b kb .byte N ws (.int 0)) ∧ (own_cmpd cs N r ws)
set_option maxRecDepth 65536 in
set_option maxHeartbeats 40000000 in
theorem own_rm_cmp5 (l : Launch) (Z : State) (a0 : Array Value) (hw : ∀ d ∈ tables_1, d.before a0 Z = true) (wsq : List Jvm.Cond) (a : Addr) (ka : ClassId) (N : Int32) (cs : List Int32) (b : Addr) (kb : ClassId) (bs : List Value) (h0 : Heap) (n0 : Nat) (Z0 : n0 ≤ h0.size) (Vc : Arv Z h0 a ka .char N (cs.map Value.int) (.int 0)) (Vb : Arv Z h0 b kb .byte N bs (.int 0)) (gb : n0 ≤ b) (hne : a ≠ b) (hbl : bs.length = cs.length) (hN : N = Int32.ofNat cs.length) (hn : cs.length ≤ 4) (hp : 0 < cs.length) (hr : own_chs cs) :
    MetFree l (⟨"java/lang/StringUTF16", "compress", "([CI[BII)I"⟩ : MethodName) (head1 (Jvm.Cond.code (⟨"java/lang/StringUTF16", "compress", "([CI[BII)I"⟩ : MethodName) jdk_52_method_21_code 7 (some .int) :: wsq) ({ frames := 0, cells := 0, slots := 0, locals := 0 } : Room)) (fun aq Uq => aq = #[(.ref a), (.int (0 : Int32)), (.ref b), (.int (0 : Int32)), (.int N)] ∧ Z.Warmed39 Uq.vm ∧ Uq.heap = h0) (fun _ _ _ _ _ => True) (fun _ Uq oq Uq' => ∃ vq Lq, oq = .returned vq ∧ own_Q_cmp5 Z a ka N cs b kb bs h0 n0 vq Uq'.heap Lq ∧ FrameEnd Uq oq Uq' Lq ({ frames := 0, cells := 0, slots := 0, locals := 0 } : Room).cells ({ frames := 0, cells := 0, slots := 0, locals := 0 } : Room).slots) := by
  refine MetFree.of_bodySF (plainFor_of_name own_pn3) hisR ?_
  intro p e s m args below meth cde s₁ Bd hml0 hP hK
  obtain ⟨rfl, hZ, hh⟩ := hP
  have hx := Bd.exec
  have hby := Bd.bytes
  have hml : cde.maxLocals = 7 := hml0
  have hown : s.vm.findClass "java/lang/StringUTF16" = some m.cls := findClass_of_methodNamed Bd.named
  have hnm := (name_of_methodNamed Bd.named Bd.method).1
  have X0 : Stand p l e ({ frames := 0, cells := 0, slots := 0, locals := 0 } : Room) s m #[(.ref a), (.int (0 : Int32)), (.ref b), (.int (0 : Int32)), (.int N)] below meth cde s₁ [] 0 0 := Stand.of_body Bd
  have e0 : s₁.heap = h0 := by rw [← hh, Bd.state]; rfl
  have N0 := Fr.nil n0
  show own_Fin p e s below (own_Q_cmp5 Z a ka N cs b kb bs h0 n0) ({ frames := 0, cells := 0, slots := 0, locals := 0 } : Room).cells ({ frames := 0, cells := 0, slots := 0, locals := 0 } : Room).slots s₁ (entryFrame m #[(.ref a), (.int (0 : Int32)), (.ref b), (.int (0 : Int32)), (.int N)] 7)
  rw [own_ef_cmp5 m a b N]
  refine own_via (fun _ k => XS.iconst X0.here hx rfl (hb hby own_d_jdk_52_21_0) k) ?_
  show own_Fin _ _ _ _ _ _ _ s₁ (mkF m 1 #[.val (.ref a), .val (.int (0 : Int32)), .val (.ref b), .val (.int (0 : Int32)), .val (.int N), .unset, .unset] [(.int (0 : Int32))])
  refine own_via (fun _ k => XS.istore X0.here hx rfl (hb hby own_d_jdk_52_21_1) rfl (l' := #[.val (.ref a), .val (.int (0 : Int32)), .val (.ref b), .val (.int (0 : Int32)), .val (.int N), .val (.int (0 : Int32)), .unset]) rfl k) ?_
  show own_Fin _ _ _ _ _ _ _ s₁ (mkF m 3 #[.val (.ref a), .val (.int (0 : Int32)), .val (.ref b), .val (.int (0 : Int32)), .val (.int N), .val (.int (0 : Int32)), .unset] [])
  have lp : ∀ (k : Nat) (i : Nat) (j : Int32) (ws : List Value) (s6 : Slot) (Tl : State) (locl : List Loc) (Xl : Stand p l e ({ frames := 0, cells := 0, slots := 0, locals := 0 } : Room) s m #[(.ref a), (.int (0 : Int32)), (.ref b), (.int (0 : Int32)), (.int N)] below meth cde Tl locl (0) (0)) (Nl : Fr n0 locl) (hl : Heap) (el : Tl.heap = hl) (Kl : Keep h0 hl [b]) (Vl : Arv Z hl a ka .char N (cs.map Value.int) (.int 0)) (Vm : Arv Z hl b kb .byte N ws (.int 0)) (hs6 : One s6) (hj : j = Int32.ofNat i) (hi : i ≤ cs.length) (hk : cs.length ≤ i + k) (hwl : ws.length = cs.length) (hh_ : ∀ q, q < i → ws.getD q (.int 0) = .int (own_lo (cs.getD q 0)) ∧ ¬ (255 : Int32) < cs.getD q 0), own_Fin p e s below (own_Q_cmp5 Z a ka N cs b kb bs h0 n0) ({ frames := 0, cells := 0, slots := 0, locals := 0 } : Room).cells ({ frames := 0, cells := 0, slots := 0, locals := 0 } : Room).slots Tl (mkF m 3 #[.val (.ref a), .val (.int j), .val (.ref b), .val (.int j), .val (.int N), .val (.int j), s6] []) := by
    intro k
    induction k with
    | zero =>
      intro i j ws s6 Tl locl Xl Nl hl el Kl Vl Vm hs6 hj hi hk hwl hh_
      have Zl : n0 ≤ hl.size := Nat.le_trans Z0 Kl.1
      refine own_via (fun _ k => XS.iload Xl.here hx rfl (hb hby own_d_jdk_52_21_3) rfl k) ?_
      show own_Fin _ _ _ _ _ _ _ Tl (mkF m 5 #[.val (.ref a), .val (.int j), .val (.ref b), .val (.int j), .val (.int N), .val (.int j), s6] [(.int j)])
      refine own_via (fun _ k => XS.iload Xl.here hx rfl (hb hby own_d_jdk_52_21_5) rfl k) ?_
      show own_Fin _ _ _ _ _ _ _ Tl (mkF m 7 #[.val (.ref a), .val (.int j), .val (.ref b), .val (.int j), .val (.int N), .val (.int j), s6] [(.int N), (.int j)])
      refine own_via (fun _ k => XS.icmpYes Xl.here hx rfl (pc0 := 7) (pc' := 44) rfl (hb hby own_d_jdk_52_21_7) rfl (flt (fun q => absurd ((own_ltN hj hN (by omega) (by omega)).mp q) (by omega))).2.1 (by decide) (by decide) k) ?_
      show own_Fin _ _ _ _ _ _ _ Tl (mkF m 44 #[.val (.ref a), .val (.int j), .val (.ref b), .val (.int j), .val (.int N), .val (.int j), s6] [])
      refine own_via (fun _ k => XS.iload Xl.here hx rfl (hb hby own_d_jdk_52_21_44) rfl k) ?_
      show own_Fin _ _ _ _ _ _ _ Tl (mkF m 46 #[.val (.ref a), .val (.int j), .val (.ref b), .val (.int j), .val (.int N), .val (.int j), s6] [(.int N)])
      exact own_retI Xl hx Bd.returns Bd.notSynchronized (hb hby own_d_jdk_52_21_46) el rfl ⟨N, ws, rfl, Nl, Kl, Vm, (Or.inl ⟨rfl, fun q hq => hh_ q (by omega)⟩)⟩ (by decide) (by decide)
    | succ k ih =>
      intro i j ws s6 Tl locl Xl Nl hl el Kl Vl Vm hs6 hj hi hk hwl hh_
      have Zl : n0 ≤ hl.size := Nat.le_trans Z0 Kl.1
      refine own_via (fun _ k => XS.iload Xl.here hx rfl (hb hby own_d_jdk_52_21_3) rfl k) ?_
      show own_Fin _ _ _ _ _ _ _ Tl (mkF m 5 #[.val (.ref a), .val (.int j), .val (.ref b), .val (.int j), .val (.int N), .val (.int j), s6] [(.int j)])
      refine own_via (fun _ k => XS.iload Xl.here hx rfl (hb hby own_d_jdk_52_21_5) rfl k) ?_
      show own_Fin _ _ _ _ _ _ _ Tl (mkF m 7 #[.val (.ref a), .val (.int j), .val (.ref b), .val (.int j), .val (.int N), .val (.int j), s6] [(.int N), (.int j)])
      rcases Classical.em (j < N) with hg | hg
      · refine own_via (fun _ k => XS.icmpNo Xl.here hx rfl (hb hby own_d_jdk_52_21_7) rfl (tlt hg).2.1 k) ?_
        show own_Fin _ _ _ _ _ _ _ Tl (mkF m 10 #[.val (.ref a), .val (.int j), .val (.ref b), .val (.int j), .val (.int N), .val (.int j), s6] [])
        have hlt : i < cs.length := (own_ltN hj hN (by omega) (by omega)).mp hg
        refine own_via (fun _ k => XS.aloadN Xl.here hx rfl (hb hby own_d_jdk_52_21_10) rfl rfl k) ?_
        show own_Fin _ _ _ _ _ _ _ Tl (mkF m 11 #[.val (.ref a), .val (.int j), .val (.ref b), .val (.int j), .val (.int N), .val (.int j), s6] [(.ref a)])
        refine own_via (fun _ k => XS.iloadN Xl.here hx rfl (hb hby own_d_jdk_52_21_11) rfl k) ?_
        show own_Fin _ _ _ _ _ _ _ Tl (mkF m 12 #[.val (.ref a), .val (.int j), .val (.ref b), .val (.int j), .val (.int N), .val (.int j), s6] [(.int j), (.ref a)])
        obtain ⟨c1_, Ar1_, q1_, S1_, M1_, H1_, G1_⟩ := (id Vl)
        have hin1_ : ¬ (j < 0 ∨ c1_.slots.size ≤ (j).toNatClampNeg) := inb_of S1_ (own_inb hj hN hlt (by omega))
        have hat1_ : c1_.slots[(j).toNatClampNeg]? = some (.int (cs.getD i 0)) := H1_.at hin1_ (own_el hj (by omega))
        refine own_via (fun _ k => Xl.caload hx (j := j) (v := (.int (cs.getD i 0))) (own_eq el Ar1_.1) (State.isArrayOf_alike hZ.alike Ar1_.2.1) Ar1_.2.2 hin1_ hat1_ (g := (mkF m 12 #[.val (.ref a), .val (.int j), .val (.ref b), .val (.int j), .val (.int N), .val (.int j), s6] [(.int j), (.ref a)])) rfl rfl (hb hby own_d_jdk_52_21_12) _ k) ?_
        show own_Fin _ _ _ _ _ _ _ Tl (mkF m 13 #[.val (.ref a), .val (.int j), .val (.ref b), .val (.int j), .val (.int N), .val (.int j), s6] [(.int (cs.getD i 0))])
        refine own_via (fun _ k => XS.istore Xl.here hx rfl (hb hby own_d_jdk_52_21_13) rfl (l' := #[.val (.ref a), .val (.int j), .val (.ref b), .val (.int j), .val (.int N), .val (.int j), .val (.int (cs.getD i 0))]) (own_os_cmp5_13 hs6) k) ?_
        show own_Fin _ _ _ _ _ _ _ Tl (mkF m 15 #[.val (.ref a), .val (.int j), .val (.ref b), .val (.int j), .val (.int N), .val (.int j), .val (.int (cs.getD i 0))] [])
        refine own_via (fun _ k => XS.iload Xl.here hx rfl (hb hby own_d_jdk_52_21_15) rfl k) ?_
        show own_Fin _ _ _ _ _ _ _ Tl (mkF m 17 #[.val (.ref a), .val (.int j), .val (.ref b), .val (.int j), .val (.int N), .val (.int j), .val (.int (cs.getD i 0))] [(.int (cs.getD i 0))])
        refine own_via (fun _ k => XS.sipush Xl.here hx rfl (hb hby own_d_jdk_52_21_17) k) ?_
        show own_Fin _ _ _ _ _ _ _ Tl (mkF m 20 #[.val (.ref a), .val (.int j), .val (.ref b), .val (.int j), .val (.int N), .val (.int j), .val (.int (cs.getD i 0))] [(.int (255 : Int32)), (.int (cs.getD i 0))])
        rcases Classical.em ((255 : Int32) < (cs.getD i 0)) with he | he
        · refine own_via (fun _ k => XS.icmpNo Xl.here hx rfl (hb hby own_d_jdk_52_21_20) rfl (tlt he).2.2.2 k) ?_
          show own_Fin _ _ _ _ _ _ _ Tl (mkF m 23 #[.val (.ref a), .val (.int j), .val (.ref b), .val (.int j), .val (.int N), .val (.int j), .val (.int (cs.getD i 0))] [])
          refine own_via (fun _ k => XS.iload Xl.here hx rfl (hb hby own_d_jdk_52_21_23) rfl k) ?_
          show own_Fin _ _ _ _ _ _ _ Tl (mkF m 25 #[.val (.ref a), .val (.int j), .val (.ref b), .val (.int j), .val (.int N), .val (.int j), .val (.int (cs.getD i 0))] [(.int j)])
          exact own_retI Xl hx Bd.returns Bd.notSynchronized (hb hby own_d_jdk_52_21_25) el rfl ⟨j, ws, rfl, Nl, Kl, Vm, (Or.inr ⟨i, hlt, hj, he⟩)⟩ (by decide) (by decide)
        · refine own_via (fun _ k => XS.icmpYes Xl.here hx rfl (pc0 := 20) (pc' := 26) rfl (hb hby own_d_jdk_52_21_20) rfl (flt he).2.2.2 (by decide) (by decide) k) ?_
          show own_Fin _ _ _ _ _ _ _ Tl (mkF m 26 #[.val (.ref a), .val (.int j), .val (.ref b), .val (.int j), .val (.int N), .val (.int j), .val (.int (cs.getD i 0))] [])
          refine own_via (fun _ k => XS.aloadN Xl.here hx rfl (hb hby own_d_jdk_52_21_26) rfl rfl k) ?_
          show own_Fin _ _ _ _ _ _ _ Tl (mkF m 27 #[.val (.ref a), .val (.int j), .val (.ref b), .val (.int j), .val (.int N), .val (.int j), .val (.int (cs.getD i 0))] [(.ref b)])
          refine own_via (fun _ k => XS.iloadN Xl.here hx rfl (hb hby own_d_jdk_52_21_27) rfl k) ?_
          show own_Fin _ _ _ _ _ _ _ Tl (mkF m 28 #[.val (.ref a), .val (.int j), .val (.ref b), .val (.int j), .val (.int N), .val (.int j), .val (.int (cs.getD i 0))] [(.int j), (.ref b)])
          refine own_via (fun _ k => XS.iload Xl.here hx rfl (hb hby own_d_jdk_52_21_28) rfl k) ?_
          show own_Fin _ _ _ _ _ _ _ Tl (mkF m 30 #[.val (.ref a), .val (.int j), .val (.ref b), .val (.int j), .val (.int N), .val (.int j), .val (.int (cs.getD i 0))] [(.int (cs.getD i 0)), (.int j), (.ref b)])
          refine own_via (fun _ k => XS.i2b Xl.here hx rfl (hb hby own_d_jdk_52_21_30) rfl k) ?_
          show own_Fin _ _ _ _ _ _ _ Tl (mkF m 31 #[.val (.ref a), .val (.int j), .val (.ref b), .val (.int j), .val (.int N), .val (.int j), .val (.int (cs.getD i 0))] [(.int ((cs.getD i 0).toInt8.toInt32)), (.int j), (.ref b)])
          obtain ⟨c2_, Ar2_, q2_, S2_, M2_, H2_, G2_⟩ := (id Vm)
          have hin2_ : ¬ (j < 0 ∨ c2_.slots.size ≤ (j).toNatClampNeg) := inb_of S2_ (own_inb hj hN hlt (by omega))
          obtain ⟨T2_, h2_, X2_, e2_, W2_, st2_⟩ := stB Xl hx hZ el Ar2_ (j := j) hin2_ (g := (mkF m 31 #[.val (.ref a), .val (.int j), .val (.ref b), .val (.int j), .val (.int N), .val (.int j), .val (.int (cs.getD i 0))] [(.int ((cs.getD i 0).toInt8.toInt32)), (.int j), (.ref b)])) rfl rfl (hb hby own_d_jdk_52_21_31)
          have V2_ := Arv.set Ar2_ q2_ S2_ M2_ H2_ G2_ (fits_nar_byte _) W2_ i (own_clamp hj (by omega)) (by omega)
          have U2_ : Arv Z h2_ b kb .byte N ((ws).set i (.int (own_lo (cs.getD i 0)))) (.int 0) := by
            have hq := V2_
            rw [show ((cs.getD i 0).toInt8.toInt32).toInt8.toInt32 = (own_lo (cs.getD i 0)) from (own_st1 _)] at hq
            exact hq
          have N2_ := Fr.snoc X2_ Nl gb
          refine own_via (fun _ k => st2_ _ k) ?_
          show own_Fin _ _ _ _ _ _ _ T2_ (mkF m 32 #[.val (.ref a), .val (.int j), .val (.ref b), .val (.int j), .val (.int N), .val (.int j), .val (.int (cs.getD i 0))] [])
          refine own_via (fun _ k => XS.iinc X2_.here hx rfl (hb hby own_d_jdk_52_21_32) rfl (l' := #[.val (.ref a), .val (.int (j + (1 : Int32))), .val (.ref b), .val (.int j), .val (.int N), .val (.int j), .val (.int (cs.getD i 0))]) rfl k) ?_
          show own_Fin _ _ _ _ _ _ _ T2_ (mkF m 35 #[.val (.ref a), .val (.int (j + (1 : Int32))), .val (.ref b), .val (.int j), .val (.int N), .val (.int j), .val (.int (cs.getD i 0))] [])
          refine own_via (fun _ k => XS.iinc X2_.here hx rfl (hb hby own_d_jdk_52_21_35) rfl (l' := #[.val (.ref a), .val (.int (j + (1 : Int32))), .val (.ref b), .val (.int (j + (1 : Int32))), .val (.int N), .val (.int j), .val (.int (cs.getD i 0))]) rfl k) ?_
          show own_Fin _ _ _ _ _ _ _ T2_ (mkF m 38 #[.val (.ref a), .val (.int (j + (1 : Int32))), .val (.ref b), .val (.int (j + (1 : Int32))), .val (.int N), .val (.int j), .val (.int (cs.getD i 0))] [])
          refine own_via (fun _ k => XS.iinc X2_.here hx rfl (hb hby own_d_jdk_52_21_38) rfl (l' := #[.val (.ref a), .val (.int (j + (1 : Int32))), .val (.ref b), .val (.int (j + (1 : Int32))), .val (.int N), .val (.int (j + (1 : Int32))), .val (.int (cs.getD i 0))]) rfl k) ?_
          show own_Fin _ _ _ _ _ _ _ T2_ (mkF m 41 #[.val (.ref a), .val (.int (j + (1 : Int32))), .val (.ref b), .val (.int (j + (1 : Int32))), .val (.int N), .val (.int (j + (1 : Int32))), .val (.int (cs.getD i 0))] [])
          refine own_via (fun _ k => XS.goto X2_.here hx rfl (pc0 := 41) (pc' := 3) rfl (hb hby own_d_jdk_52_21_41) (by decide) (by decide) k) ?_
          show own_Fin _ _ _ _ _ _ _ T2_ (mkF m 3 #[.val (.ref a), .val (.int (j + (1 : Int32))), .val (.ref b), .val (.int (j + (1 : Int32))), .val (.int N), .val (.int (j + (1 : Int32))), .val (.int (cs.getD i 0))] [])
          exact ih (i + 1) (j + (1 : Int32)) ((ws).set i (.int (own_lo (cs.getD i 0)))) _ T2_ _ X2_ N2_ _ e2_ (Kl.wr W2_ (Or.inl (List.mem_of_getElem? (i := 0) rfl))) (Vl.other W2_ hne) U2_ own_one (own_succ hj) (by omega) (by omega) (by rw [List.length_set]; exact hwl) (own_setn hh_ (by omega) he)
      · refine own_via (fun _ k => XS.icmpYes Xl.here hx rfl (pc0 := 7) (pc' := 44) rfl (hb hby own_d_jdk_52_21_7) rfl (flt hg).2.1 (by decide) (by decide) k) ?_
        show own_Fin _ _ _ _ _ _ _ Tl (mkF m 44 #[.val (.ref a), .val (.int j), .val (.ref b), .val (.int j), .val (.int N), .val (.int j), s6] [])
        have hge : cs.length ≤ i := Nat.le_of_not_lt fun q => hg ((own_ltN hj hN (by omega) (by omega)).mpr q)
        refine own_via (fun _ k => XS.iload Xl.here hx rfl (hb hby own_d_jdk_52_21_44) rfl k) ?_
        show own_Fin _ _ _ _ _ _ _ Tl (mkF m 46 #[.val (.ref a), .val (.int j), .val (.ref b), .val (.int j), .val (.int N), .val (.int j), s6] [(.int N)])
        exact own_retI Xl hx Bd.returns Bd.notSynchronized (hb hby own_d_jdk_52_21_46) el rfl ⟨N, ws, rfl, Nl, Kl, Vm, (Or.inl ⟨rfl, fun q hq => hh_ q (by omega)⟩)⟩ (by decide) (by decide)
  exact lp cs.length 0 (0 : Int32) bs .unset s₁ _ X0 N0 _ e0 (Keep.refl h0 [b]) Vc Vb (Or.inl rfl) rfl (by omega) (by omega) hbl (fun q hq => absurd hq (Nat.not_lt_zero q))
theorem own_d_jdk_52_3_0 : decode jdk_52_method_3_code 0 = .ok (.iload_n 0, 1) := by decide +kernel
theorem own_d_jdk_52_3_1 : decode jdk_52_method_3_code 1 = .ok (.ifCond .ge 11, 3) := by decide +kernel
theorem own_d_jdk_52_3_12 : decode jdk_52_method_3_code 12 = .ok (.iload_n 0, 1) := by decide +kernel
theorem own_d_jdk_52_3_13 : decode jdk_52_method_3_code 13 = .ok (.ldc 20, 2) := by decide +kernel
theorem own_d_jdk_52_3_15 : decode jdk_52_method_3_code 15 = .ok (.if_icmp .lt 40, 3) := by decide +kernel
theorem own_d_jdk_52_3_55 : decode jdk_52_method_3_code 55 = .ok (.iload_n 0, 1) := by decide +kernel
theorem own_d_jdk_52_3_56 : decode jdk_52_method_3_code 56 = .ok (.iconst 1, 1) := by decide +kernel
theorem own_d_jdk_52_3_57 : decode jdk_52_method_3_code 57 = .ok (.ishl, 1) := by decide +kernel
theorem own_d_jdk_52_3_58 : decode jdk_52_method_3_code 58 = .ok (.ireturn, 1) := by decide +kernel
theorem own_ef_nbl (m : MethodId) (j : Int32) : entryFrame m #[(.int j)] 1 = mkF m 0 #[.val (.int j)] [] := by (first | (simp [entryFrame, mkF, argsToLocals, Value.category]; done) | rfl)
def own_Q_nbl (Z : State) (j : Int32) (n : Nat) (h0 : Heap) (n0 : Nat) (vq : Option Value) (h : Heap) (Lq : List Loc) : Prop := (vq = some (.int (Int32.ofNat (2 * n)))) ∧ (Fr n0 Lq) ∧ (h = h0)
set_option maxRecDepth 65536 in
set_option maxHeartbeats 40000000 in
theorem own_rm_nbl (l : Launch) (Z : State) (a0 : Array Value) (hw : ∀ d ∈ tables_1, d.before a0 Z = true) (wsq : List Jvm.Cond) (j : Int32) (n : Nat) (h0 : Heap) (n0 : Nat) (Z0 : n0 ≤ h0.size) (hj : j = Int32.ofNat n) (hn : n ≤ 4) :
    MetFree l (⟨"java/lang/StringUTF16", "newBytesLength", "(I)I"⟩ : MethodName) (head1 (Jvm.Cond.code (⟨"java/lang/StringUTF16", "newBytesLength", "(I)I"⟩ : MethodName) jdk_52_method_3_code 1 (some .int) :: wsq) ({ frames := 0, cells := 0, slots := 0, locals := 0 } : Room)) (fun aq Uq => aq = #[(.int j)] ∧ Z.Warmed39 Uq.vm ∧ Uq.heap = h0) (fun _ _ _ _ _ => True) (fun _ Uq oq Uq' => ∃ vq Lq, oq = .returned vq ∧ own_Q_nbl Z j n h0 n0 vq Uq'.heap Lq ∧ FrameEnd Uq oq Uq' Lq ({ frames := 0, cells := 0, slots := 0, locals := 0 } : Room).cells ({ frames := 0, cells := 0, slots := 0, locals := 0 } : Room).slots) := by
  refine MetFree.of_bodySF (plainFor_of_name own_pn3) hisR ?_
  intro p e s m args below meth cde s₁ Bd hml0 hP hK
  obtain ⟨rfl, hZ, hh⟩ := hP
  have hx := Bd.exec
  have hby := Bd.bytes
  have hml : cde.maxLocals = 1 := hml0
  have hown : s.vm.findClass "java/lang/StringUTF16" = some m.cls := findClass_of_methodNamed Bd.named
  have hnm := (name_of_methodNamed Bd.named Bd.method).1
  have X0 : Stand p l e ({ frames := 0, cells := 0, slots := 0, locals := 0 } : Room) s m #[(.int j)] below meth cde s₁ [] 0 0 := Stand.of_body Bd
  have e0 : s₁.heap = h0 := by rw [← hh, Bd.state]; rfl
  have N0 := Fr.nil n0
  show own_Fin p e s below (own_Q_nbl Z j n h0 n0) ({ frames := 0, cells := 0, slots := 0, locals := 0 } : Room).cells ({ frames := 0, cells := 0, slots := 0, locals := 0 } : Room).slots s₁ (entryFrame m #[(.int j)] 1)
  rw [own_ef_nbl m j]
  refine own_via (fun _ k => XS.iloadN X0.here hx rfl (hb hby own_d_jdk_52_3_0) rfl k) ?_
  show own_Fin _ _ _ _ _ _ _ s₁ (mkF m 1 #[.val (.int j)] [(.int j)])
  refine own_via (fun _ k => XS.ifYes X0.here hx rfl (pc0 := 1) (pc' := 12) rfl (hb hby own_d_jdk_52_3_1) rfl ((if0 _ _).trans (flt (own_nneg hj (by omega))).2.1) (by decide) (by decide) k) ?_
  show own_Fin _ _ _ _ _ _ _ s₁ (mkF m 12 #[.val (.int j)] [])
  refine own_via (fun _ k => XS.iloadN X0.here hx rfl (hb hby own_d_jdk_52_3_12) rfl k) ?_
  show own_Fin _ _ _ _ _ _ _ s₁ (mkF m 13 #[.val (.int j)] [(.int j)])
  refine own_via (fun _ k => X0.ldcInt hx hown (mvT hZ (hw _ (List.mem_of_getElem? (i := 85) rfl))) (g := (mkF m 13 #[.val (.int j)] [(.int j)])) rfl (hb hby own_d_jdk_52_3_13) _ k) ?_
  show own_Fin _ _ _ _ _ _ _ s₁ (mkF m 15 #[.val (.int j)] [(.int (1073741823 : Int32)), (.int j)])
  refine own_via (fun _ k => XS.icmpYes X0.here hx rfl (pc0 := 15) (pc' := 55) rfl (hb hby own_d_jdk_52_3_15) rfl (tlt (own_small hj (by omega))).1 (by decide) (by decide) k) ?_
  show own_Fin _ _ _ _ _ _ _ s₁ (mkF m 55 #[.val (.int j)] [])
  refine own_via (fun _ k => XS.iloadN X0.here hx rfl (hb hby own_d_jdk_52_3_55) rfl k) ?_
  show own_Fin _ _ _ _ _ _ _ s₁ (mkF m 56 #[.val (.int j)] [(.int j)])
  refine own_via (fun _ k => XS.iconst X0.here hx rfl (hb hby own_d_jdk_52_3_56) k) ?_
  show own_Fin _ _ _ _ _ _ _ s₁ (mkF m 57 #[.val (.int j)] [(.int (1 : Int32)), (.int j)])
  refine own_via (fun _ k => XS.ishl X0.here hx rfl (hb hby own_d_jdk_52_3_57) rfl k) ?_
  show own_Fin _ _ _ _ _ _ _ s₁ (mkF m 58 #[.val (.int j)] [(.int (j <<< ((1 : Int32) &&& 31)))])
  exact own_retI X0 hx Bd.returns Bd.notSynchronized (hb hby own_d_jdk_52_3_58) e0 (own_dbl2 hj (by omega)) ⟨rfl, N0, rfl⟩ (by decide) (by decide)
theorem own_d_jdk_52_2_0 : decode jdk_52_method_2_code 0 = .ok (.iload_n 0, 1) := by decide +kernel
theorem own_d_jdk_52_2_1 : decode jdk_52_method_2_code 1 = .ok (.invokestatic 11, 3) := by decide +kernel
theorem own_pd7 : parseMethodDescriptor "(I)I" = some ⟨[.int], some .int⟩ := by decide +kernel
theorem own_d_jdk_52_2_4 : decode jdk_52_method_2_code 4 = .ok (.newarray .byte, 2) := by decide +kernel
theorem own_d_jdk_52_2_6 : decode jdk_52_method_2_code 6 = .ok (.areturn, 1) := by decide +kernel
theorem own_ef_nbf (m : MethodId) (j : Int32) : entryFrame m #[(.int j)] 1 = mkF m 0 #[.val (.int j)] [] := by (first | (simp [entryFrame, mkF, argsToLocals, Value.category]; done) | rfl)
def own_Q_nbf (Z : State) (j : Int32) (n : Nat) (h0 : Heap) (n0 : Nat) (vq : Option Value) (h : Heap) (Lq : List Loc) : Prop := ∃ (t : Addr) (kt : ClassId), (vq = some (.ref t)) ∧ (Fr n0 Lq) ∧ (Keep h0 h []) ∧ (h0.size ≤ t) ∧ (Arv Z h t kt .byte (Int32.ofNat (2 * n)) (List.replicate (2 * n) (.int 0)) (.int 0))
set_option maxRecDepth 65536 in
set_option maxHeartbeats 40000000 in
theorem own_rm_nbf (l : Launch) (Z : State) (a0 : Array Value) (hw : ∀ d ∈ tables_1, d.before a0 Z = true) (wsq : List Jvm.Cond) (j : Int32) (n : Nat) (h0 : Heap) (n0 : Nat) (Z0 : n0 ≤ h0.size) (hj : j = Int32.ofNat n) (hn : n ≤ 4) :
    MetFree l (⟨"java/lang/StringUTF16", "newBytesFor", "(I)[B"⟩ : MethodName) (head1 (Jvm.Cond.code (⟨"java/lang/StringUTF16", "newBytesFor", "(I)[B"⟩ : MethodName) jdk_52_method_2_code 1 (some (.array .byte)) :: wsq) ({ frames := 1, cells := 1, slots := 8, locals := 12 } : Room)) (fun aq Uq => aq = #[(.int j)] ∧ Z.Warmed39 Uq.vm ∧ Uq.heap = h0) (fun _ _ _ _ _ => True) (fun _ Uq oq Uq' => ∃ vq Lq, oq = .returned vq ∧ own_Q_nbf Z j n h0 n0 vq Uq'.heap Lq ∧ FrameEnd Uq oq Uq' Lq ({ frames := 1, cells := 1, slots := 8, locals := 12 } : Room).cells ({ frames := 1, cells := 1, slots := 8, locals := 12 } : Room).slots) := by
  refine MetFree.of_bodySF (plainFor_of_name own_pn3) hisR ?_
  intro p e s m args below meth cde s₁ Bd hml0 hP hK
  obtain ⟨rfl, hZ, hh⟩ := hP
  have hx := Bd.exec
  have hby := Bd.bytes
  have hml : cde.maxLocals = 1 := hml0
  have hown : s.vm.findClass "java/lang/StringUTF16" = some m.cls := findClass_of_methodNamed Bd.named
  have hnm := (name_of_methodNamed Bd.named Bd.method).1
  have X0 : Stand p l e ({ frames := 1, cells := 1, slots := 8, locals := 12 } : Room) s m #[(.int j)] below meth cde s₁ [] 0 0 := Stand.of_body Bd
  have e0 : s₁.heap = h0 := by rw [← hh, Bd.state]; rfl
  have N0 := Fr.nil n0
  show own_Fin p e s below (own_Q_nbf Z j n h0 n0) ({ frames := 1, cells := 1, slots := 8, locals := 12 } : Room).cells ({ frames := 1, cells := 1, slots := 8, locals := 12 } : Room).slots s₁ (entryFrame m #[(.int j)] 1)
  rw [own_ef_nbf m j]
  refine own_via (fun _ k => XS.iloadN X0.here hx rfl (hb hby own_d_jdk_52_2_0) rfl k) ?_
  show own_Fin _ _ _ _ _ _ _ s₁ (mkF m 1 #[.val (.int j)] [(.int j)])
  obtain ⟨_, _, ⟨T1_, L1_, k1_, n1_⟩, -, X1_, ⟨Lc1_, hQ1_, l1_, y1_, z1_⟩, st1_⟩ := Jvm.LawKit.callS X0 hx (y := (⟨"java/lang/StringUTF16", "newBytesLength", "(I)I"⟩ : MethodName)) hown (mvT hZ (hw _ (List.mem_of_getElem? (i := 82) rfl))) (mvT hZ (hw _ (List.mem_of_getElem? (i := 83) rfl))) (mvT hZ (hw _ (List.mem_of_getElem? (i := 71) rfl))) (mvT hZ (hw _ (List.mem_of_getElem? (i := 84) rfl))) (by decide) (backOf (W := 0) (own_rm_nbl l Z a0 hw [] j n h0 n0 Z0 hj hn) hZ (hw _ (List.mem_of_getElem? (i := 84) rfl)) (hw _ (List.mem_of_getElem? (i := 71) rfl)) (by decide) (by decide)) (g := (mkF m 1 #[.val (.int j)] [(.int j)])) rfl (by rw [hml]; rfl) (argsL := [(.int j)]) (rest := []) (lenOf own_pd7 rfl) rfl (by show 2 * 0 + _ ≤ _; exact Nat.le_of_eq rfl) (hb hby own_d_jdk_52_2_1) (fun _ _ => ⟨rfl, e0, (by decide : 0 + 0 ≤ _), (by decide : 0 + 0 ≤ _)⟩)
  dsimp only [Pt.U, Pt.locs, Pt.cells, Pt.slots] at X1_ l1_ y1_ z1_ st1_ hQ1_
  subst l1_ y1_ z1_
  obtain ⟨rfl, Nq1_, hh1_⟩ := hQ1_
  have N1_ := Fr.app N0 Nq1_
  refine own_via (fun _ k => st1_ _ k) ?_
  show own_Fin _ _ _ _ _ _ _ T1_ (mkF m 4 #[.val (.int j)] [(.int (Int32.ofNat (2 * n)))])
  obtain ⟨T2_, h2_, k2_, X2_, e2_, E2_, A2_, st2_⟩ := newP X1_ hx hZ (hw _ (List.mem_of_getElem? (i := 26) rfl)) hh1_ (g := (mkF m 4 #[.val (.int j)] [(.int (Int32.ofNat (2 * n)))])) rfl (hb hby own_d_jdk_52_2_4) rfl (own_nneg rfl (by omega)) (cap := 8) (by rw [own_clamp rfl (by omega)]; omega) (by decide) (by decide) (by decide)
  obtain ⟨b2_, g2_⟩ : ∃ z, z = h0.size := ⟨_, rfl⟩
  rw [← g2_] at A2_ st2_
  have V2_ : Arv Z h2_ b2_ k2_ .byte (Int32.ofNat (2 * n)) (List.replicate (2 * n) (.int (0 : Int32))) (.int (0 : Int32)) := (Arv.new A2_ (own_nneg rfl (by omega))).pad (pad_rep [] (.int (0 : Int32)) (2 * n))
  refine own_via (fun _ k => st2_ _ k) ?_
  show own_Fin _ _ _ _ _ _ _ T2_ (mkF m 6 #[.val (.int j)] [(.ref b2_)])
  exact own_retA X2_ hx Bd.returns Bd.notSynchronized rfl rfl (hb hby own_d_jdk_52_2_6) e2_ ⟨b2_, k2_, rfl, N1_, ((Keep.refl h0 []).ext E2_), (Nat.le_of_eq g2_.symm), V2_⟩ (by decide) (by decide)
theorem own_d_jdk_52_4_0 : decode jdk_52_method_4_code 0 = .ok (.getstatic 44, 3) := by decide +kernel
theorem own_d_jdk_52_4_3 : decode jdk_52_method_4_code 3 = .ok (.ifCond .ne 25, 3) := by decide +kernel
theorem own_d_jdk_52_4_28 : decode jdk_52_method_4_code 28 = .ok (.iload_n 1, 1) := by decide +kernel
theorem own_d_jdk_52_4_29 : decode jdk_52_method_4_code 29 = .ok (.iconst 1, 1) := by decide +kernel
theorem own_d_jdk_52_4_30 : decode jdk_52_method_4_code 30 = .ok (.ishl, 1) := by decide +kernel
theorem own_d_jdk_52_4_31 : decode jdk_52_method_4_code 31 = .ok (.istore_n 1, 1) := by decide +kernel
theorem own_d_jdk_52_4_32 : decode jdk_52_method_4_code 32 = .ok (.aload_n 0, 1) := by decide +kernel
theorem own_d_jdk_52_4_33 : decode jdk_52_method_4_code 33 = .ok (.iload_n 1, 1) := by decide +kernel
theorem own_d_jdk_52_4_34 : decode jdk_52_method_4_code 34 = .ok (.iinc 1 1, 3) := by decide +kernel
theorem own_d_jdk_52_4_37 : decode jdk_52_method_4_code 37 = .ok (.iload_n 2, 1) := by decide +kernel
theorem own_d_jdk_52_4_38 : decode jdk_52_method_4_code 38 = .ok (.getstatic 59, 3) := by decide +kernel
theorem own_d_jdk_52_4_41 : decode jdk_52_method_4_code 41 = .ok (.ishr, 1) := by decide +kernel
theorem own_d_jdk_52_4_42 : decode jdk_52_method_4_code 42 = .ok (.i2b, 1) := by decide +kernel
theorem own_d_jdk_52_4_43 : decode jdk_52_method_4_code 43 = .ok (.bastore, 1) := by decide +kernel
theorem own_d_jdk_52_4_44 : decode jdk_52_method_4_code 44 = .ok (.aload_n 0, 1) := by decide +kernel
theorem own_d_jdk_52_4_45 : decode jdk_52_method_4_code 45 = .ok (.iload_n 1, 1) := by decide +kernel
theorem own_d_jdk_52_4_46 : decode jdk_52_method_4_code 46 = .ok (.iload_n 2, 1) := by decide +kernel
theorem own_d_jdk_52_4_47 : decode jdk_52_method_4_code 47 = .ok (.getstatic 63, 3) := by decide +kernel
theorem own_d_jdk_52_4_50 : decode jdk_52_method_4_code 50 = .ok (.ishr, 1) := by decide +kernel
theorem own_d_jdk_52_4_51 : decode jdk_52_method_4_code 51 = .ok (.i2b, 1) := by decide +kernel
theorem own_d_jdk_52_4_52 : decode jdk_52_method_4_code 52 = .ok (.bastore, 1) := by decide +kernel
theorem own_d_jdk_52_4_53 : decode jdk_52_method_4_code 53 = .ok (.return_, 1) := by decide +kernel
theorem own_ef_putCh (m : MethodId) (t : Addr) (j : Int32) (c : Int32) : entryFrame m #[(.ref t), (.int j), (.int c)] 3 = mkF m 0 #[.val (.ref t), .val (.int j), .val (.int c)] [] := by (first | (simp [entryFrame, mkF, argsToLocals, Value.category]; done) | rfl)
def own_Q_putCh (Z : State) (t : Addr) (kt : ClassId) (N2 : Int32) (ws : List Value) (c : Int32) (j : Int32) (i : Nat) (n : Nat) (h0 : Heap) (n0 : Nat) (vq : Option Value) (h : Heap) (Lq : List Loc) : Prop := (vq = none) ∧ (Fr n0 Lq) ∧ (Keep h0 h [t]) ∧ (Arv Z h t kt .byte N2 ((ws.set (2 * i) (.int (own_lo c))).set (2 * i + 1) (.int (own_hi c))) (.int 0))
set_option maxRecDepth 65536 in
set_option maxHeartbeats 40000000 in
theorem own_rm_putCh (l : Launch) (Z : State) (a0 : Array Value) (hw : ∀ d ∈ tables_1, d.before a0 Z = true) (wsq : List Jvm.Cond) (t : Addr) (kt : ClassId) (N2 : Int32) (ws : List Value) (c : Int32) (j : Int32) (i : Nat) (n : Nat) (h0 : Heap) (n0 : Nat) (Z0 : n0 ≤ h0.size) (O0 : Old Z n0 h0) (S3 : Sta Z Z.heap "java/lang/StringUTF16" "$assertionsDisabled" "Z" (.int (1 : Int32))) (S4 : Sta Z Z.heap "java/lang/StringUTF16" "HI_BYTE_SHIFT" "I" (.int (0 : Int32))) (S5 : Sta Z Z.heap "java/lang/StringUTF16" "LO_BYTE_SHIFT" "I" (.int (8 : Int32))) (Va : Arv Z h0 t kt .byte N2 ws (.int 0)) (gt : n0 ≤ t) (hj : j = Int32.ofNat i) (hi : i < n) (hn : n ≤ 4000) (hN : N2 = Int32.ofNat (2 * n)) (hwl : ws.length = 2 * n) :
    MetFree l (⟨"java/lang/StringUTF16", "putChar", "([BII)V"⟩ : MethodName) (head1 (Jvm.Cond.code (⟨"java/lang/StringUTF16", "putChar", "([BII)V"⟩ : MethodName) jdk_52_method_4_code 3 none :: wsq) ({ frames := 0, cells := 0, slots := 0, locals := 0 } : Room)) (fun aq Uq => aq = #[(.ref t), (.int j), (.int c)] ∧ Z.Warmed39 Uq.vm ∧ Uq.heap = h0) (fun _ _ _ _ _ => True) (fun _ Uq oq Uq' => ∃ vq Lq, oq = .returned vq ∧ own_Q_putCh Z t kt N2 ws c j i n h0 n0 vq Uq'.heap Lq ∧ FrameEnd Uq oq Uq' Lq ({ frames := 0, cells := 0, slots := 0, locals := 0 } : Room).cells ({ frames := 0, cells := 0, slots := 0, locals := 0 } : Room).slots) := by
  refine MetFree.of_bodySF (plainFor_of_name own_pn3) hisR ?_
  intro p e s m args below meth cde s₁ Bd hml0 hP hK
  obtain ⟨rfl, hZ, hh⟩ := hP
  have hx := Bd.exec
  have hby := Bd.bytes
  have hml : cde.maxLocals = 3 := hml0
  have hown : s.vm.findClass "java/lang/StringUTF16" = some m.cls := findClass_of_methodNamed Bd.named
  have hnm := (name_of_methodNamed Bd.named Bd.method).1
  have X0 : Stand p l e ({ frames := 0, cells := 0, slots := 0, locals := 0 } : Room) s m #[(.ref t), (.int j), (.int c)] below meth cde s₁ [] 0 0 := Stand.of_body Bd
  have e0 : s₁.heap = h0 := by rw [← hh, Bd.state]; rfl
  have N0 := Fr.nil n0
  show own_Fin p e s below (own_Q_putCh Z t kt N2 ws c j i n h0 n0) ({ frames := 0, cells := 0, slots := 0, locals := 0 } : Room).cells ({ frames := 0, cells := 0, slots := 0, locals := 0 } : Room).slots s₁ (entryFrame m #[(.ref t), (.int j), (.int c)] 3)
  rw [own_ef_putCh m t j c]
  obtain ⟨T1_, X1_, e1_, st1_⟩ := getS2 X0 hx hZ hown (host := "") (Or.inl (hw _ (List.mem_of_getElem? (i := 89) rfl))) Via.refl e0 (S3.ext O0.2) (g := (mkF m 0 #[.val (.ref t), .val (.int j), .val (.int c)] [])) rfl (hb hby own_d_jdk_52_4_0)
  refine own_via (fun _ k => st1_ _ k) ?_
  show own_Fin _ _ _ _ _ _ _ T1_ (mkF m 3 #[.val (.ref t), .val (.int j), .val (.int c)] [(.int (1 : Int32))])
  refine own_via (fun _ k => XS.ifYes X1_.here hx rfl (pc0 := 3) (pc' := 28) rfl (hb hby own_d_jdk_52_4_3) rfl ((if0 _ _).trans (feq (by decide)).2) (by decide) (by decide) k) ?_
  show own_Fin _ _ _ _ _ _ _ T1_ (mkF m 28 #[.val (.ref t), .val (.int j), .val (.int c)] [])
  refine own_via (fun _ k => XS.iloadN X1_.here hx rfl (hb hby own_d_jdk_52_4_28) rfl k) ?_
  show own_Fin _ _ _ _ _ _ _ T1_ (mkF m 29 #[.val (.ref t), .val (.int j), .val (.int c)] [(.int j)])
  refine own_via (fun _ k => XS.iconst X1_.here hx rfl (hb hby own_d_jdk_52_4_29) k) ?_
  show own_Fin _ _ _ _ _ _ _ T1_ (mkF m 30 #[.val (.ref t), .val (.int j), .val (.int c)] [(.int (1 : Int32)), (.int j)])
  refine own_via (fun _ k => XS.ishl X1_.here hx rfl (hb hby own_d_jdk_52_4_30) rfl k) ?_
  show own_Fin _ _ _ _ _ _ _ T1_ (mkF m 31 #[.val (.ref t), .val (.int j), .val (.int c)] [(.int (j <<< ((1 : Int32) &&& 31)))])
  refine own_via (fun _ k => XS.istoreN X1_.here hx rfl (hb hby own_d_jdk_52_4_31) rfl (l' := #[.val (.ref t), .val (.int (j <<< ((1 : Int32) &&& 31))), .val (.int c)]) rfl k) ?_
  show own_Fin _ _ _ _ _ _ _ T1_ (mkF m 32 #[.val (.ref t), .val (.int (j <<< ((1 : Int32) &&& 31))), .val (.int c)] [])
  refine own_via (fun _ k => XS.aloadN X1_.here hx rfl (hb hby own_d_jdk_52_4_32) rfl rfl k) ?_
  show own_Fin _ _ _ _ _ _ _ T1_ (mkF m 33 #[.val (.ref t), .val (.int (j <<< ((1 : Int32) &&& 31))), .val (.int c)] [(.ref t)])
  refine own_via (fun _ k => XS.iloadN X1_.here hx rfl (hb hby own_d_jdk_52_4_33) rfl k) ?_
  show own_Fin _ _ _ _ _ _ _ T1_ (mkF m 34 #[.val (.ref t), .val (.int (j <<< ((1 : Int32) &&& 31))), .val (.int c)] [(.int (j <<< ((1 : Int32) &&& 31))), (.ref t)])
  refine own_via (fun _ k => XS.iinc X1_.here hx rfl (hb hby own_d_jdk_52_4_34) rfl (l' := #[.val (.ref t), .val (.int ((j <<< ((1 : Int32) &&& 31)) + (1 : Int32))), .val (.int c)]) rfl k) ?_
  show own_Fin _ _ _ _ _ _ _ T1_ (mkF m 37 #[.val (.ref t), .val (.int ((j <<< ((1 : Int32) &&& 31)) + (1 : Int32))), .val (.int c)] [(.int (j <<< ((1 : Int32) &&& 31))), (.ref t)])
  refine own_via (fun _ k => XS.iloadN X1_.here hx rfl (hb hby own_d_jdk_52_4_37) rfl k) ?_
  show own_Fin _ _ _ _ _ _ _ T1_ (mkF m 38 #[.val (.ref t), .val (.int ((j <<< ((1 : Int32) &&& 31)) + (1 : Int32))), .val (.int c)] [(.int c), (.int (j <<< ((1 : Int32) &&& 31))), (.ref t)])
  obtain ⟨T2_, X2_, e2_, st2_⟩ := getS2 X1_ hx hZ hown (host := "") (Or.inl (hw _ (List.mem_of_getElem? (i := 90) rfl))) Via.refl e1_ (S4.ext O0.2) (g := (mkF m 38 #[.val (.ref t), .val (.int ((j <<< ((1 : Int32) &&& 31)) + (1 : Int32))), .val (.int c)] [(.int c), (.int (j <<< ((1 : Int32) &&& 31))), (.ref t)])) rfl (hb hby own_d_jdk_52_4_38)
  refine own_via (fun _ k => st2_ _ k) ?_
  show own_Fin _ _ _ _ _ _ _ T2_ (mkF m 41 #[.val (.ref t), .val (.int ((j <<< ((1 : Int32) &&& 31)) + (1 : Int32))), .val (.int c)] [(.int (0 : Int32)), (.int c), (.int (j <<< ((1 : Int32) &&& 31))), (.ref t)])
  refine own_via (fun _ k => XS.ishr X2_.here hx rfl (hb hby own_d_jdk_52_4_41) rfl k) ?_
  show own_Fin _ _ _ _ _ _ _ T2_ (mkF m 42 #[.val (.ref t), .val (.int ((j <<< ((1 : Int32) &&& 31)) + (1 : Int32))), .val (.int c)] [(.int (c >>> ((0 : Int32) &&& 31))), (.int (j <<< ((1 : Int32) &&& 31))), (.ref t)])
  refine own_via (fun _ k => XS.i2b X2_.here hx rfl (hb hby own_d_jdk_52_4_42) rfl k) ?_
  show own_Fin _ _ _ _ _ _ _ T2_ (mkF m 43 #[.val (.ref t), .val (.int ((j <<< ((1 : Int32) &&& 31)) + (1 : Int32))), .val (.int c)] [(.int ((c >>> ((0 : Int32) &&& 31)).toInt8.toInt32)), (.int (j <<< ((1 : Int32) &&& 31))), (.ref t)])
  obtain ⟨c3_, Ar3_, q3_, S3_, M3_, H3_, G3_⟩ := (id Va)
  have hin3_ : ¬ ((j <<< ((1 : Int32) &&& 31)) < 0 ∨ c3_.slots.size ≤ ((j <<< ((1 : Int32) &&& 31))).toNatClampNeg) := inb_of S3_ (own_shin hj hN hi hn)
  obtain ⟨T3_, h3_, X3_, e3_, W3_, st3_⟩ := stB X2_ hx hZ e2_ Ar3_ (j := (j <<< ((1 : Int32) &&& 31))) hin3_ (g := (mkF m 43 #[.val (.ref t), .val (.int ((j <<< ((1 : Int32) &&& 31)) + (1 : Int32))), .val (.int c)] [(.int ((c >>> ((0 : Int32) &&& 31)).toInt8.toInt32)), (.int (j <<< ((1 : Int32) &&& 31))), (.ref t)])) rfl rfl (hb hby own_d_jdk_52_4_43)
  have V3_ := Arv.set Ar3_ q3_ S3_ M3_ H3_ G3_ (fits_nar_byte _) W3_ (2 * i) (own_sh1 hj (by omega)) (by omega)
  have U3_ : Arv Z h3_ t kt .byte N2 ((ws).set (2 * i) (.int (own_lo c))) (.int 0) := by
    have hq := V3_
    rw [show ((c >>> ((0 : Int32) &&& 31)).toInt8.toInt32).toInt8.toInt32 = (own_lo c) from (own_st0 _)] at hq
    exact hq
  have N3_ := Fr.snoc X3_ N0 gt
  refine own_via (fun _ k => st3_ _ k) ?_
  show own_Fin _ _ _ _ _ _ _ T3_ (mkF m 44 #[.val (.ref t), .val (.int ((j <<< ((1 : Int32) &&& 31)) + (1 : Int32))), .val (.int c)] [])
  refine own_via (fun _ k => XS.aloadN X3_.here hx rfl (hb hby own_d_jdk_52_4_44) rfl rfl k) ?_
  show own_Fin _ _ _ _ _ _ _ T3_ (mkF m 45 #[.val (.ref t), .val (.int ((j <<< ((1 : Int32) &&& 31)) + (1 : Int32))), .val (.int c)] [(.ref t)])
  refine own_via (fun _ k => XS.iloadN X3_.here hx rfl (hb hby own_d_jdk_52_4_45) rfl k) ?_
  show own_Fin _ _ _ _ _ _ _ T3_ (mkF m 46 #[.val (.ref t), .val (.int ((j <<< ((1 : Int32) &&& 31)) + (1 : Int32))), .val (.int c)] [(.int ((j <<< ((1 : Int32) &&& 31)) + (1 : Int32))), (.ref t)])
  refine own_via (fun _ k => XS.iloadN X3_.here hx rfl (hb hby own_d_jdk_52_4_46) rfl k) ?_
  show own_Fin _ _ _ _ _ _ _ T3_ (mkF m 47 #[.val (.ref t), .val (.int ((j <<< ((1 : Int32) &&& 31)) + (1 : Int32))), .val (.int c)] [(.int c), (.int ((j <<< ((1 : Int32) &&& 31)) + (1 : Int32))), (.ref t)])
  obtain ⟨T4_, X4_, e4_, st4_⟩ := getS2 X3_ hx hZ hown (host := "") (Or.inl (hw _ (List.mem_of_getElem? (i := 91) rfl))) Via.refl e3_ (S5.ext (O0.wr W3_ gt).2) (g := (mkF m 47 #[.val (.ref t), .val (.int ((j <<< ((1 : Int32) &&& 31)) + (1 : Int32))), .val (.int c)] [(.int c), (.int ((j <<< ((1 : Int32) &&& 31)) + (1 : Int32))), (.ref t)])) rfl (hb hby own_d_jdk_52_4_47)
  refine own_via (fun _ k => st4_ _ k) ?_
  show own_Fin _ _ _ _ _ _ _ T4_ (mkF m 50 #[.val (.ref t), .val (.int ((j <<< ((1 : Int32) &&& 31)) + (1 : Int32))), .val (.int c)] [(.int (8 : Int32)), (.int c), (.int ((j <<< ((1 : Int32) &&& 31)) + (1 : Int32))), (.ref t)])
  refine own_via (fun _ k => XS.ishr X4_.here hx rfl (hb hby own_d_jdk_52_4_50) rfl k) ?_
  show own_Fin _ _ _ _ _ _ _ T4_ (mkF m 51 #[.val (.ref t), .val (.int ((j <<< ((1 : Int32) &&& 31)) + (1 : Int32))), .val (.int c)] [(.int (c >>> ((8 : Int32) &&& 31))), (.int ((j <<< ((1 : Int32) &&& 31)) + (1 : Int32))), (.ref t)])
  refine own_via (fun _ k => XS.i2b X4_.here hx rfl (hb hby own_d_jdk_52_4_51) rfl k) ?_
  show own_Fin _ _ _ _ _ _ _ T4_ (mkF m 52 #[.val (.ref t), .val (.int ((j <<< ((1 : Int32) &&& 31)) + (1 : Int32))), .val (.int c)] [(.int ((c >>> ((8 : Int32) &&& 31)).toInt8.toInt32)), (.int ((j <<< ((1 : Int32) &&& 31)) + (1 : Int32))), (.ref t)])
  obtain ⟨c5_, Ar5_, q5_, S5_, M5_, H5_, G5_⟩ := (id U3_)
  have hin5_ : ¬ (((j <<< ((1 : Int32) &&& 31)) + (1 : Int32)) < 0 ∨ c5_.slots.size ≤ (((j <<< ((1 : Int32) &&& 31)) + (1 : Int32))).toNatClampNeg) := inb_of S5_ (own_shin2 hj hN hi hn)
  obtain ⟨T5_, h5_, X5_, e5_, W5_, st5_⟩ := stB X4_ hx hZ e4_ Ar5_ (j := ((j <<< ((1 : Int32) &&& 31)) + (1 : Int32))) hin5_ (g := (mkF m 52 #[.val (.ref t), .val (.int ((j <<< ((1 : Int32) &&& 31)) + (1 : Int32))), .val (.int c)] [(.int ((c >>> ((8 : Int32) &&& 31)).toInt8.toInt32)), (.int ((j <<< ((1 : Int32) &&& 31)) + (1 : Int32))), (.ref t)])) rfl rfl (hb hby own_d_jdk_52_4_52)
  have V5_ := Arv.set Ar5_ q5_ S5_ M5_ H5_ G5_ (fits_nar_byte _) W5_ (2 * i + 1) (own_sh2 hj (by omega)) (by rw [List.length_set]; omega)
  have U5_ : Arv Z h5_ t kt .byte N2 ((((ws).set (2 * i) (.int (own_lo c)))).set (2 * i + 1) (.int (own_hi c))) (.int 0) := by
    have hq := V5_
    rw [show ((c >>> ((8 : Int32) &&& 31)).toInt8.toInt32).toInt8.toInt32 = (own_hi c) from (own_st8 _)] at hq
    exact hq
  have N5_ := Fr.snoc X5_ N3_ gt
  refine own_via (fun _ k => st5_ _ k) ?_
  show own_Fin _ _ _ _ _ _ _ T5_ (mkF m 53 #[.val (.ref t), .val (.int ((j <<< ((1 : Int32) &&& 31)) + (1 : Int32))), .val (.int c)] [])
  exact own_ret0 X5_ hx Bd.returns Bd.notSynchronized (hb hby own_d_jdk_52_4_53) e5_ ⟨rfl, N5_, (((Keep.refl h0 [t]).wr W3_ (Or.inl (List.mem_of_getElem? (i := 0) rfl))).wr W5_ (Or.inl (List.mem_of_getElem? (i := 0) rfl))), U5_⟩ (by decide) (by decide)
theorem own_d_jdk_52_14_0 : decode jdk_52_method_14_code 0 = .ok (.iload_n 2, 1) := by decide +kernel
theorem own_d_jdk_52_14_1 : decode jdk_52_method_14_code 1 = .ok (.invokestatic 107, 3) := by decide +kernel
theorem own_pd8 : parseMethodDescriptor "(I)[B" = some ⟨[.int], some (.array .byte)⟩ := by decide +kernel
theorem own_d_jdk_52_14_4 : decode jdk_52_method_14_code 4 = .ok (.astore_n 3, 1) := by decide +kernel
theorem own_d_jdk_52_14_5 : decode jdk_52_method_14_code 5 = .ok (.iconst 0, 1) := by decide +kernel
theorem own_d_jdk_52_14_6 : decode jdk_52_method_14_code 6 = .ok (.istore 4, 2) := by decide +kernel
theorem own_d_jdk_52_14_8 : decode jdk_52_method_14_code 8 = .ok (.iload 4, 2) := by decide +kernel
theorem own_d_jdk_52_14_10 : decode jdk_52_method_14_code 10 = .ok (.iload_n 2, 1) := by decide +kernel
theorem own_d_jdk_52_14_11 : decode jdk_52_method_14_code 11 = .ok (.if_icmp .ge 21, 3) := by decide +kernel
theorem own_d_jdk_52_14_32 : decode jdk_52_method_14_code 32 = .ok (.aload_n 3, 1) := by decide +kernel
theorem own_d_jdk_52_14_33 : decode jdk_52_method_14_code 33 = .ok (.areturn, 1) := by decide +kernel
theorem own_d_jdk_52_14_14 : decode jdk_52_method_14_code 14 = .ok (.aload_n 3, 1) := by decide +kernel
theorem own_d_jdk_52_14_15 : decode jdk_52_method_14_code 15 = .ok (.iload 4, 2) := by decide +kernel
theorem own_d_jdk_52_14_17 : decode jdk_52_method_14_code 17 = .ok (.aload_n 0, 1) := by decide +kernel
theorem own_d_jdk_52_14_18 : decode jdk_52_method_14_code 18 = .ok (.iload_n 1, 1) := by decide +kernel
theorem own_d_jdk_52_14_19 : decode jdk_52_method_14_code 19 = .ok (.caload, 1) := by decide +kernel
theorem own_d_jdk_52_14_20 : decode jdk_52_method_14_code 20 = .ok (.invokestatic 111, 3) := by decide +kernel
theorem own_pd9 : parseMethodDescriptor "([BII)V" = some ⟨[(.array .byte), .int, .int], none⟩ := by decide +kernel
theorem own_d_jdk_52_14_23 : decode jdk_52_method_14_code 23 = .ok (.iinc 1 1, 3) := by decide +kernel
theorem own_d_jdk_52_14_26 : decode jdk_52_method_14_code 26 = .ok (.iinc 4 1, 3) := by decide +kernel
theorem own_d_jdk_52_14_29 : decode jdk_52_method_14_code 29 = .ok (.goto (-21), 3) := by decide +kernel
theorem own_ef_toBy (m : MethodId) (a : Addr) (N : Int32) : entryFrame m #[(.ref a), (.int (0 : Int32)), (.int N)] 5 = mkF m 0 #[.val (.ref a), .val (.int (0 : Int32)), .val (.int N), .unset, .unset] [] := by (first | (simp [entryFrame, mkF, argsToLocals, Value.category]; done) | rfl)
def own_Q_toBy (Z : State) (a : Addr) (ka : ClassId) (N : Int32) (cs : List Int32) (h0 : Heap) (n0 : Nat) (vq : Option Value) (h : Heap) (Lq : List Loc) : Prop := ∃ (t : Addr) (kt : ClassId) (ws : List Value), (vq = some (.ref t)) ∧ (Fr n0 Lq) ∧ (Keep h0 h []) ∧ (h0.size ≤ t) ∧ (Arv Z h t kt .byte (Int32.ofNat (2 * cs.length)) ws (.int 0)) ∧ (own_wide cs ws)
set_option maxRecDepth 65536 in
set_option maxHeartbeats 40000000 in
theorem own_rm_toBy (l : Launch) (Z : State) (a0 : Array Value) (hw : ∀ d ∈ tables_1, d.before a0 Z = true) (wsq : List Jvm.Cond) (a : Addr) (ka : ClassId) (N : Int32) (cs : List Int32) (h0 : Heap) (n0 : Nat) (Z0 : n0 ≤ h0.size) (O0 : Old Z n0 h0) (S3 : Sta Z Z.heap "java/lang/StringUTF16" "$assertionsDisabled" "Z" (.int (1 : Int32))) (S4 : Sta Z Z.heap "java/lang/StringUTF16" "HI_BYTE_SHIFT" "I" (.int (0 : Int32))) (S5 : Sta Z Z.heap "java/lang/StringUTF16" "LO_BYTE_SHIFT" "I" (.int (8 : Int32))) (Vc : Arv Z h0 a ka .char N (cs.map Value.int) (.int 0)) (hN : N = Int32.ofNat cs.length) (hn : cs.length ≤ 4) (hp : 0 < cs.length) (hr : own_chs cs) :
    MetFree l (⟨"java/lang/StringUTF16", "toBytes", "([CII)[B"⟩ : MethodName) (head1 (Jvm.Cond.code (⟨"java/lang/StringUTF16", "toBytes", "([CII)[B"⟩ : MethodName) jdk_52_method_14_code 5 (some (.array .byte)) :: wsq) ({ frames := 2, cells := 1, slots := 8, locals := 24 } : Room)) (fun aq Uq => aq = #[(.ref a), (.int (0 : Int32)), (.int N)] ∧ Z.Warmed39 Uq.vm ∧ Uq.heap = h0) (fun _ _ _ _ _ => True) (fun _ Uq oq Uq' => ∃ vq Lq, oq = .returned vq ∧ own_Q_toBy Z a ka N cs h0 n0 vq Uq'.heap Lq ∧ FrameEnd Uq oq Uq' Lq ({ frames := 2, cells := 1, slots := 8, locals := 24 } : Room).cells ({ frames := 2, cells := 1, slots := 8, locals := 24 } : Room).slots) := by
  refine MetFree.of_bodySF (plainFor_of_name own_pn3) hisR ?_
  intro p e s m args below meth cde s₁ Bd hml0 hP hK
  obtain ⟨rfl, hZ, hh⟩ := hP
  have hx := Bd.exec
  have hby := Bd.bytes
  have hml : cde.maxLocals = 5 := hml0
  have hown : s.vm.findClass "java/lang/StringUTF16" = some m.cls := findClass_of_methodNamed Bd.named
  have hnm := (name_of_methodNamed Bd.named Bd.method).1
  have X0 : Stand p l e ({ frames := 2, cells := 1, slots := 8, locals := 24 } : Room) s m #[(.ref a), (.int (0 : Int32)), (.int N)] below meth cde s₁ [] 0 0 := Stand.of_body Bd
  have e0 : s₁.heap = h0 := by rw [← hh, Bd.state]; rfl
  have N0 := Fr.nil n0
  show own_Fin p e s below (own_Q_toBy Z a ka N cs h0 n0) ({ frames := 2, cells := 1, slots := 8, locals := 24 } : Room).cells ({ frames := 2, cells := 1, slots := 8, locals := 24 } : Room).slots s₁ (entryFrame m #[(.ref a), (.int (0 : Int32)), (.int N)] 5)
  rw [own_ef_toBy m a N]
  refine own_via (fun _ k => XS.iloadN X0.here hx rfl (hb hby own_d_jdk_52_14_0) rfl k) ?_
  show own_Fin _ _ _ _ _ _ _ s₁ (mkF m 1 #[.val (.ref a), .val (.int (0 : Int32)), .val (.int N), .unset, .unset] [(.int N)])
  obtain ⟨_, _, ⟨T1_, L1_, k1_, n1_⟩, -, X1_, ⟨Lc1_, hQ1_, l1_, y1_, z1_⟩, st1_⟩ := Jvm.LawKit.callS X0 hx (y := (⟨"java/lang/StringUTF16", "newBytesFor", "(I)[B"⟩ : MethodName)) hown (mvT hZ (hw _ (List.mem_of_getElem? (i := 79) rfl))) (mvT hZ (hw _ (List.mem_of_getElem? (i := 80) rfl))) (mvT hZ (hw _ (List.mem_of_getElem? (i := 71) rfl))) (mvT hZ (hw _ (List.mem_of_getElem? (i := 81) rfl))) (by decide) (backOf (W := 0) (own_rm_nbf l Z a0 hw [] N cs.length h0 n0 Z0 hN hn) hZ (hw _ (List.mem_of_getElem? (i := 81) rfl)) (hw _ (List.mem_of_getElem? (i := 71) rfl)) (by decide) (by decide)) (g := (mkF m 1 #[.val (.ref a), .val (.int (0 : Int32)), .val (.int N), .unset, .unset] [(.int N)])) rfl (by rw [hml]; rfl) (argsL := [(.int N)]) (rest := []) (lenOf own_pd8 rfl) rfl (by show 2 * 0 + _ ≤ _; exact Nat.le_of_eq rfl) (hb hby own_d_jdk_52_14_1) (fun _ _ => ⟨rfl, e0, (by decide : 0 + 1 ≤ _), (by decide : 0 + 8 ≤ _)⟩)
  dsimp only [Pt.U, Pt.locs, Pt.cells, Pt.slots] at X1_ l1_ y1_ z1_ st1_ hQ1_
  subst l1_ y1_ z1_
  obtain ⟨t, kt, rfl, Nq1_, K1_, r2_, r3_⟩ := hQ1_
  have N1_ := Fr.app N0 Nq1_
  refine own_via (fun _ k => st1_ _ k) ?_
  show own_Fin _ _ _ _ _ _ _ T1_ (mkF m 4 #[.val (.ref a), .val (.int (0 : Int32)), .val (.int N), .unset, .unset] [(.ref t)])
  refine own_via (fun _ k => XS.astoreN X1_.here hx rfl (hb hby own_d_jdk_52_14_4) rfl rfl (l' := #[.val (.ref a), .val (.int (0 : Int32)), .val (.int N), .val (.ref t), .unset]) rfl k) ?_
  show own_Fin _ _ _ _ _ _ _ T1_ (mkF m 5 #[.val (.ref a), .val (.int (0 : Int32)), .val (.int N), .val (.ref t), .unset] [])
  refine own_via (fun _ k => XS.iconst X1_.here hx rfl (hb hby own_d_jdk_52_14_5) k) ?_
  show own_Fin _ _ _ _ _ _ _ T1_ (mkF m 6 #[.val (.ref a), .val (.int (0 : Int32)), .val (.int N), .val (.ref t), .unset] [(.int (0 : Int32))])
  refine own_via (fun _ k => XS.istore X1_.here hx rfl (hb hby own_d_jdk_52_14_6) rfl (l' := #[.val (.ref a), .val (.int (0 : Int32)), .val (.int N), .val (.ref t), .val (.int (0 : Int32))]) rfl k) ?_
  show own_Fin _ _ _ _ _ _ _ T1_ (mkF m 8 #[.val (.ref a), .val (.int (0 : Int32)), .val (.int N), .val (.ref t), .val (.int (0 : Int32))] [])
  have szt : h0.size ≤ t := r2_
  have q4_ : a ≠ t := Nat.ne_of_lt (Nat.lt_of_lt_of_le Vc.lt r2_)
  have g5_ : n0 ≤ t := Nat.le_trans Z0 r2_
  have lp : ∀ (k : Nat) (i : Nat) (j : Int32) (ws : List Value) (Tl : State) (locl : List Loc) (Xl : Stand p l e ({ frames := 2, cells := 1, slots := 8, locals := 24 } : Room) s m #[(.ref a), (.int (0 : Int32)), (.int N)] below meth cde Tl locl (0 + 1) (0 + 8)) (Nl : Fr n0 locl) (hl : Heap) (el : Tl.heap = hl) (Kl : Keep h0 hl []) (Ol : Old Z n0 hl) (Vl : Arv Z hl a ka .char N (cs.map Value.int) (.int 0)) (Vm : Arv Z hl t kt .byte (Int32.ofNat (2 * cs.length)) ws (.int 0)) (hj : j = Int32.ofNat i) (hi : i ≤ cs.length) (hk : cs.length ≤ i + k) (hwl : ws.length = 2 * cs.length) (hh_ : ∀ q, q < i → ws.getD (2 * q) (.int 0) = .int (own_lo (cs.getD q 0)) ∧ ws.getD (2 * q + 1) (.int 0) = .int (own_hi (cs.getD q 0))), own_Fin p e s below (own_Q_toBy Z a ka N cs h0 n0) ({ frames := 2, cells := 1, slots := 8, locals := 24 } : Room).cells ({ frames := 2, cells := 1, slots := 8, locals := 24 } : Room).slots Tl (mkF m 8 #[.val (.ref a), .val (.int j), .val (.int N), .val (.ref t), .val (.int j)] []) := by
    intro k
    induction k with
    | zero =>
      intro i j ws Tl locl Xl Nl hl el Kl Ol Vl Vm hj hi hk hwl hh_
      have Zl : n0 ≤ hl.size := Nat.le_trans Z0 Kl.1
      refine own_via (fun _ k => XS.iload Xl.here hx rfl (hb hby own_d_jdk_52_14_8) rfl k) ?_
      show own_Fin _ _ _ _ _ _ _ Tl (mkF m 10 #[.val (.ref a), .val (.int j), .val (.int N), .val (.ref t), .val (.int j)] [(.int j)])
      refine own_via (fun _ k => XS.iloadN Xl.here hx rfl (hb hby own_d_jdk_52_14_10) rfl k) ?_
      show own_Fin _ _ _ _ _ _ _ Tl (mkF m 11 #[.val (.ref a), .val (.int j), .val (.int N), .val (.ref t), .val (.int j)] [(.int N), (.int j)])
      refine own_via (fun _ k => XS.icmpYes Xl.here hx rfl (pc0 := 11) (pc' := 32) rfl (hb hby own_d_jdk_52_14_11) rfl (flt (fun q => absurd ((own_ltN hj hN (by omega) (by omega)).mp q) (by omega))).2.1 (by decide) (by decide) k) ?_
      show own_Fin _ _ _ _ _ _ _ Tl (mkF m 32 #[.val (.ref a), .val (.int j), .val (.int N), .val (.ref t), .val (.int j)] [])
      refine own_via (fun _ k => XS.aloadN Xl.here hx rfl (hb hby own_d_jdk_52_14_32) rfl rfl k) ?_
      show own_Fin _ _ _ _ _ _ _ Tl (mkF m 33 #[.val (.ref a), .val (.int j), .val (.int N), .val (.ref t), .val (.int j)] [(.ref t)])
      exact own_retA Xl hx Bd.returns Bd.notSynchronized rfl rfl (hb hby own_d_jdk_52_14_33) el ⟨t, kt, ws, rfl, Nl, Kl, szt, Vm, (fun q hq => hh_ q (by omega))⟩ (by decide) (by decide)
    | succ k ih =>
      intro i j ws Tl locl Xl Nl hl el Kl Ol Vl Vm hj hi hk hwl hh_
      have Zl : n0 ≤ hl.size := Nat.le_trans Z0 Kl.1
      refine own_via (fun _ k => XS.iload Xl.here hx rfl (hb hby own_d_jdk_52_14_8) rfl k) ?_
      show own_Fin _ _ _ _ _ _ _ Tl (mkF m 10 #[.val (.ref a), .val (.int j), .val (.int N), .val (.ref t), .val (.int j)] [(.int j)])
      refine own_via (fun _ k => XS.iloadN Xl.here hx rfl (hb hby own_d_jdk_52_14_10) rfl k) ?_
      show own_Fin _ _ _ _ _ _ _ Tl (mkF m 11 #[.val (.ref a), .val (.int j), .val (.int N), .val (.ref t), .val (.int j)] [(.int N), (.int j)])
      rcases Classical.em (j < N) with hg | hg
      · refine own_via (fun _ k => XS.icmpNo Xl.here hx rfl (hb hby own_d_jdk_52_14_11) rfl (tlt hg).2.1 k) ?_
        show own_Fin _ _ _ _ _ _ _ Tl (mkF m 14 #[.val (.ref a), .val (.int j), .val (.int N), .val (.ref t), .val (.int j)] [])
        have hlt : i < cs.length := (own_ltN hj hN (by omega) (by omega)).mp hg
        refine own_via (fun _ k => XS.aloadN Xl.here hx rfl (hb hby own_d_jdk_52_14_14) rfl rfl k) ?_
        show own_Fin _ _ _ _ _ _ _ Tl (mkF m 15 #[.val (.ref a), .val (.int j), .val (.int N), .val (.ref t), .val (.int j)] [(.ref t)])
        refine own_via (fun _ k => XS.iload Xl.here hx rfl (hb hby own_d_jdk_52_14_15) rfl k) ?_
        show own_Fin _ _ _ _ _ _ _ Tl (mkF m 17 #[.val (.ref a), .val (.int j), .val (.int N), .val (.ref t), .val (.int j)] [(.int j), (.ref t)])
        refine own_via (fun _ k => XS.aloadN Xl.here hx rfl (hb hby own_d_jdk_52_14_17) rfl rfl k) ?_
        show own_Fin _ _ _ _ _ _ _ Tl (mkF m 18 #[.val (.ref a), .val (.int j), .val (.int N), .val (.ref t), .val (.int j)] [(.ref a), (.int j), (.ref t)])
        refine own_via (fun _ k => XS.iloadN Xl.here hx rfl (hb hby own_d_jdk_52_14_18) rfl k) ?_
        show own_Fin _ _ _ _ _ _ _ Tl (mkF m 19 #[.val (.ref a), .val (.int j), .val (.int N), .val (.ref t), .val (.int j)] [(.int j), (.ref a), (.int j), (.ref t)])
        obtain ⟨c6_, Ar6_, q6_, S6_, M6_, H6_, G6_⟩ := (id Vl)
        have hin6_ : ¬ (j < 0 ∨ c6_.slots.size ≤ (j).toNatClampNeg) := inb_of S6_ (own_inb hj hN hlt (by omega))
        have hat6_ : c6_.slots[(j).toNatClampNeg]? = some (.int (cs.getD i 0)) := H6_.at hin6_ (own_el hj (by omega))
        refine own_via (fun _ k => Xl.caload hx (j := j) (v := (.int (cs.getD i 0))) (own_eq el Ar6_.1) (State.isArrayOf_alike hZ.alike Ar6_.2.1) Ar6_.2.2 hin6_ hat6_ (g := (mkF m 19 #[.val (.ref a), .val (.int j), .val (.int N), .val (.ref t), .val (.int j)] [(.int j), (.ref a), (.int j), (.ref t)])) rfl rfl (hb hby own_d_jdk_52_14_19) _ k) ?_
        show own_Fin _ _ _ _ _ _ _ Tl (mkF m 20 #[.val (.ref a), .val (.int j), .val (.int N), .val (.ref t), .val (.int j)] [(.int (cs.getD i 0)), (.int j), (.ref t)])
        obtain ⟨_, _, ⟨T7_, L7_, k7_, n7_⟩, -, X7_, ⟨Lc7_, hQ7_, l7_, y7_, z7_⟩, st7_⟩ := Jvm.LawKit.callS Xl hx (y := (⟨"java/lang/StringUTF16", "putChar", "([BII)V"⟩ : MethodName)) hown (mvT hZ (hw _ (List.mem_of_getElem? (i := 86) rfl))) (mvT hZ (hw _ (List.mem_of_getElem? (i := 87) rfl))) (mvT hZ (hw _ (List.mem_of_getElem? (i := 71) rfl))) (mvT hZ (hw _ (List.mem_of_getElem? (i := 88) rfl))) (by decide) (backOf (W := 0) (own_rm_putCh l Z a0 hw [] t kt (Int32.ofNat (2 * cs.length)) ws (cs.getD i 0) j i cs.length hl n0 Zl Ol S3 S4 S5 Vm g5_ hj hlt (by omega) rfl hwl) hZ (hw _ (List.mem_of_getElem? (i := 88) rfl)) (hw _ (List.mem_of_getElem? (i := 71) rfl)) (by decide) (by decide)) (g := (mkF m 20 #[.val (.ref a), .val (.int j), .val (.int N), .val (.ref t), .val (.int j)] [(.int (cs.getD i 0)), (.int j), (.ref t)])) rfl (by rw [hml]; rfl) (argsL := [(.ref t), (.int j), (.int (cs.getD i 0))]) (rest := []) (lenOf own_pd9 rfl) rfl (by show 2 * 0 + _ ≤ _; exact Nat.le_of_eq rfl) (hb hby own_d_jdk_52_14_20) (fun _ _ => ⟨rfl, el, (by decide : (0 + 1) + 0 ≤ _), (by decide : (0 + 8) + 0 ≤ _)⟩)
        dsimp only [Pt.U, Pt.locs, Pt.cells, Pt.slots] at X7_ l7_ y7_ z7_ st7_ hQ7_
        subst l7_ y7_ z7_
        obtain ⟨rfl, Nq7_, K7_, r8_⟩ := hQ7_
        have N7_ := Fr.app Nl Nq7_
        refine own_via (fun _ k => st7_ _ k) ?_
        show own_Fin _ _ _ _ _ _ _ T7_ (mkF m 23 #[.val (.ref a), .val (.int j), .val (.int N), .val (.ref t), .val (.int j)] [])
        refine own_via (fun _ k => XS.iinc X7_.here hx rfl (hb hby own_d_jdk_52_14_23) rfl (l' := #[.val (.ref a), .val (.int (j + (1 : Int32))), .val (.int N), .val (.ref t), .val (.int j)]) rfl k) ?_
        show own_Fin _ _ _ _ _ _ _ T7_ (mkF m 26 #[.val (.ref a), .val (.int (j + (1 : Int32))), .val (.int N), .val (.ref t), .val (.int j)] [])
        refine own_via (fun _ k => XS.iinc X7_.here hx rfl (hb hby own_d_jdk_52_14_26) rfl (l' := #[.val (.ref a), .val (.int (j + (1 : Int32))), .val (.int N), .val (.ref t), .val (.int (j + (1 : Int32)))]) rfl k) ?_
        show own_Fin _ _ _ _ _ _ _ T7_ (mkF m 29 #[.val (.ref a), .val (.int (j + (1 : Int32))), .val (.int N), .val (.ref t), .val (.int (j + (1 : Int32)))] [])
        refine own_via (fun _ k => XS.goto X7_.here hx rfl (pc0 := 29) (pc' := 8) rfl (hb hby own_d_jdk_52_14_29) (by decide) (by decide) k) ?_
        show own_Fin _ _ _ _ _ _ _ T7_ (mkF m 8 #[.val (.ref a), .val (.int (j + (1 : Int32))), .val (.int N), .val (.ref t), .val (.int (j + (1 : Int32)))] [])
        exact ih (i + 1) (j + (1 : Int32)) ((ws.set (2 * i) (.int (own_lo (cs.getD i 0)))).set (2 * i + 1) (.int (own_hi (cs.getD i 0)))) T7_ _ X7_ N7_ _ rfl (Kl.trans K7_ (allS (Or.inr szt) all0)) (Ol.keep K7_ (allS g5_ all0)) (Vl.keep K7_ (ninS q4_ nin0)) r8_ (own_succ hj) (by omega) (by omega) (by rw [List.length_set, List.length_set]; exact hwl) (own_set2 hh_ (by omega))
      · refine own_via (fun _ k => XS.icmpYes Xl.here hx rfl (pc0 := 11) (pc' := 32) rfl (hb hby own_d_jdk_52_14_11) rfl (flt hg).2.1 (by decide) (by decide) k) ?_
        show own_Fin _ _ _ _ _ _ _ Tl (mkF m 32 #[.val (.ref a), .val (.int j), .val (.int N), .val (.ref t), .val (.int j)] [])
        have hge : cs.length ≤ i := Nat.le_of_not_lt fun q => hg ((own_ltN hj hN (by omega) (by omega)).mpr q)
        refine own_via (fun _ k => XS.aloadN Xl.here hx rfl (hb hby own_d_jdk_52_14_32) rfl rfl k) ?_
        show own_Fin _ _ _ _ _ _ _ Tl (mkF m 33 #[.val (.ref a), .val (.int j), .val (.int N), .val (.ref t), .val (.int j)] [(.ref t)])
        exact own_retA Xl hx Bd.returns Bd.notSynchronized rfl rfl (hb hby own_d_jdk_52_14_33) el ⟨t, kt, ws, rfl, Nl, Kl, szt, Vm, (fun q hq => hh_ q (by omega))⟩ (by decide) (by decide)
  exact lp cs.length 0 (0 : Int32) (List.replicate (2 * cs.length) (.int 0)) T1_ _ X1_ N1_ _ rfl ((Keep.refl h0 []).trans K1_ all0) (O0.keep K1_ all0) (Vc.keep K1_ nin0) r3_ rfl (by omega) (by omega) List.length_replicate (fun q hq => absurd hq (Nat.not_lt_zero q))
theorem own_d_jdk_52_16_0 : decode jdk_52_method_16_code 0 = .ok (.iload_n 2, 1) := by decide +kernel
theorem own_d_jdk_52_16_1 : decode jdk_52_method_16_code 1 = .ok (.newarray .byte, 2) := by decide +kernel
theorem own_d_jdk_52_16_3 : decode jdk_52_method_16_code 3 = .ok (.astore_n 3, 1) := by decide +kernel
theorem own_d_jdk_52_16_4 : decode jdk_52_method_16_code 4 = .ok (.aload_n 0, 1) := by decide +kernel
theorem own_d_jdk_52_16_5 : decode jdk_52_method_16_code 5 = .ok (.iload_n 1, 1) := by decide +kernel
theorem own_d_jdk_52_16_6 : decode jdk_52_method_16_code 6 = .ok (.aload_n 3, 1) := by decide +kernel
theorem own_d_jdk_52_16_7 : decode jdk_52_method_16_code 7 = .ok (.iconst 0, 1) := by decide +kernel
theorem own_d_jdk_52_16_8 : decode jdk_52_method_16_code 8 = .ok (.iload_n 2, 1) := by decide +kernel
theorem own_d_jdk_52_16_9 : decode jdk_52_method_16_code 9 = .ok (.invokestatic 115, 3) := by decide +kernel
theorem own_pd10 : parseMethodDescriptor "([CI[BII)I" = some ⟨[(.array .char), .int, (.array .byte), .int, .int], some .int⟩ := by decide +kernel
theorem own_d_jdk_52_16_12 : decode jdk_52_method_16_code 12 = .ok (.istore 4, 2) := by decide +kernel
theorem own_d_jdk_52_16_14 : decode jdk_52_method_16_code 14 = .ok (.iload 4, 2) := by decide +kernel
theorem own_d_jdk_52_16_16 : decode jdk_52_method_16_code 16 = .ok (.iload_n 2, 1) := by decide +kernel
theorem own_d_jdk_52_16_17 : decode jdk_52_method_16_code 17 = .ok (.if_icmp .eq 40, 3) := by decide +kernel
theorem own_d_jdk_52_16_57 : decode jdk_52_method_16_code 57 = .ok (.aload_n 3, 1) := by decide +kernel
theorem own_d_jdk_52_16_58 : decode jdk_52_method_16_code 58 = .ok (.areturn, 1) := by decide +kernel
theorem own_d_jdk_52_16_20 : decode jdk_52_method_16_code 20 = .ok (.aload_n 0, 1) := by decide +kernel
theorem own_d_jdk_52_16_21 : decode jdk_52_method_16_code 21 = .ok (.iload_n 1, 1) := by decide +kernel
theorem own_d_jdk_52_16_22 : decode jdk_52_method_16_code 22 = .ok (.iload_n 2, 1) := by decide +kernel
theorem own_d_jdk_52_16_23 : decode jdk_52_method_16_code 23 = .ok (.invokestatic 119, 3) := by decide +kernel
theorem own_pd11 : parseMethodDescriptor "([CII)[B" = some ⟨[(.array .char), .int, .int], some (.array .byte)⟩ := by decide +kernel
theorem own_d_jdk_52_16_26 : decode jdk_52_method_16_code 26 = .ok (.astore 5, 2) := by decide +kernel
theorem own_d_jdk_52_16_28 : decode jdk_52_method_16_code 28 = .ok (.aload 5, 2) := by decide +kernel
theorem own_d_jdk_52_16_30 : decode jdk_52_method_16_code 30 = .ok (.iload 4, 2) := by decide +kernel
theorem own_d_jdk_52_16_32 : decode jdk_52_method_16_code 32 = .ok (.invokestatic 71, 3) := by decide +kernel
theorem own_d_jdk_52_16_35 : decode jdk_52_method_16_code 35 = .ok (.sipush 255, 3) := by decide +kernel
theorem own_d_jdk_52_16_38 : decode jdk_52_method_16_code 38 = .ok (.if_icmp .gt 16, 3) := by decide +kernel
theorem own_d_jdk_52_16_54 : decode jdk_52_method_16_code 54 = .ok (.aload 5, 2) := by decide +kernel
theorem own_d_jdk_52_16_56 : decode jdk_52_method_16_code 56 = .ok (.areturn, 1) := by decide +kernel
theorem own_ef_cmp3 (m : MethodId) (a : Addr) (N : Int32) : entryFrame m #[(.ref a), (.int (0 : Int32)), (.int N)] 6 = mkF m 0 #[.val (.ref a), .val (.int (0 : Int32)), .val (.int N), .unset, .unset, .unset] [] := by (first | (simp [entryFrame, mkF, argsToLocals, Value.category]; done) | rfl)
def own_Q_cmp3 (Z : State) (a : Addr) (ka : ClassId) (N : Int32) (cs : List Int32) (h0 : Heap) (n0 : Nat) (vq : Option Value) (h : Heap) (Lq : List Loc) : Prop := ∃ (t : Addr) (kt : ClassId) (cd : Int32) (N2 : Int32) (vs : List Value), (vq = some (.ref t)) ∧ (Fr n0 Lq) ∧ (Keep h0 h []) ∧ (h0.size ≤ t) ∧ (Arv Z h t kt .byte N2 vs (.int 0)) ∧ (own_cod cs cd N2 vs)
set_option maxRecDepth 65536 in
set_option maxHeartbeats 40000000 in
theorem own_rm_cmp3 (l : Launch) (Z : State) (a0 : Array Value) (hw : ∀ d ∈ tables_1, d.before a0 Z = true) (wsq : List Jvm.Cond) (a : Addr) (ka : ClassId) (N : Int32) (cs : List Int32) (h0 : Heap) (n0 : Nat) (Z0 : n0 ≤ h0.size) (O0 : Old Z n0 h0) (S3 : Sta Z Z.heap "java/lang/StringUTF16" "$assertionsDisabled" "Z" (.int (1 : Int32))) (S4 : Sta Z Z.heap "java/lang/StringUTF16" "HI_BYTE_SHIFT" "I" (.int (0 : Int32))) (S5 : Sta Z Z.heap "java/lang/StringUTF16" "LO_BYTE_SHIFT" "I" (.int (8 : Int32))) (Vc : Arv Z h0 a ka .char N (cs.map Value.int) (.int 0)) (hN : N = Int32.ofNat cs.length) (hn : cs.length ≤ 4) (hp : 0 < cs.length) (hr : own_chs cs) :
    MetFree l (⟨"java/lang/StringUTF16", "compress", "([CII)[B"⟩ : MethodName) (head1 (Jvm.Cond.code (⟨"java/lang/StringUTF16", "compress", "([CII)[B"⟩ : MethodName) jdk_52_method_16_code 6 (some (.array .byte)) :: wsq) ({ frames := 3, cells := 2, slots := 12, locals := 40 } : Room)) (fun aq Uq => aq = #[(.ref a), (.int (0 : Int32)), (.int N)] ∧ Z.Warmed39 Uq.vm ∧ Uq.heap = h0) (fun _ _ _ _ _ => True) (fun _ Uq oq Uq' => ∃ vq Lq, oq = .returned vq ∧ own_Q_cmp3 Z a ka N cs h0 n0 vq Uq'.heap Lq ∧ FrameEnd Uq oq Uq' Lq ({ frames := 3, cells := 2, slots := 12, locals := 40 } : Room).cells ({ frames := 3, cells := 2, slots := 12, locals := 40 } : Room).slots) := by
  refine MetFree.of_bodySF (plainFor_of_name own_pn3) hisR ?_
  intro p e s m args below meth cde s₁ Bd hml0 hP hK
  obtain ⟨rfl, hZ, hh⟩ := hP
  have hx := Bd.exec
  have hby := Bd.bytes
  have hml : cde.maxLocals = 6 := hml0
  have hown : s.vm.findClass "java/lang/StringUTF16" = some m.cls := findClass_of_methodNamed Bd.named
  have hnm := (name_of_methodNamed Bd.named Bd.method).1
  have X0 : Stand p l e ({ frames := 3, cells := 2, slots := 12, locals := 40 } : Room) s m #[(.ref a), (.int (0 : Int32)), (.int N)] below meth cde s₁ [] 0 0 := Stand.of_body Bd
  have e0 : s₁.heap = h0 := by rw [← hh, Bd.state]; rfl
  have N0 := Fr.nil n0
  show own_Fin p e s below (own_Q_cmp3 Z a ka N cs h0 n0) ({ frames := 3, cells := 2, slots := 12, locals := 40 } : Room).cells ({ frames := 3, cells := 2, slots := 12, locals := 40 } : Room).slots s₁ (entryFrame m #[(.ref a), (.int (0 : Int32)), (.int N)] 6)
  rw [own_ef_cmp3 m a N]
  refine own_via (fun _ k => XS.iloadN X0.here hx rfl (hb hby own_d_jdk_52_16_0) rfl k) ?_
  show own_Fin _ _ _ _ _ _ _ s₁ (mkF m 1 #[.val (.ref a), .val (.int (0 : Int32)), .val (.int N), .unset, .unset, .unset] [(.int N)])
  obtain ⟨T1_, h1_, k1_, X1_, e1_, E1_, A1_, st1_⟩ := newP X0 hx hZ (hw _ (List.mem_of_getElem? (i := 26) rfl)) e0 (g := (mkF m 1 #[.val (.ref a), .val (.int (0 : Int32)), .val (.int N), .unset, .unset, .unset] [(.int N)])) rfl (hb hby own_d_jdk_52_16_1) rfl (own_nneg hN (by omega)) (cap := 4) (by rw [own_clamp hN (by omega)]; omega) (by decide) (by decide) (by decide)
  obtain ⟨b1_, g1_⟩ : ∃ z, z = h0.size := ⟨_, rfl⟩
  rw [← g1_] at A1_ st1_
  have V1_ : Arv Z h1_ b1_ k1_ .byte N (List.replicate cs.length (.int (0 : Int32))) (.int (0 : Int32)) := (Arv.new A1_ (own_nneg hN (by omega))).pad (pad_rep [] (.int (0 : Int32)) cs.length)
  refine own_via (fun _ k => st1_ _ k) ?_
  show own_Fin _ _ _ _ _ _ _ T1_ (mkF m 3 #[.val (.ref a), .val (.int (0 : Int32)), .val (.int N), .unset, .unset, .unset] [(.ref b1_)])
  refine own_via (fun _ k => XS.astoreN X1_.here hx rfl (hb hby own_d_jdk_52_16_3) rfl rfl (l' := #[.val (.ref a), .val (.int (0 : Int32)), .val (.int N), .val (.ref b1_), .unset, .unset]) rfl k) ?_
  show own_Fin _ _ _ _ _ _ _ T1_ (mkF m 4 #[.val (.ref a), .val (.int (0 : Int32)), .val (.int N), .val (.ref b1_), .unset, .unset] [])
  refine own_via (fun _ k => XS.aloadN X1_.here hx rfl (hb hby own_d_jdk_52_16_4) rfl rfl k) ?_
  show own_Fin _ _ _ _ _ _ _ T1_ (mkF m 5 #[.val (.ref a), .val (.int (0 : Int32)), .val (.int N), .val (.ref b1_), .unset, .unset] [(.ref a)])
  refine own_via (fun _ k => XS.iloadN X1_.here hx rfl (hb hby own_d_jdk_52_16_5) rfl k) ?_
  show own_Fin _ _ _ _ _ _ _ T1_ (mkF m 6 #[.val (.ref a), .val (.int (0 : Int32)), .val (.int N), .val (.ref b1_), .unset, .unset] [(.int (0 : Int32)), (.ref a)])
  refine own_via (fun _ k => XS.aloadN X1_.here hx rfl (hb hby own_d_jdk_52_16_6) rfl rfl k) ?_
  show own_Fin _ _ _ _ _ _ _ T1_ (mkF m 7 #[.val (.ref a), .val (.int (0 : Int32)), .val (.int N), .val (.ref b1_), .unset, .unset] [(.ref b1_), (.int (0 : Int32)), (.ref a)])
  refine own_via (fun _ k => XS.iconst X1_.here hx rfl (hb hby own_d_jdk_52_16_7) k) ?_
  show own_Fin _ _ _ _ _ _ _ T1_ (mkF m 8 #[.val (.ref a), .val (.int (0 : Int32)), .val (.int N), .val (.ref b1_), .unset, .unset] [(.int (0 : Int32)), (.ref b1_), (.int (0 : Int32)), (.ref a)])
  refine own_via (fun _ k => XS.iloadN X1_.here hx rfl (hb hby own_d_jdk_52_16_8) rfl k) ?_
  show own_Fin _ _ _ _ _ _ _ T1_ (mkF m 9 #[.val (.ref a), .val (.int (0 : Int32)), .val (.int N), .val (.ref b1_), .unset, .unset] [(.int N), (.int (0 : Int32)), (.ref b1_), (.int (0 : Int32)), (.ref a)])
  have q2_ : a ≠ b1_ := Nat.ne_of_lt (Nat.lt_of_lt_of_le Vc.lt (Nat.le_of_eq g1_.symm))
  have g4_ : n0 ≤ b1_ := Nat.le_trans Z0 (Nat.le_of_eq g1_.symm)
  obtain ⟨_, _, ⟨T3_, L3_, k3_, n3_⟩, -, X3_, ⟨Lc3_, hQ3_, l3_, y3_, z3_⟩, st3_⟩ := Jvm.LawKit.callS X1_ hx (y := (⟨"java/lang/StringUTF16", "compress", "([CI[BII)I"⟩ : MethodName)) hown (mvT hZ (hw _ (List.mem_of_getElem? (i := 73) rfl))) (mvT hZ (hw _ (List.mem_of_getElem? (i := 74) rfl))) (mvT hZ (hw _ (List.mem_of_getElem? (i := 71) rfl))) (mvT hZ (hw _ (List.mem_of_getElem? (i := 75) rfl))) (by decide) (backOf (W := 0) (own_rm_cmp5 l Z a0 hw [] a ka N cs b1_ k1_ (List.replicate cs.length (.int (0 : Int32))) h1_ n0 (Nat.le_trans Z0 E1_.1) (Vc.ext E1_) V1_ g4_ q2_ List.length_replicate hN hn hp hr) hZ (hw _ (List.mem_of_getElem? (i := 75) rfl)) (hw _ (List.mem_of_getElem? (i := 71) rfl)) (by decide) (by decide)) (g := (mkF m 9 #[.val (.ref a), .val (.int (0 : Int32)), .val (.int N), .val (.ref b1_), .unset, .unset] [(.int N), (.int (0 : Int32)), (.ref b1_), (.int (0 : Int32)), (.ref a)])) rfl (by rw [hml]; rfl) (argsL := [(.ref a), (.int (0 : Int32)), (.ref b1_), (.int (0 : Int32)), (.int N)]) (rest := []) (lenOf own_pd10 rfl) rfl (by show 2 * 0 + _ ≤ _; exact Nat.le_of_eq rfl) (hb hby own_d_jdk_52_16_9) (fun _ _ => ⟨rfl, e1_, (by decide : 0 + 1 + 0 ≤ _), (by decide : 0 + 4 + 0 ≤ _)⟩)
  dsimp only [Pt.U, Pt.locs, Pt.cells, Pt.slots] at X3_ l3_ y3_ z3_ st3_ hQ3_
  subst l3_ y3_ z3_
  obtain ⟨r, ws, rfl, Nq3_, K3_, r5_, hx_⟩ := hQ3_
  have N3_ := Fr.app N0 Nq3_
  refine own_via (fun _ k => st3_ _ k) ?_
  show own_Fin _ _ _ _ _ _ _ T3_ (mkF m 12 #[.val (.ref a), .val (.int (0 : Int32)), .val (.int N), .val (.ref b1_), .unset, .unset] [(.int r)])
  refine own_via (fun _ k => XS.istore X3_.here hx rfl (hb hby own_d_jdk_52_16_12) rfl (l' := #[.val (.ref a), .val (.int (0 : Int32)), .val (.int N), .val (.ref b1_), .val (.int r), .unset]) rfl k) ?_
  show own_Fin _ _ _ _ _ _ _ T3_ (mkF m 14 #[.val (.ref a), .val (.int (0 : Int32)), .val (.int N), .val (.ref b1_), .val (.int r), .unset] [])
  refine own_via (fun _ k => XS.iload X3_.here hx rfl (hb hby own_d_jdk_52_16_14) rfl k) ?_
  show own_Fin _ _ _ _ _ _ _ T3_ (mkF m 16 #[.val (.ref a), .val (.int (0 : Int32)), .val (.int N), .val (.ref b1_), .val (.int r), .unset] [(.int r)])
  refine own_via (fun _ k => XS.iloadN X3_.here hx rfl (hb hby own_d_jdk_52_16_16) rfl k) ?_
  show own_Fin _ _ _ _ _ _ _ T3_ (mkF m 17 #[.val (.ref a), .val (.int (0 : Int32)), .val (.int N), .val (.ref b1_), .val (.int r), .unset] [(.int N), (.int r)])
  rcases hx_ with ⟨hrN, hA⟩ | ⟨i, hi, hri, h255⟩
  · refine own_via (fun _ k => XS.icmpYes X3_.here hx rfl (pc0 := 17) (pc' := 57) rfl (hb hby own_d_jdk_52_16_17) rfl (teq hrN).1 (by decide) (by decide) k) ?_
    show own_Fin _ _ _ _ _ _ _ T3_ (mkF m 57 #[.val (.ref a), .val (.int (0 : Int32)), .val (.int N), .val (.ref b1_), .val (.int r), .unset] [])
    refine own_via (fun _ k => XS.aloadN X3_.here hx rfl (hb hby own_d_jdk_52_16_57) rfl rfl k) ?_
    show own_Fin _ _ _ _ _ _ _ T3_ (mkF m 58 #[.val (.ref a), .val (.int (0 : Int32)), .val (.int N), .val (.ref b1_), .val (.int r), .unset] [(.ref b1_)])
    exact own_retA X3_ hx Bd.returns Bd.notSynchronized rfl rfl (hb hby own_d_jdk_52_16_58) rfl ⟨b1_, k1_, (0 : Int32), N, ws, rfl, N3_, (((Keep.refl h0 []).ext E1_).trans K3_ (allS (Or.inr (Nat.le_of_eq g1_.symm)) all0)), (Nat.le_of_eq g1_.symm), r5_, (Or.inl ⟨rfl, hN, hA⟩)⟩ (by decide) (by decide)
  · refine own_via (fun _ k => XS.icmpNo X3_.here hx rfl (hb hby own_d_jdk_52_16_17) rfl (feq (own_ofne hri hN hi (by omega))).1 k) ?_
    show own_Fin _ _ _ _ _ _ _ T3_ (mkF m 20 #[.val (.ref a), .val (.int (0 : Int32)), .val (.int N), .val (.ref b1_), .val (.int r), .unset] [])
    refine own_via (fun _ k => XS.aloadN X3_.here hx rfl (hb hby own_d_jdk_52_16_20) rfl rfl k) ?_
    show own_Fin _ _ _ _ _ _ _ T3_ (mkF m 21 #[.val (.ref a), .val (.int (0 : Int32)), .val (.int N), .val (.ref b1_), .val (.int r), .unset] [(.ref a)])
    refine own_via (fun _ k => XS.iloadN X3_.here hx rfl (hb hby own_d_jdk_52_16_21) rfl k) ?_
    show own_Fin _ _ _ _ _ _ _ T3_ (mkF m 22 #[.val (.ref a), .val (.int (0 : Int32)), .val (.int N), .val (.ref b1_), .val (.int r), .unset] [(.int (0 : Int32)), (.ref a)])
    refine own_via (fun _ k => XS.iloadN X3_.here hx rfl (hb hby own_d_jdk_52_16_22) rfl k) ?_
    show own_Fin _ _ _ _ _ _ _ T3_ (mkF m 23 #[.val (.ref a), .val (.int (0 : Int32)), .val (.int N), .val (.ref b1_), .val (.int r), .unset] [(.int N), (.int (0 : Int32)), (.ref a)])
    obtain ⟨_, _, ⟨T6_, L6_, k6_, n6_⟩, -, X6_, ⟨Lc6_, hQ6_, l6_, y6_, z6_⟩, st6_⟩ := Jvm.LawKit.callS X3_ hx (y := (⟨"java/lang/StringUTF16", "toBytes", "([CII)[B"⟩ : MethodName)) hown (mvT hZ (hw _ (List.mem_of_getElem? (i := 76) rfl))) (mvT hZ (hw _ (List.mem_of_getElem? (i := 77) rfl))) (mvT hZ (hw _ (List.mem_of_getElem? (i := 71) rfl))) (mvT hZ (hw _ (List.mem_of_getElem? (i := 78) rfl))) (by decide) (backOf (W := 0) (own_rm_toBy l Z a0 hw [] a ka N cs T3_.heap n0 (Nat.le_trans Z0 (Nat.le_trans E1_.1 K3_.1)) ((O0.ext E1_).keep K3_ (allS g4_ all0)) S3 S4 S5 ((Vc.ext E1_).keep K3_ (ninS q2_ nin0)) hN hn hp hr) hZ (hw _ (List.mem_of_getElem? (i := 78) rfl)) (hw _ (List.mem_of_getElem? (i := 71) rfl)) (by decide) (by decide)) (g := (mkF m 23 #[.val (.ref a), .val (.int (0 : Int32)), .val (.int N), .val (.ref b1_), .val (.int r), .unset] [(.int N), (.int (0 : Int32)), (.ref a)])) rfl (by rw [hml]; rfl) (argsL := [(.ref a), (.int (0 : Int32)), (.int N)]) (rest := []) (lenOf own_pd11 rfl) rfl (by show 2 * 0 + _ ≤ _; exact Nat.le_of_eq rfl) (hb hby own_d_jdk_52_16_23) (fun _ _ => ⟨rfl, rfl, (by decide : 0 + 1 + 0 + 1 ≤ _), (by decide : 0 + 4 + 0 + 8 ≤ _)⟩)
    dsimp only [Pt.U, Pt.locs, Pt.cells, Pt.slots] at X6_ l6_ y6_ z6_ st6_ hQ6_
    subst l6_ y6_ z6_
    obtain ⟨t, kt, ws2, rfl, Nq6_, K6_, r7_, r8_, hw2⟩ := hQ6_
    have N6_ := Fr.app N3_ Nq6_
    refine own_via (fun _ k => st6_ _ k) ?_
    show own_Fin _ _ _ _ _ _ _ T6_ (mkF m 26 #[.val (.ref a), .val (.int (0 : Int32)), .val (.int N), .val (.ref b1_), .val (.int r), .unset] [(.ref t)])
    refine own_via (fun _ k => XS.astore X6_.here hx rfl (hb hby own_d_jdk_52_16_26) rfl rfl (l' := #[.val (.ref a), .val (.int (0 : Int32)), .val (.int N), .val (.ref b1_), .val (.int r), .val (.ref t)]) rfl k) ?_
    show own_Fin _ _ _ _ _ _ _ T6_ (mkF m 28 #[.val (.ref a), .val (.int (0 : Int32)), .val (.int N), .val (.ref b1_), .val (.int r), .val (.ref t)] [])
    refine own_via (fun _ k => XS.aload X6_.here hx rfl (hb hby own_d_jdk_52_16_28) rfl rfl k) ?_
    show own_Fin _ _ _ _ _ _ _ T6_ (mkF m 30 #[.val (.ref a), .val (.int (0 : Int32)), .val (.int N), .val (.ref b1_), .val (.int r), .val (.ref t)] [(.ref t)])
    refine own_via (fun _ k => XS.iload X6_.here hx rfl (hb hby own_d_jdk_52_16_30) rfl k) ?_
    show own_Fin _ _ _ _ _ _ _ T6_ (mkF m 32 #[.val (.ref a), .val (.int (0 : Int32)), .val (.int N), .val (.ref b1_), .val (.int r), .val (.ref t)] [(.int r), (.ref t)])
    obtain ⟨_, _, ⟨T9_, L9_, k9_, n9_⟩, -, X9_, ⟨Lc9_, hQ9_, l9_, y9_, z9_⟩, st9_⟩ := Jvm.LawKit.callS X6_ hx (y := (⟨"java/lang/StringUTF16", "getChar", "([BI)C"⟩ : MethodName)) hown (mvT hZ (hw _ (List.mem_of_getElem? (i := 92) rfl))) (mvT hZ (hw _ (List.mem_of_getElem? (i := 93) rfl))) (mvT hZ (hw _ (List.mem_of_getElem? (i := 71) rfl))) (mvT hZ (hw _ (List.mem_of_getElem? (i := 94) rfl))) (by decide) (backOf (W := 0) (own_rm_getCh l Z a0 hw [] t kt (Int32.ofNat (2 * cs.length)) ws2 (cs.getD i 0) r i cs.length T6_.heap n0 (Nat.le_trans Z0 (Nat.le_trans (Nat.le_trans E1_.1 K3_.1) K6_.1)) (((O0.ext E1_).keep K3_ (allS g4_ all0)).keep K6_ all0) S3 S4 S5 r8_ hri hi (by omega) rfl (hw2 i hi).1 (hw2 i hi).2 (hr i)) hZ (hw _ (List.mem_of_getElem? (i := 94) rfl)) (hw _ (List.mem_of_getElem? (i := 71) rfl)) (by decide) (by decide)) (g := (mkF m 32 #[.val (.ref a), .val (.int (0 : Int32)), .val (.int N), .val (.ref b1_), .val (.int r), .val (.ref t)] [(.int r), (.ref t)])) rfl (by rw [hml]; rfl) (argsL := [(.ref t), (.int r)]) (rest := []) (lenOf own_pd5 rfl) rfl (by show 2 * 0 + _ ≤ _; exact Nat.le_of_eq rfl) (hb hby own_d_jdk_52_16_32) (fun _ _ => ⟨rfl, rfl, (by decide : 0 + 1 + 0 + 1 + 0 ≤ _), (by decide : 0 + 4 + 0 + 8 + 0 ≤ _)⟩)
    dsimp only [Pt.U, Pt.locs, Pt.cells, Pt.slots] at X9_ l9_ y9_ z9_ st9_ hQ9_
    subst l9_ y9_ z9_
    obtain ⟨rfl, Nq9_, hh9_⟩ := hQ9_
    have N9_ := Fr.app N6_ Nq9_
    refine own_via (fun _ k => st9_ _ k) ?_
    show own_Fin _ _ _ _ _ _ _ T9_ (mkF m 35 #[.val (.ref a), .val (.int (0 : Int32)), .val (.int N), .val (.ref b1_), .val (.int r), .val (.ref t)] [(.int (cs.getD i 0))])
    refine own_via (fun _ k => XS.sipush X9_.here hx rfl (hb hby own_d_jdk_52_16_35) k) ?_
    show own_Fin _ _ _ _ _ _ _ T9_ (mkF m 38 #[.val (.ref a), .val (.int (0 : Int32)), .val (.int N), .val (.ref b1_), .val (.int r), .val (.ref t)] [(.int (255 : Int32)), (.int (cs.getD i 0))])
    refine own_via (fun _ k => XS.icmpYes X9_.here hx rfl (pc0 := 38) (pc' := 54) rfl (hb hby own_d_jdk_52_16_38) rfl (tlt h255).2.2.1 (by decide) (by decide) k) ?_
    show own_Fin _ _ _ _ _ _ _ T9_ (mkF m 54 #[.val (.ref a), .val (.int (0 : Int32)), .val (.int N), .val (.ref b1_), .val (.int r), .val (.ref t)] [])
    refine own_via (fun _ k => XS.aload X9_.here hx rfl (hb hby own_d_jdk_52_16_54) rfl rfl k) ?_
    show own_Fin _ _ _ _ _ _ _ T9_ (mkF m 56 #[.val (.ref a), .val (.int (0 : Int32)), .val (.int N), .val (.ref b1_), .val (.int r), .val (.ref t)] [(.ref t)])
    exact own_retA X9_ hx Bd.returns Bd.notSynchronized rfl rfl (hb hby own_d_jdk_52_16_56) hh9_ ⟨t, kt, (1 : Int32), (Int32.ofNat (2 * cs.length)), ws2, rfl, N9_, ((((Keep.refl h0 []).ext E1_).trans K3_ (allS (Or.inr (Nat.le_of_eq g1_.symm)) all0)).trans K6_ all0), (Nat.le_trans (Nat.le_trans E1_.1 K3_.1) r7_), r8_, (Or.inr ⟨rfl, rfl, hw2, i, hi, h255⟩)⟩ (by decide) (by decide)
theorem own_d_jdk_52_15_0 : decode jdk_52_method_15_code 0 = .ok (.iload_n 1, 1) := by decide +kernel
theorem own_d_jdk_52_15_1 : decode jdk_52_method_15_code 1 = .ok (.aload_n 0, 1) := by decide +kernel
theorem own_d_jdk_52_15_2 : decode jdk_52_method_15_code 2 = .ok (.arraylength, 1) := by decide +kernel
theorem own_d_jdk_52_15_3 : decode jdk_52_method_15_code 3 = .ok (.isub, 1) := by decide +kernel
theorem own_d_jdk_52_15_4 : decode jdk_52_method_15_code 4 = .ok (.bipush 31, 2) := by decide +kernel
theorem own_d_jdk_52_15_6 : decode jdk_52_method_15_code 6 = .ok (.iushr, 1) := by decide +kernel
theorem own_d_jdk_52_15_7 : decode jdk_52_method_15_code 7 = .ok (.i2b, 1) := by decide +kernel
theorem own_d_jdk_52_15_8 : decode jdk_52_method_15_code 8 = .ok (.ireturn, 1) := by decide +kernel
theorem own_ef_cfl (m : MethodId) (t : Addr) (N : Int32) : entryFrame m #[(.ref t), (.int N)] 2 = mkF m 0 #[.val (.ref t), .val (.int N)] [] := by (first | (simp [entryFrame, mkF, argsToLocals, Value.category]; done) | rfl)
def own_Q_cfl (Z : State) (t : Addr) (kt : ClassId) (N2 : Int32) (vs : List Value) (N : Int32) (cd : Int32) (cs : List Int32) (h0 : Heap) (n0 : Nat) (vq : Option Value) (h : Heap) (Lq : List Loc) : Prop := (vq = some (.int cd)) ∧ (Fr n0 Lq) ∧ (h = h0)
set_option maxRecDepth 65536 in
set_option maxHeartbeats 40000000 in
theorem own_rm_cfl (l : Launch) (Z : State) (a0 : Array Value) (hw : ∀ d ∈ tables_1, d.before a0 Z = true) (wsq : List Jvm.Cond) (t : Addr) (kt : ClassId) (N2 : Int32) (vs : List Value) (N : Int32) (cd : Int32) (cs : List Int32) (h0 : Heap) (n0 : Nat) (Z0 : n0 ≤ h0.size) (Va : Arv Z h0 t kt .byte N2 vs (.int 0)) (hc : own_cod cs cd N2 vs) (hN : N = Int32.ofNat cs.length) (hn : cs.length ≤ 4) (hp : 0 < cs.length) :
    MetFree l (⟨"java/lang/StringUTF16", "coderFromArrayLen", "([BI)B"⟩ : MethodName) (head1 (Jvm.Cond.code (⟨"java/lang/StringUTF16", "coderFromArrayLen", "([BI)B"⟩ : MethodName) jdk_52_method_15_code 2 (some .byte) :: wsq) ({ frames := 0, cells := 0, slots := 0, locals := 0 } : Room)) (fun aq Uq => aq = #[(.ref t), (.int N)] ∧ Z.Warmed39 Uq.vm ∧ Uq.heap = h0) (fun _ _ _ _ _ => True) (fun _ Uq oq Uq' => ∃ vq Lq, oq = .returned vq ∧ own_Q_cfl Z t kt N2 vs N cd cs h0 n0 vq Uq'.heap Lq ∧ FrameEnd Uq oq Uq' Lq ({ frames := 0, cells := 0, slots := 0, locals := 0 } : Room).cells ({ frames := 0, cells := 0, slots := 0, locals := 0 } : Room).slots) := by
  refine MetFree.of_bodySF (plainFor_of_name own_pn3) hisR ?_
  intro p e s m args below meth cde s₁ Bd hml0 hP hK
  obtain ⟨rfl, hZ, hh⟩ := hP
  have hx := Bd.exec
  have hby := Bd.bytes
  have hml : cde.maxLocals = 2 := hml0
  have hown : s.vm.findClass "java/lang/StringUTF16" = some m.cls := findClass_of_methodNamed Bd.named
  have hnm := (name_of_methodNamed Bd.named Bd.method).1
  have X0 : Stand p l e ({ frames := 0, cells := 0, slots := 0, locals := 0 } : Room) s m #[(.ref t), (.int N)] below meth cde s₁ [] 0 0 := Stand.of_body Bd
  have e0 : s₁.heap = h0 := by rw [← hh, Bd.state]; rfl
  have N0 := Fr.nil n0
  show own_Fin p e s below (own_Q_cfl Z t kt N2 vs N cd cs h0 n0) ({ frames := 0, cells := 0, slots := 0, locals := 0 } : Room).cells ({ frames := 0, cells := 0, slots := 0, locals := 0 } : Room).slots s₁ (entryFrame m #[(.ref t), (.int N)] 2)
  rw [own_ef_cfl m t N]
  refine own_via (fun _ k => XS.iloadN X0.here hx rfl (hb hby own_d_jdk_52_15_0) rfl k) ?_
  show own_Fin _ _ _ _ _ _ _ s₁ (mkF m 1 #[.val (.ref t), .val (.int N)] [(.int N)])
  refine own_via (fun _ k => XS.aloadN X0.here hx rfl (hb hby own_d_jdk_52_15_1) rfl rfl k) ?_
  show own_Fin _ _ _ _ _ _ _ s₁ (mkF m 2 #[.val (.ref t), .val (.int N)] [(.ref t), (.int N)])
  obtain ⟨c1_, Ar1_, -, S1_, M1_, -, -⟩ := (id Va)
  refine own_via (fun _ k => X0.arraylength hx (own_eq e0 Ar1_.1) (State.isArrayOf_alike hZ.alike Ar1_.2.1) (g := (mkF m 2 #[.val (.ref t), .val (.int N)] [(.ref t), (.int N)])) rfl rfl (hb hby own_d_jdk_52_15_2) _ (by rw [len_of S1_ M1_]; exact k)) ?_
  show own_Fin _ _ _ _ _ _ _ s₁ (mkF m 3 #[.val (.ref t), .val (.int N)] [(.int N2), (.int N)])
  refine own_via (fun _ k => XS.isub X0.here hx rfl (hb hby own_d_jdk_52_15_3) rfl k) ?_
  show own_Fin _ _ _ _ _ _ _ s₁ (mkF m 4 #[.val (.ref t), .val (.int N)] [(.int (N - N2))])
  refine own_via (fun _ k => XS.bipush X0.here hx rfl (hb hby own_d_jdk_52_15_4) k) ?_
  show own_Fin _ _ _ _ _ _ _ s₁ (mkF m 6 #[.val (.ref t), .val (.int N)] [(.int (31 : Int32)), (.int (N - N2))])
  refine own_via (fun _ k => XS.iushr X0.here hx rfl (hb hby own_d_jdk_52_15_6) rfl k) ?_
  show own_Fin _ _ _ _ _ _ _ s₁ (mkF m 7 #[.val (.ref t), .val (.int N)] [(.int (((N - N2).toUInt32 >>> ((31 : Int32) &&& 31).toUInt32).toInt32))])
  refine own_via (fun _ k => XS.i2b X0.here hx rfl (hb hby own_d_jdk_52_15_7) rfl k) ?_
  show own_Fin _ _ _ _ _ _ _ s₁ (mkF m 8 #[.val (.ref t), .val (.int N)] [(.int ((((N - N2).toUInt32 >>> ((31 : Int32) &&& 31).toUInt32).toInt32).toInt8.toInt32))])
  exact own_retN X0 hx (t := .byte) Bd.returns Bd.notSynchronized (by simp) (hb hby own_d_jdk_52_15_8) e0 (own_cfl hc hN (by omega) hp) ⟨rfl, N0, rfl⟩ (by decide) (by decide)
theorem own_d_jdk_42_149_0 : decode jdk_42_method_149_code 0 = .ok (.aload_n 0, 1) := by decide +kernel
theorem own_d_jdk_42_149_1 : decode jdk_42_method_149_code 1 = .ok (.invokespecial 1, 3) := by decide +kernel
theorem own_d_jdk_42_149_4 : decode jdk_42_method_149_code 4 = .ok (.iload_n 3, 1) := by decide +kernel
theorem own_d_jdk_42_149_5 : decode jdk_42_method_149_code 5 = .ok (.ifCond .ne 22, 3) := by decide +kernel
theorem own_d_jdk_42_149_27 : decode jdk_42_method_149_code 27 = .ok (.getstatic 38, 3) := by decide +kernel
theorem own_d_jdk_42_149_30 : decode jdk_42_method_149_code 30 = .ok (.ifCond .eq 28, 3) := by decide +kernel
theorem own_d_jdk_42_149_33 : decode jdk_42_method_149_code 33 = .ok (.aload_n 1, 1) := by decide +kernel
theorem own_d_jdk_42_149_34 : decode jdk_42_method_149_code 34 = .ok (.iload_n 2, 1) := by decide +kernel
theorem own_d_jdk_42_149_35 : decode jdk_42_method_149_code 35 = .ok (.iload_n 3, 1) := by decide +kernel
theorem own_d_jdk_42_149_36 : decode jdk_42_method_149_code 36 = .ok (.invokestatic 177, 3) := by decide +kernel
theorem own_d_jdk_42_149_39 : decode jdk_42_method_149_code 39 = .ok (.astore 5, 2) := by decide +kernel
theorem own_d_jdk_42_149_41 : decode jdk_42_method_149_code 41 = .ok (.aload_n 0, 1) := by decide +kernel
theorem own_d_jdk_42_149_42 : decode jdk_42_method_149_code 42 = .ok (.aload 5, 2) := by decide +kernel
theorem own_d_jdk_42_149_44 : decode jdk_42_method_149_code 44 = .ok (.iload_n 3, 1) := by decide +kernel
theorem own_d_jdk_42_149_45 : decode jdk_42_method_149_code 45 = .ok (.invokestatic 47, 3) := by decide +kernel
theorem own_pd12 : parseMethodDescriptor "([BI)B" = some ⟨[(.array .byte), .int], some .byte⟩ := by decide +kernel
theorem own_d_jdk_42_149_48 : decode jdk_42_method_149_code 48 = .ok (.putfield 15, 3) := by decide +kernel
theorem own_d_jdk_42_149_51 : decode jdk_42_method_149_code 51 = .ok (.aload_n 0, 1) := by decide +kernel
theorem own_d_jdk_42_149_52 : decode jdk_42_method_149_code 52 = .ok (.aload 5, 2) := by decide +kernel
theorem own_d_jdk_42_149_54 : decode jdk_42_method_149_code 54 = .ok (.putfield 9, 3) := by decide +kernel
theorem own_d_jdk_42_149_57 : decode jdk_42_method_149_code 57 = .ok (.return_, 1) := by decide +kernel
theorem own_ef_sInitW (m : MethodId) (a1 : Addr) (a : Addr) (N : Int32) : entryFrame m #[(.ref a1), (.ref a), (.int (0 : Int32)), (.int N), .null] 6 = mkF m 0 #[.val (.ref a1), .val (.ref a), .val (.int (0 : Int32)), .val (.int N), .val .null, .unset] [] := by (first | (simp [entryFrame, mkF, argsToLocals, Value.category]; done) | rfl)
def own_Q_sInitW (Z : State) (a1 : Addr) (cz : Int32) (u1 : Value) (u2 : Value) (a : Addr) (ka : ClassId) (N : Int32) (cs : List Int32) (h0 : Heap) (n0 : Nat) (vq : Option Value) (h : Heap) (Lq : List Loc) : Prop := ∃ (t : Addr) (kt : ClassId) (cd : Int32) (N2 : Int32) (vs : List Value), (vq = none) ∧ (Fr n0 Lq) ∧ (Keep h0 h [a1]) ∧ (Exa Z h a1 "java/lang/String") ∧ (Fld Z h a1 "java/lang/String" "coder" "B" (.int cd)) ∧ (Fld Z h a1 "java/lang/String" "value" "[B" (.ref t)) ∧ (h0.size ≤ t) ∧ (Arv Z h t kt .byte N2 vs (.int 0)) ∧ (own_cod cs cd N2 vs)
set_option maxRecDepth 65536 in
set_option maxHeartbeats 40000000 in
theorem own_rm_sInitW (l : Launch) (Z : State) (a0 : Array Value) (hw : ∀ d ∈ tables_1, d.before a0 Z = true) (wsq : List Jvm.Cond) (a1 : Addr) (cz : Int32) (u1 : Value) (u2 : Value) (a : Addr) (ka : ClassId) (N : Int32) (cs : List Int32) (h0 : Heap) (n0 : Nat) (Z0 : n0 ≤ h0.size) (O0 : Old Z n0 h0) (S1 : Sta Z Z.heap "java/lang/String" "COMPACT_STRINGS" "Z" (.int cz)) (P5 : ¬ cz = (0 : Int32)) (S3 : Sta Z Z.heap "java/lang/StringUTF16" "$assertionsDisabled" "Z" (.int (1 : Int32))) (S4 : Sta Z Z.heap "java/lang/StringUTF16" "HI_BYTE_SHIFT" "I" (.int (0 : Int32))) (S5 : Sta Z Z.heap "java/lang/StringUTF16" "LO_BYTE_SHIFT" "I" (.int (8 : Int32))) (E1 : Exa Z h0 a1 "java/lang/String") (F1 : Fld Z h0 a1 "java/lang/String" "value" "[B" u1) (F2 : Fld Z h0 a1 "java/lang/String" "coder" "B" u2) (g1 : n0 ≤ a1) (Vc : Arv Z h0 a ka .char N (cs.map Value.int) (.int 0)) (hN : N = Int32.ofNat cs.length) (hn : cs.length ≤ 4) (hp : 0 < cs.length) (hr : own_chs cs) :
    MetFree l (⟨"java/lang/String", "<init>", "([CIILjava/lang/Void;)V"⟩ : MethodName) (head1 (Jvm.Cond.code (⟨"java/lang/String", "<init>", "([CIILjava/lang/Void;)V"⟩ : MethodName) jdk_42_method_149_code 6 none :: wsq) ({ frames := 4, cells := 2, slots := 12, locals := 57 } : Room)) (fun aq Uq => aq = #[(.ref a1), (.ref a), (.int (0 : Int32)), (.int N), .null] ∧ Z.Warmed39 Uq.vm ∧ Uq.heap = h0) (fun _ _ _ _ _ => True) (fun _ Uq oq Uq' => ∃ vq Lq, oq = .returned vq ∧ own_Q_sInitW Z a1 cz u1 u2 a ka N cs h0 n0 vq Uq'.heap Lq ∧ FrameEnd Uq oq Uq' Lq ({ frames := 4, cells := 2, slots := 12, locals := 57 } : Room).cells ({ frames := 4, cells := 2, slots := 12, locals := 57 } : Room).slots) := by
  refine MetFree.of_bodySF (plainFor_of_name own_pn0) hisR ?_
  intro p e s m args below meth cde s₁ Bd hml0 hP hK
  obtain ⟨rfl, hZ, hh⟩ := hP
  have hx := Bd.exec
  have hby := Bd.bytes
  have hml : cde.maxLocals = 6 := hml0
  have hown : s.vm.findClass "java/lang/String" = some m.cls := findClass_of_methodNamed Bd.named
  have hnm := (name_of_methodNamed Bd.named Bd.method).1
  have X0 : Stand p l e ({ frames := 4, cells := 2, slots := 12, locals := 57 } : Room) s m #[(.ref a1), (.ref a), (.int (0 : Int32)), (.int N), .null] below meth cde s₁ [] 0 0 := Stand.of_body Bd
  have e0 : s₁.heap = h0 := by rw [← hh, Bd.state]; rfl
  have N0 := Fr.nil n0
  show own_Fin p e s below (own_Q_sInitW Z a1 cz u1 u2 a ka N cs h0 n0) ({ frames := 4, cells := 2, slots := 12, locals := 57 } : Room).cells ({ frames := 4, cells := 2, slots := 12, locals := 57 } : Room).slots s₁ (entryFrame m #[(.ref a1), (.ref a), (.int (0 : Int32)), (.int N), .null] 6)
  rw [own_ef_sInitW m a1 a N]
  refine own_via (fun _ k => XS.aloadN X0.here hx rfl (hb hby own_d_jdk_42_149_0) rfl rfl k) ?_
  show own_Fin _ _ _ _ _ _ _ s₁ (mkF m 1 #[.val (.ref a1), .val (.ref a), .val (.int (0 : Int32)), .val (.int N), .val .null, .unset] [(.ref a1)])
  obtain ⟨T1_, X1_, e1_, st1_⟩ := initO X0 hx hZ hown (hw _ (List.mem_of_getElem? (i := 22) rfl)) (hw _ (List.mem_of_getElem? (i := 23) rfl)) (hw _ (List.mem_of_getElem? (i := 24) rfl)) e0 (g := (mkF m 1 #[.val (.ref a1), .val (.ref a), .val (.int (0 : Int32)), .val (.int N), .val .null, .unset] [(.ref a1)])) rfl (by rw [hml]; rfl) rfl (hb hby own_d_jdk_42_149_1) (by decide) (W := 0) (by show 2 * 0 + _ ≤ _; exact Nat.le_of_eq rfl) (by decide)
  refine own_via (fun _ k => st1_ _ k) ?_
  show own_Fin _ _ _ _ _ _ _ T1_ (mkF m 4 #[.val (.ref a1), .val (.ref a), .val (.int (0 : Int32)), .val (.int N), .val .null, .unset] [])
  refine own_via (fun _ k => XS.iloadN X1_.here hx rfl (hb hby own_d_jdk_42_149_4) rfl k) ?_
  show own_Fin _ _ _ _ _ _ _ T1_ (mkF m 5 #[.val (.ref a1), .val (.ref a), .val (.int (0 : Int32)), .val (.int N), .val .null, .unset] [(.int N)])
  refine own_via (fun _ k => XS.ifYes X1_.here hx rfl (pc0 := 5) (pc' := 27) rfl (hb hby own_d_jdk_42_149_5) rfl ((if0 _ _).trans (feq (own_nz hN hp (by omega))).2) (by decide) (by decide) k) ?_
  show own_Fin _ _ _ _ _ _ _ T1_ (mkF m 27 #[.val (.ref a1), .val (.ref a), .val (.int (0 : Int32)), .val (.int N), .val .null, .unset] [])
  obtain ⟨T2_, X2_, e2_, st2_⟩ := getS2 X1_ hx hZ hown (host := "") (Or.inl (hw _ (List.mem_of_getElem? (i := 53) rfl))) Via.refl e1_ (S1.ext O0.2) (g := (mkF m 27 #[.val (.ref a1), .val (.ref a), .val (.int (0 : Int32)), .val (.int N), .val .null, .unset] [])) rfl (hb hby own_d_jdk_42_149_27)
  refine own_via (fun _ k => st2_ _ k) ?_
  show own_Fin _ _ _ _ _ _ _ T2_ (mkF m 30 #[.val (.ref a1), .val (.ref a), .val (.int (0 : Int32)), .val (.int N), .val .null, .unset] [(.int cz)])
  refine own_via (fun _ k => XS.ifNo X2_.here hx rfl (hb hby own_d_jdk_42_149_30) rfl ((if0 _ _).trans (feq P5).1) k) ?_
  show own_Fin _ _ _ _ _ _ _ T2_ (mkF m 33 #[.val (.ref a1), .val (.ref a), .val (.int (0 : Int32)), .val (.int N), .val .null, .unset] [])
  refine own_via (fun _ k => XS.aloadN X2_.here hx rfl (hb hby own_d_jdk_42_149_33) rfl rfl k) ?_
  show own_Fin _ _ _ _ _ _ _ T2_ (mkF m 34 #[.val (.ref a1), .val (.ref a), .val (.int (0 : Int32)), .val (.int N), .val .null, .unset] [(.ref a)])
  refine own_via (fun _ k => XS.iloadN X2_.here hx rfl (hb hby own_d_jdk_42_149_34) rfl k) ?_
  show own_Fin _ _ _ _ _ _ _ T2_ (mkF m 35 #[.val (.ref a1), .val (.ref a), .val (.int (0 : Int32)), .val (.int N), .val .null, .unset] [(.int (0 : Int32)), (.ref a)])
  refine own_via (fun _ k => XS.iloadN X2_.here hx rfl (hb hby own_d_jdk_42_149_35) rfl k) ?_
  show own_Fin _ _ _ _ _ _ _ T2_ (mkF m 36 #[.val (.ref a1), .val (.ref a), .val (.int (0 : Int32)), .val (.int N), .val .null, .unset] [(.int N), (.int (0 : Int32)), (.ref a)])
  obtain ⟨_, _, ⟨T3_, L3_, k3_, n3_⟩, -, X3_, ⟨Lc3_, hQ3_, l3_, y3_, z3_⟩, st3_⟩ := Jvm.LawKit.callS X2_ hx (y := (⟨"java/lang/StringUTF16", "compress", "([CII)[B"⟩ : MethodName)) hown (mvT hZ (hw _ (List.mem_of_getElem? (i := 69) rfl))) (mvT hZ (hw _ (List.mem_of_getElem? (i := 70) rfl))) (mvT hZ (hw _ (List.mem_of_getElem? (i := 71) rfl))) (mvT hZ (hw _ (List.mem_of_getElem? (i := 72) rfl))) (by decide) (backOf (W := 0) (own_rm_cmp3 l Z a0 hw [] a ka N cs h0 n0 Z0 O0 S3 S4 S5 Vc hN hn hp hr) hZ (hw _ (List.mem_of_getElem? (i := 72) rfl)) (hw _ (List.mem_of_getElem? (i := 71) rfl)) (by decide) (by decide)) (g := (mkF m 36 #[.val (.ref a1), .val (.ref a), .val (.int (0 : Int32)), .val (.int N), .val .null, .unset] [(.int N), (.int (0 : Int32)), (.ref a)])) rfl (by rw [hml]; rfl) (argsL := [(.ref a), (.int (0 : Int32)), (.int N)]) (rest := []) (lenOf own_pd11 rfl) rfl (by show 2 * 0 + _ ≤ _; exact Nat.le_of_eq rfl) (hb hby own_d_jdk_42_149_36) (fun _ _ => ⟨rfl, e2_, (by decide : 0 + 2 ≤ _), (by decide : 0 + 12 ≤ _)⟩)
  dsimp only [Pt.U, Pt.locs, Pt.cells, Pt.slots] at X3_ l3_ y3_ z3_ st3_ hQ3_
  subst l3_ y3_ z3_
  obtain ⟨t, kt, cd, N2, vs, rfl, Nq3_, K3_, r4_, r5_, hcod⟩ := hQ3_
  have N3_ := Fr.app N0 Nq3_
  refine own_via (fun _ k => st3_ _ k) ?_
  show own_Fin _ _ _ _ _ _ _ T3_ (mkF m 39 #[.val (.ref a1), .val (.ref a), .val (.int (0 : Int32)), .val (.int N), .val .null, .unset] [(.ref t)])
  refine own_via (fun _ k => XS.astore X3_.here hx rfl (hb hby own_d_jdk_42_149_39) rfl rfl (l' := #[.val (.ref a1), .val (.ref a), .val (.int (0 : Int32)), .val (.int N), .val .null, .val (.ref t)]) rfl k) ?_
  show own_Fin _ _ _ _ _ _ _ T3_ (mkF m 41 #[.val (.ref a1), .val (.ref a), .val (.int (0 : Int32)), .val (.int N), .val .null, .val (.ref t)] [])
  refine own_via (fun _ k => XS.aloadN X3_.here hx rfl (hb hby own_d_jdk_42_149_41) rfl rfl k) ?_
  show own_Fin _ _ _ _ _ _ _ T3_ (mkF m 42 #[.val (.ref a1), .val (.ref a), .val (.int (0 : Int32)), .val (.int N), .val .null, .val (.ref t)] [(.ref a1)])
  refine own_via (fun _ k => XS.aload X3_.here hx rfl (hb hby own_d_jdk_42_149_42) rfl rfl k) ?_
  show own_Fin _ _ _ _ _ _ _ T3_ (mkF m 44 #[.val (.ref a1), .val (.ref a), .val (.int (0 : Int32)), .val (.int N), .val .null, .val (.ref t)] [(.ref t), (.ref a1)])
  refine own_via (fun _ k => XS.iloadN X3_.here hx rfl (hb hby own_d_jdk_42_149_44) rfl k) ?_
  show own_Fin _ _ _ _ _ _ _ T3_ (mkF m 45 #[.val (.ref a1), .val (.ref a), .val (.int (0 : Int32)), .val (.int N), .val .null, .val (.ref t)] [(.int N), (.ref t), (.ref a1)])
  obtain ⟨_, _, ⟨T6_, L6_, k6_, n6_⟩, -, X6_, ⟨Lc6_, hQ6_, l6_, y6_, z6_⟩, st6_⟩ := Jvm.LawKit.callS X3_ hx (y := (⟨"java/lang/StringUTF16", "coderFromArrayLen", "([BI)B"⟩ : MethodName)) hown (mvT hZ (hw _ (List.mem_of_getElem? (i := 95) rfl))) (mvT hZ (hw _ (List.mem_of_getElem? (i := 96) rfl))) (mvT hZ (hw _ (List.mem_of_getElem? (i := 71) rfl))) (mvT hZ (hw _ (List.mem_of_getElem? (i := 97) rfl))) (by decide) (backOf (W := 1) (own_rm_cfl l Z a0 hw [] t kt N2 vs N cd cs T3_.heap n0 (Nat.le_trans Z0 K3_.1) r5_ hcod hN hn hp) hZ (hw _ (List.mem_of_getElem? (i := 97) rfl)) (hw _ (List.mem_of_getElem? (i := 71) rfl)) (by decide) (by decide)) (g := (mkF m 45 #[.val (.ref a1), .val (.ref a), .val (.int (0 : Int32)), .val (.int N), .val .null, .val (.ref t)] [(.int N), (.ref t), (.ref a1)])) rfl (by rw [hml]; rfl) (argsL := [(.ref t), (.int N)]) (rest := [(.ref a1)]) (lenOf own_pd12 rfl) rfl (by show 2 * 0 + _ ≤ _; exact Nat.le_of_eq rfl) (hb hby own_d_jdk_42_149_45) (fun _ _ => ⟨rfl, rfl, (by decide : 0 + 2 + 0 ≤ _), (by decide : 0 + 12 + 0 ≤ _)⟩)
  dsimp only [Pt.U, Pt.locs, Pt.cells, Pt.slots] at X6_ l6_ y6_ z6_ st6_ hQ6_
  subst l6_ y6_ z6_
  obtain ⟨rfl, Nq6_, hh6_⟩ := hQ6_
  have N6_ := Fr.app N3_ Nq6_
  refine own_via (fun _ k => st6_ _ k) ?_
  show own_Fin _ _ _ _ _ _ _ T6_ (mkF m 48 #[.val (.ref a1), .val (.ref a), .val (.int (0 : Int32)), .val (.int N), .val .null, .val (.ref t)] [(.int cd), (.ref a1)])
  obtain ⟨T7_, h7_, X7_, e7_, W7_, st7_⟩ := putFN X6_ hx hZ hown (hw _ (List.mem_of_getElem? (i := 32) rfl)) Via.refl hh6_ (F2.keep K3_ nin0) (E1.keep K3_) (Or.inr ⟨(hw _ (List.mem_of_getElem? (i := 28) rfl)), rfl, hnm⟩) (hw _ (List.mem_of_getElem? (i := 13) rfl)) (ty := .byte) (v' := (.int cd)) (by decide) (own_cdn (own_cod_cd hcod)) (own_cdf (own_cod_cd hcod)) (g := (mkF m 48 #[.val (.ref a1), .val (.ref a), .val (.int (0 : Int32)), .val (.int N), .val .null, .val (.ref t)] [(.int cd), (.ref a1)])) rfl rfl (hb hby own_d_jdk_42_149_48)
  have Fw7_ := (F2.keep K3_ nin0).same W7_
  have N7_ := Fr.snoc X7_ N6_ g1
  refine own_via (fun _ k => st7_ _ k) ?_
  show own_Fin _ _ _ _ _ _ _ T7_ (mkF m 51 #[.val (.ref a1), .val (.ref a), .val (.int (0 : Int32)), .val (.int N), .val .null, .val (.ref t)] [])
  refine own_via (fun _ k => XS.aloadN X7_.here hx rfl (hb hby own_d_jdk_42_149_51) rfl rfl k) ?_
  show own_Fin _ _ _ _ _ _ _ T7_ (mkF m 52 #[.val (.ref a1), .val (.ref a), .val (.int (0 : Int32)), .val (.int N), .val .null, .val (.ref t)] [(.ref a1)])
  refine own_via (fun _ k => XS.aload X7_.here hx rfl (hb hby own_d_jdk_42_149_52) rfl rfl k) ?_
  show own_Fin _ _ _ _ _ _ _ T7_ (mkF m 54 #[.val (.ref a1), .val (.ref a), .val (.int (0 : Int32)), .val (.int N), .val .null, .val (.ref t)] [(.ref t), (.ref a1)])
  have f9_ := ((F1.keep K3_ nin0).other W7_ (Or.inr (slot_ne (Or.inr (hw _ (List.mem_of_getElem? (i := 27) rfl))) (Or.inr (hw _ (List.mem_of_getElem? (i := 28) rfl))) (by decide) (t := (.array .byte)) (t' := .byte) (by decide) (by decide))))
  obtain ⟨T8_, h8_, X8_, e8_, W8_, st8_⟩ := putF X7_ hx hZ hown (host := "") (Or.inl (hw _ (List.mem_of_getElem? (i := 31) rfl))) Via.refl e7_ f9_ ((E1.keep K3_).wr W7_) (Or.inr ⟨(hw _ (List.mem_of_getElem? (i := 27) rfl)), rfl, hnm⟩) (hw _ (List.mem_of_getElem? (i := 13) rfl)) (ty := (.array .byte)) (by decide) rfl rfl (g := (mkF m 54 #[.val (.ref a1), .val (.ref a), .val (.int (0 : Int32)), .val (.int N), .val .null, .val (.ref t)] [(.ref t), (.ref a1)])) rfl rfl (hb hby own_d_jdk_42_149_54)
  have Fw8_ := f9_.same W8_
  have N8_ := Fr.snoc X8_ N7_ g1
  refine own_via (fun _ k => st8_ _ k) ?_
  show own_Fin _ _ _ _ _ _ _ T8_ (mkF m 57 #[.val (.ref a1), .val (.ref a), .val (.int (0 : Int32)), .val (.int N), .val .null, .val (.ref t)] [])
  have f10_ := (Fw7_.other W8_ (Or.inr (slot_ne (Or.inr (hw _ (List.mem_of_getElem? (i := 28) rfl))) (Or.inr (hw _ (List.mem_of_getElem? (i := 27) rfl))) (by decide) (t := .byte) (t' := (.array .byte)) (by decide) (by decide))))
  have q11_ : a1 ≠ t := Nat.ne_of_lt (Nat.lt_of_lt_of_le E1.lt r4_)
  exact own_ret0 X8_ hx Bd.returns Bd.notSynchronized (hb hby own_d_jdk_42_149_57) e8_ ⟨t, kt, cd, N2, vs, rfl, N8_, ((((Keep.refl h0 [a1]).trans K3_ all0).wr W7_ (Or.inl (List.mem_of_getElem? (i := 0) rfl))).wr W8_ (Or.inl (List.mem_of_getElem? (i := 0) rfl))), (((E1.keep K3_).wr W7_).wr W8_), f10_, Fw8_, r4_, ((r5_.other W7_ (Ne.symm q11_)).other W8_ (Ne.symm q11_)), hcod⟩ (by decide) (by decide)
theorem own_d_jdk_42_3_0 : decode jdk_42_method_3_code 0 = .ok (.aload_n 0, 1) := by decide +kernel
theorem own_d_jdk_42_3_1 : decode jdk_42_method_3_code 1 = .ok (.aload_n 1, 1) := by decide +kernel
theorem own_d_jdk_42_3_2 : decode jdk_42_method_3_code 2 = .ok (.iconst 0, 1) := by decide +kernel
theorem own_d_jdk_42_3_3 : decode jdk_42_method_3_code 3 = .ok (.aload_n 1, 1) := by decide +kernel
theorem own_d_jdk_42_3_4 : decode jdk_42_method_3_code 4 = .ok (.arraylength, 1) := by decide +kernel
theorem own_d_jdk_42_3_5 : decode jdk_42_method_3_code 5 = .ok (.aconst_null, 1) := by decide +kernel
theorem own_d_jdk_42_3_6 : decode jdk_42_method_3_code 6 = .ok (.invokespecial 27, 3) := by decide +kernel
theorem own_pd13 : parseMethodDescriptor "([CIILjava/lang/Void;)V" = some ⟨[(.array .char), .int, .int, (.object "java/lang/Void")], none⟩ := by decide +kernel
theorem own_d_jdk_42_3_9 : decode jdk_42_method_3_code 9 = .ok (.return_, 1) := by decide +kernel
theorem own_ef_sInitC (m : MethodId) (a1 : Addr) (a : Addr) : entryFrame m #[(.ref a1), (.ref a)] 2 = mkF m 0 #[.val (.ref a1), .val (.ref a)] [] := by (first | (simp [entryFrame, mkF, argsToLocals, Value.category]; done) | rfl)
def own_Q_sInitC (Z : State) (a1 : Addr) (cz : Int32) (u1 : Value) (u2 : Value) (a : Addr) (ka : ClassId) (N : Int32) (cs : List Int32) (h0 : Heap) (n0 : Nat) (vq : Option Value) (h : Heap) (Lq : List Loc) : Prop := ∃ (t : Addr) (kt : ClassId) (cd : Int32) (N2 : Int32) (vs : List Value), (vq = none) ∧ (Fr n0 Lq) ∧ (Keep h0 h [a1]) ∧ (Exa Z h a1 "java/lang/String") ∧ (Fld Z h a1 "java/lang/String" "coder" "B" (.int cd)) ∧ (Fld Z h a1 "java/lang/String" "value" "[B" (.ref t)) ∧ (h0.size ≤ t) ∧ (Arv Z h t kt .byte N2 vs (.int 0)) ∧ (own_cod cs cd N2 vs)
set_option maxRecDepth 65536 in
set_option maxHeartbeats 40000000 in
theorem own_rm_sInitC (l : Launch) (Z : State) (a0 : Array Value) (hw : ∀ d ∈ tables_1, d.before a0 Z = true) (wsq : List Jvm.Cond) (a1 : Addr) (cz : Int32) (u1 : Value) (u2 : Value) (a : Addr) (ka : ClassId) (N : Int32) (cs : List Int32) (h0 : Heap) (n0 : Nat) (Z0 : n0 ≤ h0.size) (O0 : Old Z n0 h0) (S1 : Sta Z Z.heap "java/lang/String" "COMPACT_STRINGS" "Z" (.int cz)) (P5 : ¬ cz = (0 : Int32)) (S3 : Sta Z Z.heap "java/lang/StringUTF16" "$assertionsDisabled" "Z" (.int (1 : Int32))) (S4 : Sta Z Z.heap "java/lang/StringUTF16" "HI_BYTE_SHIFT" "I" (.int (0 : Int32))) (S5 : Sta Z Z.heap "java/lang/StringUTF16" "LO_BYTE_SHIFT" "I" (.int (8 : Int32))) (E1 : Exa Z h0 a1 "java/lang/String") (F1 : Fld Z h0 a1 "java/lang/String" "value" "[B" u1) (F2 : Fld Z h0 a1 "java/lang/String" "coder" "B" u2) (g1 : n0 ≤ a1) (Vc : Arv Z h0 a ka .char N (cs.map Value.int) (.int 0)) (hN : N = Int32.ofNat cs.length) (hn : cs.length ≤ 4) (hp : 0 < cs.length) (hr : own_chs cs) :
    MetFree l (⟨"java/lang/String", "<init>", "([C)V"⟩ : MethodName) (head1 (Jvm.Cond.code (⟨"java/lang/String", "<init>", "([C)V"⟩ : MethodName) jdk_42_method_3_code 2 none :: wsq) ({ frames := 5, cells := 2, slots := 12, locals := 74 } : Room)) (fun aq Uq => aq = #[(.ref a1), (.ref a)] ∧ Z.Warmed39 Uq.vm ∧ Uq.heap = h0) (fun _ _ _ _ _ => True) (fun _ Uq oq Uq' => ∃ vq Lq, oq = .returned vq ∧ own_Q_sInitC Z a1 cz u1 u2 a ka N cs h0 n0 vq Uq'.heap Lq ∧ FrameEnd Uq oq Uq' Lq ({ frames := 5, cells := 2, slots := 12, locals := 74 } : Room).cells ({ frames := 5, cells := 2, slots := 12, locals := 74 } : Room).slots) := by
  refine MetFree.of_bodySF (plainFor_of_name own_pn0) hisR ?_
  intro p e s m args below meth cde s₁ Bd hml0 hP hK
  obtain ⟨rfl, hZ, hh⟩ := hP
  have hx := Bd.exec
  have hby := Bd.bytes
  have hml : cde.maxLocals = 2 := hml0
  have hown : s.vm.findClass "java/lang/String" = some m.cls := findClass_of_methodNamed Bd.named
  have hnm := (name_of_methodNamed Bd.named Bd.method).1
  have X0 : Stand p l e ({ frames := 5, cells := 2, slots := 12, locals := 74 } : Room) s m #[(.ref a1), (.ref a)] below meth cde s₁ [] 0 0 := Stand.of_body Bd
  have e0 : s₁.heap = h0 := by rw [← hh, Bd.state]; rfl
  have N0 := Fr.nil n0
  show own_Fin p e s below (own_Q_sInitC Z a1 cz u1 u2 a ka N cs h0 n0) ({ frames := 5, cells := 2, slots := 12, locals := 74 } : Room).cells ({ frames := 5, cells := 2, slots := 12, locals := 74 } : Room).slots s₁ (entryFrame m #[(.ref a1), (.ref a)] 2)
  rw [own_ef_sInitC m a1 a]
  refine own_via (fun _ k => XS.aloadN X0.here hx rfl (hb hby own_d_jdk_42_3_0) rfl rfl k) ?_
  show own_Fin _ _ _ _ _ _ _ s₁ (mkF m 1 #[.val (.ref a1), .val (.ref a)] [(.ref a1)])
  refine own_via (fun _ k => XS.aloadN X0.here hx rfl (hb hby own_d_jdk_42_3_1) rfl rfl k) ?_
  show own_Fin _ _ _ _ _ _ _ s₁ (mkF m 2 #[.val (.ref a1), .val (.ref a)] [(.ref a), (.ref a1)])
  refine own_via (fun _ k => XS.iconst X0.here hx rfl (hb hby own_d_jdk_42_3_2) k) ?_
  show own_Fin _ _ _ _ _ _ _ s₁ (mkF m 3 #[.val (.ref a1), .val (.ref a)] [(.int (0 : Int32)), (.ref a), (.ref a1)])
  refine own_via (fun _ k => XS.aloadN X0.here hx rfl (hb hby own_d_jdk_42_3_3) rfl rfl k) ?_
  show own_Fin _ _ _ _ _ _ _ s₁ (mkF m 4 #[.val (.ref a1), .val (.ref a)] [(.ref a), (.int (0 : Int32)), (.ref a), (.ref a1)])
  obtain ⟨c1_, Ar1_, -, S1_, M1_, -, -⟩ := (id Vc)
  refine own_via (fun _ k => X0.arraylength hx (own_eq e0 Ar1_.1) (State.isArrayOf_alike hZ.alike Ar1_.2.1) (g := (mkF m 4 #[.val (.ref a1), .val (.ref a)] [(.ref a), (.int (0 : Int32)), (.ref a), (.ref a1)])) rfl rfl (hb hby own_d_jdk_42_3_4) _ (by rw [len_of S1_ M1_]; exact k)) ?_
  show own_Fin _ _ _ _ _ _ _ s₁ (mkF m 5 #[.val (.ref a1), .val (.ref a)] [(.int N), (.int (0 : Int32)), (.ref a), (.ref a1)])
  refine own_via (fun _ k => XS.aconstNull X0.here hx rfl (hb hby own_d_jdk_42_3_5) k) ?_
  show own_Fin _ _ _ _ _ _ _ s₁ (mkF m 6 #[.val (.ref a1), .val (.ref a)] [.null, (.int N), (.int (0 : Int32)), (.ref a), (.ref a1)])
  obtain ⟨_, _, ⟨T2_, L2_, k2_, n2_⟩, -, X2_, ⟨Lc2_, hQ2_, l2_, y2_, z2_⟩, st2_⟩ := X0.specialBack hx (y := (⟨"java/lang/String", "<init>", "([CIILjava/lang/Void;)V"⟩ : MethodName)) rfl hown (mvT hZ (hw _ (List.mem_of_getElem? (i := 18) rfl))) (mvT hZ (hw _ (List.mem_of_getElem? (i := 19) rfl))) (mvT hZ (hw _ (List.mem_of_getElem? (i := 21) rfl))) (by decide) (backOf (W := 0) (own_rm_sInitW l Z a0 hw [] a1 cz u1 u2 a ka N cs h0 n0 Z0 O0 S1 (by first | assumption | decide) S3 S4 S5 E1 F1 F2 g1 Vc hN hn hp hr) hZ (hw _ (List.mem_of_getElem? (i := 21) rfl)) (hw _ (List.mem_of_getElem? (i := 14) rfl)) (by decide) (by decide)) (g := (mkF m 6 #[.val (.ref a1), .val (.ref a)] [.null, (.int N), (.int (0 : Int32)), (.ref a), (.ref a1)])) rfl (by rw [hml]; rfl) (Steps.refl _) (a := a1) (argsL := [(.ref a), (.int (0 : Int32)), (.int N), .null]) (rest := []) (lenOf own_pd13 rfl) rfl (by show 2 * 0 + _ ≤ _; exact Nat.le_of_eq rfl) (hb hby own_d_jdk_42_3_6) (fun _ _ => ⟨rfl, e0, (by decide : 0 + 2 ≤ _), (by decide : 0 + 12 ≤ _)⟩)
  dsimp only [Pt.U, Pt.locs, Pt.cells, Pt.slots] at X2_ l2_ y2_ z2_ st2_ hQ2_
  subst l2_ y2_ z2_
  obtain ⟨t, kt, cd, N2, vs, rfl, Nq2_, K2_, r3_, r4_, r5_, r6_, r7_, hcod⟩ := hQ2_
  have N2_ := Fr.app N0 Nq2_
  refine own_via (fun _ k => st2_.trans k) ?_
  show own_Fin _ _ _ _ _ _ _ T2_ (mkF m 9 #[.val (.ref a1), .val (.ref a)] [])
  exact own_ret0 X2_ hx Bd.returns Bd.notSynchronized (hb hby own_d_jdk_42_3_9) rfl ⟨t, kt, cd, N2, vs, rfl, N2_, ((Keep.refl h0 [a1]).trans K2_ (allS (Or.inl (List.mem_of_getElem? (i := 0) rfl)) all0)), r3_, r4_, r5_, r6_, r7_, hcod⟩ (by decide) (by decide)
theorem own_d_jdk_42_149_8 : decode jdk_42_method_149_code 8 = .ok (.aload_n 0, 1) := by decide +kernel
theorem own_d_jdk_42_149_9 : decode jdk_42_method_149_code 9 = .ok (.ldc 7, 2) := by decide +kernel
theorem own_d_jdk_42_149_11 : decode jdk_42_method_149_code 11 = .ok (.getfield 9, 3) := by decide +kernel
theorem own_d_jdk_42_149_14 : decode jdk_42_method_149_code 14 = .ok (.putfield 9, 3) := by decide +kernel
theorem own_d_jdk_42_149_17 : decode jdk_42_method_149_code 17 = .ok (.aload_n 0, 1) := by decide +kernel
theorem own_d_jdk_42_149_18 : decode jdk_42_method_149_code 18 = .ok (.ldc 7, 2) := by decide +kernel
theorem own_d_jdk_42_149_20 : decode jdk_42_method_149_code 20 = .ok (.getfield 15, 3) := by decide +kernel
theorem own_d_jdk_42_149_23 : decode jdk_42_method_149_code 23 = .ok (.putfield 15, 3) := by decide +kernel
theorem own_d_jdk_42_149_26 : decode jdk_42_method_149_code 26 = .ok (.return_, 1) := by decide +kernel
theorem own_ef_sInit4 (m : MethodId) (a1 : Addr) (b : Addr) : entryFrame m #[(.ref a1), (.ref b), (.int (0 : Int32)), (.int (0 : Int32)), .null] 6 = mkF m 0 #[.val (.ref a1), .val (.ref b), .val (.int (0 : Int32)), .val (.int (0 : Int32)), .val .null, .unset] [] := by (first | (simp [entryFrame, mkF, argsToLocals, Value.category]; done) | rfl)
def own_Q_sInit4 (Z : State) (a1 : Addr) (b : Addr) (u2 : Value) (h0 : Heap) (n0 : Nat) (vq : Option Value) (h : Heap) (Lq : List Loc) : Prop := ∃ (t : Addr) (kt : ClassId), (vq = none) ∧ (Fr n0 Lq) ∧ (Keep h0 h [a1]) ∧ (Exa Z h a1 "java/lang/String") ∧ (Fld Z h a1 "java/lang/String" "coder" "B" (.int (0 : Int32))) ∧ (Fld Z h a1 "java/lang/String" "value" "[B" (.ref t)) ∧ (Arv Z h t kt .byte (0 : Int32) [] (.int 0))
set_option maxRecDepth 65536 in
set_option maxHeartbeats 40000000 in
theorem own_rm_sInit4 (l : Launch) (Z : State) (a0 : Array Value) (hw : ∀ d ∈ tables_1, d.before a0 Z = true) (wsq : List Jvm.Cond) (a1 : Addr) (b : Addr) (u2 : Value) (h0 : Heap) (n0 : Nat) (Z0 : n0 ≤ h0.size) (E1 : Exa Z h0 a1 "java/lang/String") (F1 : Fld Z h0 a1 "java/lang/String" "value" "[B" .null) (F2 : Fld Z h0 a1 "java/lang/String" "coder" "B" u2) (g1 : n0 ≤ a1) :
    MetFree l (⟨"java/lang/String", "<init>", "([CIILjava/lang/Void;)V"⟩ : MethodName) (head1 (Jvm.Cond.code (⟨"java/lang/String", "<init>", "([CIILjava/lang/Void;)V"⟩ : MethodName) jdk_42_method_149_code 6 none :: wsq) ({ frames := 1, cells := 4, slots := 8, locals := 12 } : Room)) (fun aq Uq => aq = #[(.ref a1), (.ref b), (.int (0 : Int32)), (.int (0 : Int32)), .null] ∧ Z.Warmed39 Uq.vm ∧ Uq.heap = h0 ∧ CHv Z own_EL Uq.vm h0) (fun _ _ _ _ _ => True) (fun _ Uq oq Uq' => ∃ vq Lq, oq = .returned vq ∧ own_Q_sInit4 Z a1 b u2 h0 n0 vq Uq'.heap Lq ∧ CHr Z own_EL Uq.vm Uq.heap Uq'.vm Uq'.heap ∧ ReturnedEndW Uq oq Uq' Lq ({ frames := 1, cells := 4, slots := 8, locals := 12 } : Room).cells ({ frames := 1, cells := 4, slots := 8, locals := 12 } : Room).slots) := by
  refine MetFree.of_bodySF (plainFor_of_name own_pn0) hisR ?_
  intro p e s m args below meth cde s₁ Bd hml0 hP hK
  obtain ⟨rfl, hZ, hh, H0⟩ := hP
  have hx := Bd.exec
  have hby := Bd.bytes
  have hml : cde.maxLocals = 6 := hml0
  have hown : s.vm.findClass "java/lang/String" = some m.cls := findClass_of_methodNamed Bd.named
  have hnm := (name_of_methodNamed Bd.named Bd.method).1
  have X0 : Stand p l e ({ frames := 1, cells := 4, slots := 8, locals := 12 } : Room) (s.setVm s.vm) m #[(.ref a1), (.ref b), (.int (0 : Int32)), (.int (0 : Int32)), .null] below meth cde s₁ [] 0 0 := Stand.of_body Bd
  have e0 : s₁.heap = h0 := by rw [← hh, Bd.state]; rfl
  have N0 := Fr.nil n0
  have hS0 : s.Since s.vm h0.size := (State.WarmedH.refl s).since _
  have hk0 : h0.size ≤ h0.size := Nat.le_refl _
  have C0 : CHr Z own_EL s.vm h0 s.vm h0 := CHr.refl H0
  show own_FinH p e s below Z own_EL (own_Q_sInit4 Z a1 b u2 h0 n0) ({ frames := 1, cells := 4, slots := 8, locals := 12 } : Room).cells ({ frames := 1, cells := 4, slots := 8, locals := 12 } : Room).slots s₁ (entryFrame m #[(.ref a1), (.ref b), (.int (0 : Int32)), (.int (0 : Int32)), .null] 6)
  rw [own_ef_sInit4 m a1 b]
  refine own_viaH (fun _ k => XS.aloadN X0.here hx rfl (hb hby own_d_jdk_42_149_0) rfl rfl k) ?_
  show own_FinH _ _ _ _ _ _ _ _ _ s₁ (mkF m 1 #[.val (.ref a1), .val (.ref b), .val (.int (0 : Int32)), .val (.int (0 : Int32)), .val .null, .unset] [(.ref a1)])
  obtain ⟨T1_, X1_, e1_, st1_⟩ := initO X0 hx hZ hown (hw _ (List.mem_of_getElem? (i := 22) rfl)) (hw _ (List.mem_of_getElem? (i := 23) rfl)) (hw _ (List.mem_of_getElem? (i := 24) rfl)) e0 (g := (mkF m 1 #[.val (.ref a1), .val (.ref b), .val (.int (0 : Int32)), .val (.int (0 : Int32)), .val .null, .unset] [(.ref a1)])) rfl (by rw [hml]; rfl) rfl (hb hby own_d_jdk_42_149_1) (by decide) (W := 0) (by show 2 * 0 + _ ≤ _; exact Nat.le_of_eq rfl) (by decide)
  refine own_viaH (fun _ k => st1_ _ k) ?_
  show own_FinH _ _ _ _ _ _ _ _ _ T1_ (mkF m 4 #[.val (.ref a1), .val (.ref b), .val (.int (0 : Int32)), .val (.int (0 : Int32)), .val .null, .unset] [])
  refine own_viaH (fun _ k => XS.iloadN X1_.here hx rfl (hb hby own_d_jdk_42_149_4) rfl k) ?_
  show own_FinH _ _ _ _ _ _ _ _ _ T1_ (mkF m 5 #[.val (.ref a1), .val (.ref b), .val (.int (0 : Int32)), .val (.int (0 : Int32)), .val .null, .unset] [(.int (0 : Int32))])
  refine own_viaH (fun _ k => XS.ifNo X1_.here hx rfl (hb hby own_d_jdk_42_149_5) rfl ((if0 _ _).trans (teq rfl).2) k) ?_
  show own_FinH _ _ _ _ _ _ _ _ _ T1_ (mkF m 8 #[.val (.ref a1), .val (.ref b), .val (.int (0 : Int32)), .val (.int (0 : Int32)), .val .null, .unset] [])
  refine own_viaH (fun _ k => XS.aloadN X1_.here hx rfl (hb hby own_d_jdk_42_149_8) rfl rfl k) ?_
  show own_FinH _ _ _ _ _ _ _ _ _ T1_ (mkF m 9 #[.val (.ref a1), .val (.ref b), .val (.int (0 : Int32)), .val (.int (0 : Int32)), .val .null, .unset] [(.ref a1)])
  obtain ⟨a2_, T2_, h2_, k2_, b2_, kb2_, X2_, e2_, E2_, hS2_, hk2_, hZ2_, hown2_, rE2_, rC2_, rV2_, rA2_, -, -, Cq2_, -, Sx2_, st2_⟩ := ldcCH X1_ hx hZ hown (hw _ (List.mem_of_getElem? (i := 25) rfl)) (own_atoms hw) e1_ hS0 hk0 (own_ew hw) (List.mem_of_getElem? (i := 0) rfl) H0 (vs := []) (z := (0 : Int32)) ⟨by decide, by decide⟩ (by decide) (by decide) (g := (mkF m 9 #[.val (.ref a1), .val (.ref b), .val (.int (0 : Int32)), .val (.int (0 : Int32)), .val .null, .unset] [(.ref a1)])) rfl (hb hby own_d_jdk_42_149_9) (n := 0) (by decide) (by decide) (by decide) (by decide)
  refine own_viaH (fun _ k => st2_ _ k) ?_
  show own_FinH _ _ _ _ _ _ _ _ _ T2_ (mkF m 11 #[.val (.ref a1), .val (.ref b), .val (.int (0 : Int32)), .val (.int (0 : Int32)), .val .null, .unset] [(.ref a2_), (.ref a1)])
  obtain ⟨T3_, X3_, e3_, st3_⟩ := getF X2_ hx hZ2_ hown2_ (host := "") (Or.inl (hw _ (List.mem_of_getElem? (i := 31) rfl))) Via.refl e2_ rV2_ (g := (mkF m 11 #[.val (.ref a1), .val (.ref b), .val (.int (0 : Int32)), .val (.int (0 : Int32)), .val .null, .unset] [(.ref a2_), (.ref a1)])) rfl rfl (hb hby own_d_jdk_42_149_11)
  refine own_viaH (fun _ k => st3_ _ k) ?_
  show own_FinH _ _ _ _ _ _ _ _ _ T3_ (mkF m 14 #[.val (.ref a1), .val (.ref b), .val (.int (0 : Int32)), .val (.int (0 : Int32)), .val .null, .unset] [(.ref b2_), (.ref a1)])
  have sf4_ : Safe Z own_EL T2_.vm h2_ a1 := own_safe_null hZ2_.alike (E1.ext E2_) (F1.ext E2_)
  obtain ⟨T5_, h5_, X5_, e5_, W5_, st5_⟩ := putF X3_ hx hZ2_ hown2_ (host := "") (Or.inl (hw _ (List.mem_of_getElem? (i := 31) rfl))) Via.refl e3_ (F1.ext E2_) (E1.ext E2_) (Or.inr ⟨(hw _ (List.mem_of_getElem? (i := 27) rfl)), rfl, hnm⟩) (hw _ (List.mem_of_getElem? (i := 13) rfl)) (ty := (.array .byte)) (by decide) rfl rfl (g := (mkF m 14 #[.val (.ref a1), .val (.ref b), .val (.int (0 : Int32)), .val (.int (0 : Int32)), .val .null, .unset] [(.ref b2_), (.ref a1)])) rfl rfl (hb hby own_d_jdk_42_149_14)
  have Fw5_ := (F1.ext E2_).same W5_
  have N5_ := Fr.snoc X5_ N0 g1
  refine own_viaH (fun _ k => st5_ _ k) ?_
  show own_FinH _ _ _ _ _ _ _ _ _ T5_ (mkF m 17 #[.val (.ref a1), .val (.ref b), .val (.int (0 : Int32)), .val (.int (0 : Int32)), .val .null, .unset] [])
  refine own_viaH (fun _ k => XS.aloadN X5_.here hx rfl (hb hby own_d_jdk_42_149_17) rfl rfl k) ?_
  show own_FinH _ _ _ _ _ _ _ _ _ T5_ (mkF m 18 #[.val (.ref a1), .val (.ref b), .val (.int (0 : Int32)), .val (.int (0 : Int32)), .val .null, .unset] [(.ref a1)])
  have C7_ := C0.trans Cq2_
  have H7_ := C7_.1
  have C8_ := C7_.trans (CHr.wr W5_ sf4_ H7_)
  have H8_ := C8_.1
  obtain ⟨a6_, T6_, h6_, k6_, b6_, kb6_, X6_, e6_, E6_, hS6_, hk6_, hZ6_, hown6_, rE6_, rC6_, rV6_, rA6_, -, -, Cq6_, -, Sx6_, st6_⟩ := ldcCH X5_ hx hZ2_ hown2_ (hw _ (List.mem_of_getElem? (i := 25) rfl)) (own_atoms hw) e5_ hS2_ (Nat.le_trans hk2_ (Keep.of_wr W5_).1) (own_ew hw) (List.mem_of_getElem? (i := 0) rfl) H8_ (vs := []) (z := (0 : Int32)) ⟨by decide, by decide⟩ (by decide) (by decide) (g := (mkF m 18 #[.val (.ref a1), .val (.ref b), .val (.int (0 : Int32)), .val (.int (0 : Int32)), .val .null, .unset] [(.ref a1)])) rfl (hb hby own_d_jdk_42_149_18) (n := 0) (by decide) (by decide) (by decide) (by decide)
  refine own_viaH (fun _ k => st6_ _ k) ?_
  show own_FinH _ _ _ _ _ _ _ _ _ T6_ (mkF m 20 #[.val (.ref a1), .val (.ref b), .val (.int (0 : Int32)), .val (.int (0 : Int32)), .val .null, .unset] [(.ref a6_), (.ref a1)])
  obtain ⟨T9_, X9_, e9_, st9_⟩ := getF X6_ hx hZ6_ hown6_ (host := "") (Or.inl (hw _ (List.mem_of_getElem? (i := 32) rfl))) Via.refl e6_ rC6_ (g := (mkF m 20 #[.val (.ref a1), .val (.ref b), .val (.int (0 : Int32)), .val (.int (0 : Int32)), .val .null, .unset] [(.ref a6_), (.ref a1)])) rfl rfl (hb hby own_d_jdk_42_149_20)
  refine own_viaH (fun _ k => st9_ _ k) ?_
  show own_FinH _ _ _ _ _ _ _ _ _ T9_ (mkF m 23 #[.val (.ref a1), .val (.ref b), .val (.int (0 : Int32)), .val (.int (0 : Int32)), .val .null, .unset] [(.int (0 : Int32)), (.ref a1)])
  have sf10_ : Safe Z own_EL T2_.vm h5_ a1 := Safe.wr W5_ sf4_ H7_ sf4_
  have sf11_ : Safe Z own_EL T6_.vm h6_ a1 := Cq6_.safe (Fw5_).lt sf10_
  have f13_ := (((F2.ext E2_).other W5_ (Or.inr (slot_ne (Or.inr (hw _ (List.mem_of_getElem? (i := 28) rfl))) (Or.inr (hw _ (List.mem_of_getElem? (i := 27) rfl))) (by decide) (t := .byte) (t' := (.array .byte)) (by decide) (by decide)))).ext E6_)
  obtain ⟨T12_, h12_, X12_, e12_, W12_, st12_⟩ := putFN X9_ hx hZ6_ hown6_ (hw _ (List.mem_of_getElem? (i := 32) rfl)) Via.refl e9_ f13_ (((E1.ext E2_).wr W5_).ext E6_) (Or.inr ⟨(hw _ (List.mem_of_getElem? (i := 28) rfl)), rfl, hnm⟩) (hw _ (List.mem_of_getElem? (i := 13) rfl)) (ty := .byte) (v' := (.int (0 : Int32))) (by decide) rfl (by decide) (g := (mkF m 23 #[.val (.ref a1), .val (.ref b), .val (.int (0 : Int32)), .val (.int (0 : Int32)), .val .null, .unset] [(.int (0 : Int32)), (.ref a1)])) rfl rfl (hb hby own_d_jdk_42_149_23)
  have Fw12_ := f13_.same W12_
  have N12_ := Fr.snoc X12_ N5_ g1
  refine own_viaH (fun _ k => st12_ _ k) ?_
  show own_FinH _ _ _ _ _ _ _ _ _ T12_ (mkF m 26 #[.val (.ref a1), .val (.ref b), .val (.int (0 : Int32)), .val (.int (0 : Int32)), .val .null, .unset] [])
  have f14_ := ((Fw5_.ext E6_).other W12_ (Or.inr (slot_ne (Or.inr (hw _ (List.mem_of_getElem? (i := 27) rfl))) (Or.inr (hw _ (List.mem_of_getElem? (i := 28) rfl))) (by decide) (t := (.array .byte)) (t' := .byte) (by decide) (by decide))))
  have q15_ : a1 ≠ b2_ := (Sx2_ _ sf4_).2
  have f16_ := (((rA2_.other W5_ (Ne.symm q15_)).ext E6_).other W12_ (Ne.symm q15_))
  have C17_ := C8_.trans Cq6_
  have H17_ := C17_.1
  have C18_ := C17_.trans (CHr.wr W12_ sf11_ H17_)
  have H18_ := C18_.1
  exact own_ret0H X12_ hx Bd.returns Bd.notSynchronized (own_ew hw) hZ6_ hS6_ (Nat.le_trans hk6_ (Keep.of_wr W12_).1) hh C18_ (hb hby own_d_jdk_42_149_26) e12_ ⟨b2_, kb2_, rfl, N12_, (((((Keep.refl h0 [a1]).ext E2_).wr W5_ (Or.inl (List.mem_of_getElem? (i := 0) rfl))).ext E6_).wr W12_ (Or.inl (List.mem_of_getElem? (i := 0) rfl))), ((((E1.ext E2_).wr W5_).ext E6_).wr W12_), Fw12_, f14_, f16_⟩ (by decide) (by decide)
theorem own_ef_sInit1 (m : MethodId) (a1 : Addr) (b : Addr) : entryFrame m #[(.ref a1), (.ref b)] 2 = mkF m 0 #[.val (.ref a1), .val (.ref b)] [] := by (first | (simp [entryFrame, mkF, argsToLocals, Value.category]; done) | rfl)
def own_Q_sInit1 (Z : State) (a1 : Addr) (b : Addr) (kb : ClassId) (u2 : Value) (h0 : Heap) (n0 : Nat) (vq : Option Value) (h : Heap) (Lq : List Loc) : Prop := ∃ (t : Addr) (kt : ClassId), (vq = none) ∧ (Fr n0 Lq) ∧ (Keep h0 h [a1]) ∧ (Exa Z h a1 "java/lang/String") ∧ (Fld Z h a1 "java/lang/String" "coder" "B" (.int (0 : Int32))) ∧ (Fld Z h a1 "java/lang/String" "value" "[B" (.ref t)) ∧ (Arv Z h t kt .byte (0 : Int32) [] (.int 0))
set_option maxRecDepth 65536 in
set_option maxHeartbeats 40000000 in
theorem own_rm_sInit1 (l : Launch) (Z : State) (a0 : Array Value) (hw : ∀ d ∈ tables_1, d.before a0 Z = true) (wsq : List Jvm.Cond) (a1 : Addr) (b : Addr) (kb : ClassId) (u2 : Value) (h0 : Heap) (n0 : Nat) (Z0 : n0 ≤ h0.size) (E1 : Exa Z h0 a1 "java/lang/String") (F1 : Fld Z h0 a1 "java/lang/String" "value" "[B" .null) (F2 : Fld Z h0 a1 "java/lang/String" "coder" "B" u2) (Vb : Arv Z h0 b kb .char (0 : Int32) [] (.int 0)) (g1 : n0 ≤ a1) :
    MetFree l (⟨"java/lang/String", "<init>", "([C)V"⟩ : MethodName) (head1 (Jvm.Cond.code (⟨"java/lang/String", "<init>", "([C)V"⟩ : MethodName) jdk_42_method_3_code 2 none :: wsq) ({ frames := 2, cells := 4, slots := 8, locals := 29 } : Room)) (fun aq Uq => aq = #[(.ref a1), (.ref b)] ∧ Z.Warmed39 Uq.vm ∧ Uq.heap = h0 ∧ CHv Z own_EL Uq.vm h0) (fun _ _ _ _ _ => True) (fun _ Uq oq Uq' => ∃ vq Lq, oq = .returned vq ∧ own_Q_sInit1 Z a1 b kb u2 h0 n0 vq Uq'.heap Lq ∧ CHr Z own_EL Uq.vm Uq.heap Uq'.vm Uq'.heap ∧ ReturnedEndW Uq oq Uq' Lq ({ frames := 2, cells := 4, slots := 8, locals := 29 } : Room).cells ({ frames := 2, cells := 4, slots := 8, locals := 29 } : Room).slots) := by
  refine MetFree.of_bodySF (plainFor_of_name own_pn0) hisR ?_
  intro p e s m args below meth cde s₁ Bd hml0 hP hK
  obtain ⟨rfl, hZ, hh, H0⟩ := hP
  have hx := Bd.exec
  have hby := Bd.bytes
  have hml : cde.maxLocals = 2 := hml0
  have hown : s.vm.findClass "java/lang/String" = some m.cls := findClass_of_methodNamed Bd.named
  have hnm := (name_of_methodNamed Bd.named Bd.method).1
  have X0 : Stand p l e ({ frames := 2, cells := 4, slots := 8, locals := 29 } : Room) (s.setVm s.vm) m #[(.ref a1), (.ref b)] below meth cde s₁ [] 0 0 := Stand.of_body Bd
  have e0 : s₁.heap = h0 := by rw [← hh, Bd.state]; rfl
  have N0 := Fr.nil n0
  have hS0 : s.Since s.vm h0.size := (State.WarmedH.refl s).since _
  have hk0 : h0.size ≤ h0.size := Nat.le_refl _
  have C0 : CHr Z own_EL s.vm h0 s.vm h0 := CHr.refl H0
  show own_FinH p e s below Z own_EL (own_Q_sInit1 Z a1 b kb u2 h0 n0) ({ frames := 2, cells := 4, slots := 8, locals := 29 } : Room).cells ({ frames := 2, cells := 4, slots := 8, locals := 29 } : Room).slots s₁ (entryFrame m #[(.ref a1), (.ref b)] 2)
  rw [own_ef_sInit1 m a1 b]
  refine own_viaH (fun _ k => XS.aloadN X0.here hx rfl (hb hby own_d_jdk_42_3_0) rfl rfl k) ?_
  show own_FinH _ _ _ _ _ _ _ _ _ s₁ (mkF m 1 #[.val (.ref a1), .val (.ref b)] [(.ref a1)])
  refine own_viaH (fun _ k => XS.aloadN X0.here hx rfl (hb hby own_d_jdk_42_3_1) rfl rfl k) ?_
  show own_FinH _ _ _ _ _ _ _ _ _ s₁ (mkF m 2 #[.val (.ref a1), .val (.ref b)] [(.ref b), (.ref a1)])
  refine own_viaH (fun _ k => XS.iconst X0.here hx rfl (hb hby own_d_jdk_42_3_2) k) ?_
  show own_FinH _ _ _ _ _ _ _ _ _ s₁ (mkF m 3 #[.val (.ref a1), .val (.ref b)] [(.int (0 : Int32)), (.ref b), (.ref a1)])
  refine own_viaH (fun _ k => XS.aloadN X0.here hx rfl (hb hby own_d_jdk_42_3_3) rfl rfl k) ?_
  show own_FinH _ _ _ _ _ _ _ _ _ s₁ (mkF m 4 #[.val (.ref a1), .val (.ref b)] [(.ref b), (.int (0 : Int32)), (.ref b), (.ref a1)])
  obtain ⟨c1_, Ar1_, -, S1_, M1_, -, -⟩ := (id Vb)
  refine own_viaH (fun _ k => X0.arraylength hx (own_eq e0 Ar1_.1) (State.isArrayOf_alike hZ.alike Ar1_.2.1) (g := (mkF m 4 #[.val (.ref a1), .val (.ref b)] [(.ref b), (.int (0 : Int32)), (.ref b), (.ref a1)])) rfl rfl (hb hby own_d_jdk_42_3_4) _ (by rw [len_of S1_ M1_]; exact k)) ?_
  show own_FinH _ _ _ _ _ _ _ _ _ s₁ (mkF m 5 #[.val (.ref a1), .val (.ref b)] [(.int (0 : Int32)), (.int (0 : Int32)), (.ref b), (.ref a1)])
  refine own_viaH (fun _ k => XS.aconstNull X0.here hx rfl (hb hby own_d_jdk_42_3_5) k) ?_
  show own_FinH _ _ _ _ _ _ _ _ _ s₁ (mkF m 6 #[.val (.ref a1), .val (.ref b)] [.null, (.int (0 : Int32)), (.int (0 : Int32)), (.ref b), (.ref a1)])
  obtain ⟨_, _, ⟨T2_, L2_, k2_, n2_⟩, -, Y2_, hSq2_, hgq2_, ⟨Lc2_, hQ2_, l2_, y2_, z2_, Cq2_⟩, st2_⟩ := X0.specialBackS hx (y := (⟨"java/lang/String", "<init>", "([CIILjava/lang/Void;)V"⟩ : MethodName)) rfl hown (mvT hZ (hw _ (List.mem_of_getElem? (i := 18) rfl))) (mvT hZ (hw _ (List.mem_of_getElem? (i := 19) rfl))) (mvT hZ (hw _ (List.mem_of_getElem? (i := 21) rfl))) (by decide) (backOfSH (s := s) (vm0 := s.vm) (W := 0) (own_rm_sInit4 l Z a0 hw [] a1 b u2 h0 n0 Z0 E1 F1 F2 g1) hZ (hw _ (List.mem_of_getElem? (i := 21) rfl)) (hw _ (List.mem_of_getElem? (i := 14) rfl)) (by decide) (by decide) (own_ew hw) H0) (g := (mkF m 6 #[.val (.ref a1), .val (.ref b)] [.null, (.int (0 : Int32)), (.int (0 : Int32)), (.ref b), (.ref a1)])) rfl (by rw [hml]; rfl) (Steps.refl _) (a := a1) (argsL := [(.ref b), (.int (0 : Int32)), (.int (0 : Int32)), .null]) (rest := []) (lenOf own_pd13 rfl) rfl (by show 2 * 0 + _ ≤ _; exact Nat.le_of_eq rfl) (hb hby own_d_jdk_42_3_6) (fun _ _ => ⟨rfl, e0, (by decide : 0 + 4 ≤ _), (by decide : 0 + 8 ≤ _)⟩)
  dsimp only [Pt.U, Pt.locs, Pt.cells, Pt.slots] at Y2_ l2_ y2_ z2_ st2_ hQ2_ hSq2_ hgq2_ Cq2_
  subst l2_ y2_ z2_
  obtain ⟨X2_, hS2_, hZ2_, hown2_⟩ := rebS hS0 (by rw [e0]; exact hk0) Y2_ hSq2_ hgq2_ hZ hown
  obtain ⟨t, kt, rfl, Nq2_, K2_, r3_, r4_, r5_, r6_⟩ := hQ2_
  have N2_ := Fr.app N0 Nq2_
  refine own_viaH (fun _ k => st2_.trans k) ?_
  show own_FinH _ _ _ _ _ _ _ _ _ T2_ (mkF m 9 #[.val (.ref a1), .val (.ref b)] [])
  have C7_ := C0.trans Cq2_
  have H7_ := C7_.1
  exact own_ret0H X2_ hx Bd.returns Bd.notSynchronized (own_ew hw) hZ2_ hS2_ (Nat.le_refl _) hh C7_ (hb hby own_d_jdk_42_3_9) rfl ⟨t, kt, rfl, N2_, ((Keep.refl h0 [a1]).trans K2_ (allS (Or.inl (List.mem_of_getElem? (i := 0) rfl)) all0)), r3_, r4_, r5_, r6_⟩ (by decide) (by decide)
theorem own_d_jdk_89_16_0 : decode jdk_89_method_16_code 0 = .ok (.iload_n 0, 1) := by decide +kernel
theorem own_d_jdk_89_16_1 : decode jdk_89_method_16_code 1 = .ok (.ldc 75, 2) := by decide +kernel
theorem own_d_jdk_89_16_3 : decode jdk_89_method_16_code 3 = .ok (.if_icmp .lt 13, 3) := by decide +kernel
theorem own_d_jdk_89_16_16 : decode jdk_89_method_16_code 16 = .ok (.iconst 0, 1) := by decide +kernel
theorem own_d_jdk_89_16_17 : decode jdk_89_method_16_code 17 = .ok (.ireturn, 1) := by decide +kernel
theorem own_d_jdk_89_16_6 : decode jdk_89_method_16_code 6 = .ok (.iload_n 0, 1) := by decide +kernel
theorem own_d_jdk_89_16_7 : decode jdk_89_method_16_code 7 = .ok (.ldc 77, 2) := by decide +kernel
theorem own_d_jdk_89_16_9 : decode jdk_89_method_16_code 9 = .ok (.if_icmp .ge 7, 3) := by decide +kernel
theorem own_d_jdk_89_16_12 : decode jdk_89_method_16_code 12 = .ok (.iconst 1, 1) := by decide +kernel
theorem own_d_jdk_89_16_13 : decode jdk_89_method_16_code 13 = .ok (.goto 4, 3) := by decide +kernel
theorem own_pn4 : plainName "java/lang/Character" = true := by first | (simp [plainName, overriddenIn]; done) | decide +kernel
theorem own_ef_isSur (m : MethodId) (c : Int32) : entryFrame m #[(.int c)] 1 = mkF m 0 #[.val (.int c)] [] := by (first | (simp [entryFrame, mkF, argsToLocals, Value.category]; done) | rfl)
def own_Q_isSur (Z : State) (c : Int32) (h0 : Heap) (n0 : Nat) (vq : Option Value) (h : Heap) (Lq : List Loc) : Prop := ∃ (r : Int32), (vq = some (.int r)) ∧ (Fr n0 Lq) ∧ (h = h0) ∧ ((r = (1 : Int32) ∧ own_sur c) ∨ (r = (0 : Int32) ∧ ¬ own_sur c))
set_option maxRecDepth 65536 in
set_option maxHeartbeats 40000000 in
theorem own_rm_isSur (l : Launch) (Z : State) (a0 : Array Value) (hw : ∀ d ∈ tables_1, d.before a0 Z = true) (wsq : List Jvm.Cond) (c : Int32) (h0 : Heap) (n0 : Nat) (Z0 : n0 ≤ h0.size) :
    MetFree l (⟨"java/lang/Character", "isSurrogate", "(C)Z"⟩ : MethodName) (head1 (Jvm.Cond.code (⟨"java/lang/Character", "isSurrogate", "(C)Z"⟩ : MethodName) jdk_89_method_16_code 1 (some .boolean) :: wsq) ({ frames := 0, cells := 0, slots := 0, locals := 0 } : Room)) (fun aq Uq => aq = #[(.int c)] ∧ Z.Warmed39 Uq.vm ∧ Uq.heap = h0) (fun _ _ _ _ _ => True) (fun _ Uq oq Uq' => ∃ vq Lq, oq = .returned vq ∧ own_Q_isSur Z c h0 n0 vq Uq'.heap Lq ∧ FrameEnd Uq oq Uq' Lq ({ frames := 0, cells := 0, slots := 0, locals := 0 } : Room).cells ({ frames := 0, cells := 0, slots := 0, locals := 0 } : Room).slots) := by
  refine MetFree.of_bodySF (plainFor_of_name own_pn4) hisR ?_
  intro p e s m args below meth cde s₁ Bd hml0 hP hK
  obtain ⟨rfl, hZ, hh⟩ := hP
  have hx := Bd.exec
  have hby := Bd.bytes
  have hml : cde.maxLocals = 1 := hml0
  have hown : s.vm.findClass "java/lang/Character" = some m.cls := findClass_of_methodNamed Bd.named
  have hnm := (name_of_methodNamed Bd.named Bd.method).1
  have X0 : Stand p l e ({ frames := 0, cells := 0, slots := 0, locals := 0 } : Room) s m #[(.int c)] below meth cde s₁ [] 0 0 := Stand.of_body Bd
  have e0 : s₁.heap = h0 := by rw [← hh, Bd.state]; rfl
  have N0 := Fr.nil n0
  show own_Fin p e s below (own_Q_isSur Z c h0 n0) ({ frames := 0, cells := 0, slots := 0, locals := 0 } : Room).cells ({ frames := 0, cells := 0, slots := 0, locals := 0 } : Room).slots s₁ (entryFrame m #[(.int c)] 1)
  rw [own_ef_isSur m c]
  refine own_via (fun _ k => XS.iloadN X0.here hx rfl (hb hby own_d_jdk_89_16_0) rfl k) ?_
  show own_Fin _ _ _ _ _ _ _ s₁ (mkF m 1 #[.val (.int c)] [(.int c)])
  refine own_via (fun _ k => X0.ldcInt hx hown (mvT hZ (hw _ (List.mem_of_getElem? (i := 130) rfl))) (g := (mkF m 1 #[.val (.int c)] [(.int c)])) rfl (hb hby own_d_jdk_89_16_1) _ k) ?_
  show own_Fin _ _ _ _ _ _ _ s₁ (mkF m 3 #[.val (.int c)] [(.int (55296 : Int32)), (.int c)])
  rcases Classical.em (c < (55296 : Int32)) with h1 | h1
  · refine own_via (fun _ k => XS.icmpYes X0.here hx rfl (pc0 := 3) (pc' := 16) rfl (hb hby own_d_jdk_89_16_3) rfl (tlt h1).1 (by decide) (by decide) k) ?_
    show own_Fin _ _ _ _ _ _ _ s₁ (mkF m 16 #[.val (.int c)] [])
    refine own_via (fun _ k => XS.iconst X0.here hx rfl (hb hby own_d_jdk_89_16_16) k) ?_
    show own_Fin _ _ _ _ _ _ _ s₁ (mkF m 17 #[.val (.int c)] [(.int (0 : Int32))])
    exact own_retN X0 hx (t := .boolean) Bd.returns Bd.notSynchronized (by simp) (hb hby own_d_jdk_89_16_17) e0 rfl ⟨(0 : Int32), rfl, N0, rfl, (Or.inr ⟨rfl, fun q => own_sur_a h1 q⟩)⟩ (by decide) (by decide)
  · refine own_via (fun _ k => XS.icmpNo X0.here hx rfl (hb hby own_d_jdk_89_16_3) rfl (flt h1).1 k) ?_
    show own_Fin _ _ _ _ _ _ _ s₁ (mkF m 6 #[.val (.int c)] [])
    refine own_via (fun _ k => XS.iloadN X0.here hx rfl (hb hby own_d_jdk_89_16_6) rfl k) ?_
    show own_Fin _ _ _ _ _ _ _ s₁ (mkF m 7 #[.val (.int c)] [(.int c)])
    refine own_via (fun _ k => X0.ldcInt hx hown (mvT hZ (hw _ (List.mem_of_getElem? (i := 131) rfl))) (g := (mkF m 7 #[.val (.int c)] [(.int c)])) rfl (hb hby own_d_jdk_89_16_7) _ k) ?_
    show own_Fin _ _ _ _ _ _ _ s₁ (mkF m 9 #[.val (.int c)] [(.int (57344 : Int32)), (.int c)])
    rcases Classical.em (c < (57344 : Int32)) with h2 | h2
    · refine own_via (fun _ k => XS.icmpNo X0.here hx rfl (hb hby own_d_jdk_89_16_9) rfl (tlt h2).2.1 k) ?_
      show own_Fin _ _ _ _ _ _ _ s₁ (mkF m 12 #[.val (.int c)] [])
      refine own_via (fun _ k => XS.iconst X0.here hx rfl (hb hby own_d_jdk_89_16_12) k) ?_
      show own_Fin _ _ _ _ _ _ _ s₁ (mkF m 13 #[.val (.int c)] [(.int (1 : Int32))])
      refine own_via (fun _ k => XS.goto X0.here hx rfl (pc0 := 13) (pc' := 17) rfl (hb hby own_d_jdk_89_16_13) (by decide) (by decide) k) ?_
      show own_Fin _ _ _ _ _ _ _ s₁ (mkF m 17 #[.val (.int c)] [(.int (1 : Int32))])
      exact own_retN X0 hx (t := .boolean) Bd.returns Bd.notSynchronized (by simp) (hb hby own_d_jdk_89_16_17) e0 rfl ⟨(1 : Int32), rfl, N0, rfl, (Or.inl ⟨rfl, own_sur_c h1 h2⟩)⟩ (by decide) (by decide)
    · refine own_via (fun _ k => XS.icmpYes X0.here hx rfl (pc0 := 9) (pc' := 16) rfl (hb hby own_d_jdk_89_16_9) rfl (flt h2).2.1 (by decide) (by decide) k) ?_
      show own_Fin _ _ _ _ _ _ _ s₁ (mkF m 16 #[.val (.int c)] [])
      refine own_via (fun _ k => XS.iconst X0.here hx rfl (hb hby own_d_jdk_89_16_16) k) ?_
      show own_Fin _ _ _ _ _ _ _ s₁ (mkF m 17 #[.val (.int c)] [(.int (0 : Int32))])
      exact own_retN X0 hx (t := .boolean) Bd.returns Bd.notSynchronized (by simp) (hb hby own_d_jdk_89_16_17) e0 rfl ⟨(0 : Int32), rfl, N0, rfl, (Or.inr ⟨rfl, fun q => own_sur_b h2 q⟩)⟩ (by decide) (by decide)
theorem own_d_jdk_89_14_0 : decode jdk_89_method_14_code 0 = .ok (.iload_n 0, 1) := by decide +kernel
theorem own_d_jdk_89_14_1 : decode jdk_89_method_14_code 1 = .ok (.ldc 75, 2) := by decide +kernel
theorem own_d_jdk_89_14_3 : decode jdk_89_method_14_code 3 = .ok (.if_icmp .lt 13, 3) := by decide +kernel
theorem own_d_jdk_89_14_16 : decode jdk_89_method_14_code 16 = .ok (.iconst 0, 1) := by decide +kernel
theorem own_d_jdk_89_14_17 : decode jdk_89_method_14_code 17 = .ok (.ireturn, 1) := by decide +kernel
theorem own_d_jdk_89_14_6 : decode jdk_89_method_14_code 6 = .ok (.iload_n 0, 1) := by decide +kernel
theorem own_d_jdk_89_14_7 : decode jdk_89_method_14_code 7 = .ok (.ldc 76, 2) := by decide +kernel
theorem own_d_jdk_89_14_9 : decode jdk_89_method_14_code 9 = .ok (.if_icmp .ge 7, 3) := by decide +kernel
theorem own_d_jdk_89_14_12 : decode jdk_89_method_14_code 12 = .ok (.iconst 1, 1) := by decide +kernel
theorem own_d_jdk_89_14_13 : decode jdk_89_method_14_code 13 = .ok (.goto 4, 3) := by decide +kernel
theorem own_ef_isHigh (m : MethodId) (c : Int32) : entryFrame m #[(.int c)] 1 = mkF m 0 #[.val (.int c)] [] := by (first | (simp [entryFrame, mkF, argsToLocals, Value.category]; done) | rfl)
def own_Q_isHigh (Z : State) (c : Int32) (h0 : Heap) (n0 : Nat) (vq : Option Value) (h : Heap) (Lq : List Loc) : Prop := ∃ (r : Int32), (vq = some (.int r)) ∧ (Fr n0 Lq) ∧ (h = h0) ∧ ((r = (1 : Int32) ∧ own_his c) ∨ (r = (0 : Int32) ∧ ¬ own_his c))
set_option maxRecDepth 65536 in
set_option maxHeartbeats 40000000 in
theorem own_rm_isHigh (l : Launch) (Z : State) (a0 : Array Value) (hw : ∀ d ∈ tables_1, d.before a0 Z = true) (wsq : List Jvm.Cond) (c : Int32) (h0 : Heap) (n0 : Nat) (Z0 : n0 ≤ h0.size) :
    MetFree l (⟨"java/lang/Character", "isHighSurrogate", "(C)Z"⟩ : MethodName) (head1 (Jvm.Cond.code (⟨"java/lang/Character", "isHighSurrogate", "(C)Z"⟩ : MethodName) jdk_89_method_14_code 1 (some .boolean) :: wsq) ({ frames := 0, cells := 0, slots := 0, locals := 0 } : Room)) (fun aq Uq => aq = #[(.int c)] ∧ Z.Warmed39 Uq.vm ∧ Uq.heap = h0) (fun _ _ _ _ _ => True) (fun _ Uq oq Uq' => ∃ vq Lq, oq = .returned vq ∧ own_Q_isHigh Z c h0 n0 vq Uq'.heap Lq ∧ FrameEnd Uq oq Uq' Lq ({ frames := 0, cells := 0, slots := 0, locals := 0 } : Room).cells ({ frames := 0, cells := 0, slots := 0, locals := 0 } : Room).slots) := by
  refine MetFree.of_bodySF (plainFor_of_name own_pn4) hisR ?_
  intro p e s m args below meth cde s₁ Bd hml0 hP hK
  obtain ⟨rfl, hZ, hh⟩ := hP
  have hx := Bd.exec
  have hby := Bd.bytes
  have hml : cde.maxLocals = 1 := hml0
  have hown : s.vm.findClass "java/lang/Character" = some m.cls := findClass_of_methodNamed Bd.named
  have hnm := (name_of_methodNamed Bd.named Bd.method).1
  have X0 : Stand p l e ({ frames := 0, cells := 0, slots := 0, locals := 0 } : Room) s m #[(.int c)] below meth cde s₁ [] 0 0 := Stand.of_body Bd
  have e0 : s₁.heap = h0 := by rw [← hh, Bd.state]; rfl
  have N0 := Fr.nil n0
  show own_Fin p e s below (own_Q_isHigh Z c h0 n0) ({ frames := 0, cells := 0, slots := 0, locals := 0 } : Room).cells ({ frames := 0, cells := 0, slots := 0, locals := 0 } : Room).slots s₁ (entryFrame m #[(.int c)] 1)
  rw [own_ef_isHigh m c]
  refine own_via (fun _ k => XS.iloadN X0.here hx rfl (hb hby own_d_jdk_89_14_0) rfl k) ?_
  show own_Fin _ _ _ _ _ _ _ s₁ (mkF m 1 #[.val (.int c)] [(.int c)])
  refine own_via (fun _ k => X0.ldcInt hx hown (mvT hZ (hw _ (List.mem_of_getElem? (i := 130) rfl))) (g := (mkF m 1 #[.val (.int c)] [(.int c)])) rfl (hb hby own_d_jdk_89_14_1) _ k) ?_
  show own_Fin _ _ _ _ _ _ _ s₁ (mkF m 3 #[.val (.int c)] [(.int (55296 : Int32)), (.int c)])
  rcases Classical.em (c < (55296 : Int32)) with h1 | h1
  · refine own_via (fun _ k => XS.icmpYes X0.here hx rfl (pc0 := 3) (pc' := 16) rfl (hb hby own_d_jdk_89_14_3) rfl (tlt h1).1 (by decide) (by decide) k) ?_
    show own_Fin _ _ _ _ _ _ _ s₁ (mkF m 16 #[.val (.int c)] [])
    refine own_via (fun _ k => XS.iconst X0.here hx rfl (hb hby own_d_jdk_89_14_16) k) ?_
    show own_Fin _ _ _ _ _ _ _ s₁ (mkF m 17 #[.val (.int c)] [(.int (0 : Int32))])
    exact own_retN X0 hx (t := .boolean) Bd.returns Bd.notSynchronized (by simp) (hb hby own_d_jdk_89_14_17) e0 rfl ⟨(0 : Int32), rfl, N0, rfl, (Or.inr ⟨rfl, fun q => own_his_a h1 q⟩)⟩ (by decide) (by decide)
  · refine own_via (fun _ k => XS.icmpNo X0.here hx rfl (hb hby own_d_jdk_89_14_3) rfl (flt h1).1 k) ?_
    show own_Fin _ _ _ _ _ _ _ s₁ (mkF m 6 #[.val (.int c)] [])
    refine own_via (fun _ k => XS.iloadN X0.here hx rfl (hb hby own_d_jdk_89_14_6) rfl k) ?_
    show own_Fin _ _ _ _ _ _ _ s₁ (mkF m 7 #[.val (.int c)] [(.int c)])
    refine own_via (fun _ k => X0.ldcInt hx hown (mvT hZ (hw _ (List.mem_of_getElem? (i := 147) rfl))) (g := (mkF m 7 #[.val (.int c)] [(.int c)])) rfl (hb hby own_d_jdk_89_14_7) _ k) ?_
    show own_Fin _ _ _ _ _ _ _ s₁ (mkF m 9 #[.val (.int c)] [(.int (56320 : Int32)), (.int c)])
    rcases Classical.em (c < (56320 : Int32)) with h2 | h2
    · refine own_via (fun _ k => XS.icmpNo X0.here hx rfl (hb hby own_d_jdk_89_14_9) rfl (tlt h2).2.1 k) ?_
      show own_Fin _ _ _ _ _ _ _ s₁ (mkF m 12 #[.val (.int c)] [])
      refine own_via (fun _ k => XS.iconst X0.here hx rfl (hb hby own_d_jdk_89_14_12) k) ?_
      show own_Fin _ _ _ _ _ _ _ s₁ (mkF m 13 #[.val (.int c)] [(.int (1 : Int32))])
      refine own_via (fun _ k => XS.goto X0.here hx rfl (pc0 := 13) (pc' := 17) rfl (hb hby own_d_jdk_89_14_13) (by decide) (by decide) k) ?_
      show own_Fin _ _ _ _ _ _ _ s₁ (mkF m 17 #[.val (.int c)] [(.int (1 : Int32))])
      exact own_retN X0 hx (t := .boolean) Bd.returns Bd.notSynchronized (by simp) (hb hby own_d_jdk_89_14_17) e0 rfl ⟨(1 : Int32), rfl, N0, rfl, (Or.inl ⟨rfl, own_his_c h1 h2⟩)⟩ (by decide) (by decide)
    · refine own_via (fun _ k => XS.icmpYes X0.here hx rfl (pc0 := 9) (pc' := 16) rfl (hb hby own_d_jdk_89_14_9) rfl (flt h2).2.1 (by decide) (by decide) k) ?_
      show own_Fin _ _ _ _ _ _ _ s₁ (mkF m 16 #[.val (.int c)] [])
      refine own_via (fun _ k => XS.iconst X0.here hx rfl (hb hby own_d_jdk_89_14_16) k) ?_
      show own_Fin _ _ _ _ _ _ _ s₁ (mkF m 17 #[.val (.int c)] [(.int (0 : Int32))])
      exact own_retN X0 hx (t := .boolean) Bd.returns Bd.notSynchronized (by simp) (hb hby own_d_jdk_89_14_17) e0 rfl ⟨(0 : Int32), rfl, N0, rfl, (Or.inr ⟨rfl, fun q => own_his_b h2 q⟩)⟩ (by decide) (by decide)
theorem own_d_jdk_89_15_0 : decode jdk_89_method_15_code 0 = .ok (.iload_n 0, 1) := by decide +kernel
theorem own_d_jdk_89_15_1 : decode jdk_89_method_15_code 1 = .ok (.ldc 76, 2) := by decide +kernel
theorem own_d_jdk_89_15_3 : decode jdk_89_method_15_code 3 = .ok (.if_icmp .lt 13, 3) := by decide +kernel
theorem own_d_jdk_89_15_16 : decode jdk_89_method_15_code 16 = .ok (.iconst 0, 1) := by decide +kernel
theorem own_d_jdk_89_15_17 : decode jdk_89_method_15_code 17 = .ok (.ireturn, 1) := by decide +kernel
theorem own_d_jdk_89_15_6 : decode jdk_89_method_15_code 6 = .ok (.iload_n 0, 1) := by decide +kernel
theorem own_d_jdk_89_15_7 : decode jdk_89_method_15_code 7 = .ok (.ldc 77, 2) := by decide +kernel
theorem own_d_jdk_89_15_9 : decode jdk_89_method_15_code 9 = .ok (.if_icmp .ge 7, 3) := by decide +kernel
theorem own_d_jdk_89_15_12 : decode jdk_89_method_15_code 12 = .ok (.iconst 1, 1) := by decide +kernel
theorem own_d_jdk_89_15_13 : decode jdk_89_method_15_code 13 = .ok (.goto 4, 3) := by decide +kernel
theorem own_ef_isLow (m : MethodId) (c : Int32) : entryFrame m #[(.int c)] 1 = mkF m 0 #[.val (.int c)] [] := by (first | (simp [entryFrame, mkF, argsToLocals, Value.category]; done) | rfl)
def own_Q_isLow (Z : State) (c : Int32) (h0 : Heap) (n0 : Nat) (vq : Option Value) (h : Heap) (Lq : List Loc) : Prop := ∃ (r : Int32), (vq = some (.int r)) ∧ (Fr n0 Lq) ∧ (h = h0) ∧ ((r = (1 : Int32) ∧ own_los c) ∨ (r = (0 : Int32) ∧ ¬ own_los c))
set_option maxRecDepth 65536 in
set_option maxHeartbeats 40000000 in
theorem own_rm_isLow (l : Launch) (Z : State) (a0 : Array Value) (hw : ∀ d ∈ tables_1, d.before a0 Z = true) (wsq : List Jvm.Cond) (c : Int32) (h0 : Heap) (n0 : Nat) (Z0 : n0 ≤ h0.size) :
    MetFree l (⟨"java/lang/Character", "isLowSurrogate", "(C)Z"⟩ : MethodName) (head1 (Jvm.Cond.code (⟨"java/lang/Character", "isLowSurrogate", "(C)Z"⟩ : MethodName) jdk_89_method_15_code 1 (some .boolean) :: wsq) ({ frames := 0, cells := 0, slots := 0, locals := 0 } : Room)) (fun aq Uq => aq = #[(.int c)] ∧ Z.Warmed39 Uq.vm ∧ Uq.heap = h0) (fun _ _ _ _ _ => True) (fun _ Uq oq Uq' => ∃ vq Lq, oq = .returned vq ∧ own_Q_isLow Z c h0 n0 vq Uq'.heap Lq ∧ FrameEnd Uq oq Uq' Lq ({ frames := 0, cells := 0, slots := 0, locals := 0 } : Room).cells ({ frames := 0, cells := 0, slots := 0, locals := 0 } : Room).slots) := by
  refine MetFree.of_bodySF (plainFor_of_name own_pn4) hisR ?_
  intro p e s m args below meth cde s₁ Bd hml0 hP hK
  obtain ⟨rfl, hZ, hh⟩ := hP
  have hx := Bd.exec
  have hby := Bd.bytes
  have hml : cde.maxLocals = 1 := hml0
  have hown : s.vm.findClass "java/lang/Character" = some m.cls := findClass_of_methodNamed Bd.named
  have hnm := (name_of_methodNamed Bd.named Bd.method).1
  have X0 : Stand p l e ({ frames := 0, cells := 0, slots := 0, locals := 0 } : Room) s m #[(.int c)] below meth cde s₁ [] 0 0 := Stand.of_body Bd
  have e0 : s₁.heap = h0 := by rw [← hh, Bd.state]; rfl
  have N0 := Fr.nil n0
  show own_Fin p e s below (own_Q_isLow Z c h0 n0) ({ frames := 0, cells := 0, slots := 0, locals := 0 } : Room).cells ({ frames := 0, cells := 0, slots := 0, locals := 0 } : Room).slots s₁ (entryFrame m #[(.int c)] 1)
  rw [own_ef_isLow m c]
  refine own_via (fun _ k => XS.iloadN X0.here hx rfl (hb hby own_d_jdk_89_15_0) rfl k) ?_
  show own_Fin _ _ _ _ _ _ _ s₁ (mkF m 1 #[.val (.int c)] [(.int c)])
  refine own_via (fun _ k => X0.ldcInt hx hown (mvT hZ (hw _ (List.mem_of_getElem? (i := 147) rfl))) (g := (mkF m 1 #[.val (.int c)] [(.int c)])) rfl (hb hby own_d_jdk_89_15_1) _ k) ?_
  show own_Fin _ _ _ _ _ _ _ s₁ (mkF m 3 #[.val (.int c)] [(.int (56320 : Int32)), (.int c)])
  rcases Classical.em (c < (56320 : Int32)) with h1 | h1
  · refine own_via (fun _ k => XS.icmpYes X0.here hx rfl (pc0 := 3) (pc' := 16) rfl (hb hby own_d_jdk_89_15_3) rfl (tlt h1).1 (by decide) (by decide) k) ?_
    show own_Fin _ _ _ _ _ _ _ s₁ (mkF m 16 #[.val (.int c)] [])
    refine own_via (fun _ k => XS.iconst X0.here hx rfl (hb hby own_d_jdk_89_15_16) k) ?_
    show own_Fin _ _ _ _ _ _ _ s₁ (mkF m 17 #[.val (.int c)] [(.int (0 : Int32))])
    exact own_retN X0 hx (t := .boolean) Bd.returns Bd.notSynchronized (by simp) (hb hby own_d_jdk_89_15_17) e0 rfl ⟨(0 : Int32), rfl, N0, rfl, (Or.inr ⟨rfl, fun q => own_los_a h1 q⟩)⟩ (by decide) (by decide)
  · refine own_via (fun _ k => XS.icmpNo X0.here hx rfl (hb hby own_d_jdk_89_15_3) rfl (flt h1).1 k) ?_
    show own_Fin _ _ _ _ _ _ _ s₁ (mkF m 6 #[.val (.int c)] [])
    refine own_via (fun _ k => XS.iloadN X0.here hx rfl (hb hby own_d_jdk_89_15_6) rfl k) ?_
    show own_Fin _ _ _ _ _ _ _ s₁ (mkF m 7 #[.val (.int c)] [(.int c)])
    refine own_via (fun _ k => X0.ldcInt hx hown (mvT hZ (hw _ (List.mem_of_getElem? (i := 131) rfl))) (g := (mkF m 7 #[.val (.int c)] [(.int c)])) rfl (hb hby own_d_jdk_89_15_7) _ k) ?_
    show own_Fin _ _ _ _ _ _ _ s₁ (mkF m 9 #[.val (.int c)] [(.int (57344 : Int32)), (.int c)])
    rcases Classical.em (c < (57344 : Int32)) with h2 | h2
    · refine own_via (fun _ k => XS.icmpNo X0.here hx rfl (hb hby own_d_jdk_89_15_9) rfl (tlt h2).2.1 k) ?_
      show own_Fin _ _ _ _ _ _ _ s₁ (mkF m 12 #[.val (.int c)] [])
      refine own_via (fun _ k => XS.iconst X0.here hx rfl (hb hby own_d_jdk_89_15_12) k) ?_
      show own_Fin _ _ _ _ _ _ _ s₁ (mkF m 13 #[.val (.int c)] [(.int (1 : Int32))])
      refine own_via (fun _ k => XS.goto X0.here hx rfl (pc0 := 13) (pc' := 17) rfl (hb hby own_d_jdk_89_15_13) (by decide) (by decide) k) ?_
      show own_Fin _ _ _ _ _ _ _ s₁ (mkF m 17 #[.val (.int c)] [(.int (1 : Int32))])
      exact own_retN X0 hx (t := .boolean) Bd.returns Bd.notSynchronized (by simp) (hb hby own_d_jdk_89_15_17) e0 rfl ⟨(1 : Int32), rfl, N0, rfl, (Or.inl ⟨rfl, own_los_c h1 h2⟩)⟩ (by decide) (by decide)
    · refine own_via (fun _ k => XS.icmpYes X0.here hx rfl (pc0 := 9) (pc' := 16) rfl (hb hby own_d_jdk_89_15_9) rfl (flt h2).2.1 (by decide) (by decide) k) ?_
      show own_Fin _ _ _ _ _ _ _ s₁ (mkF m 16 #[.val (.int c)] [])
      refine own_via (fun _ k => XS.iconst X0.here hx rfl (hb hby own_d_jdk_89_15_16) k) ?_
      show own_Fin _ _ _ _ _ _ _ s₁ (mkF m 17 #[.val (.int c)] [(.int (0 : Int32))])
      exact own_retN X0 hx (t := .boolean) Bd.returns Bd.notSynchronized (by simp) (hb hby own_d_jdk_89_15_17) e0 rfl ⟨(0 : Int32), rfl, N0, rfl, (Or.inr ⟨rfl, fun q => own_los_b h2 q⟩)⟩ (by decide) (by decide)
theorem own_d_jdk_89_19_0 : decode jdk_89_method_19_code 0 = .ok (.iload_n 0, 1) := by decide +kernel
theorem own_d_jdk_89_19_1 : decode jdk_89_method_19_code 1 = .ok (.bipush 10, 2) := by decide +kernel
theorem own_d_jdk_89_19_3 : decode jdk_89_method_19_code 3 = .ok (.ishl, 1) := by decide +kernel
theorem own_d_jdk_89_19_4 : decode jdk_89_method_19_code 4 = .ok (.iload_n 1, 1) := by decide +kernel
theorem own_d_jdk_89_19_5 : decode jdk_89_method_19_code 5 = .ok (.iadd, 1) := by decide +kernel
theorem own_d_jdk_89_19_6 : decode jdk_89_method_19_code 6 = .ok (.ldc 85, 2) := by decide +kernel
theorem own_d_jdk_89_19_8 : decode jdk_89_method_19_code 8 = .ok (.iadd, 1) := by decide +kernel
theorem own_d_jdk_89_19_9 : decode jdk_89_method_19_code 9 = .ok (.ireturn, 1) := by decide +kernel
theorem own_ef_toCP (m : MethodId) (c : Int32) (d : Int32) : entryFrame m #[(.int c), (.int d)] 2 = mkF m 0 #[.val (.int c), .val (.int d)] [] := by (first | (simp [entryFrame, mkF, argsToLocals, Value.category]; done) | rfl)
def own_Q_toCP (Z : State) (c : Int32) (d : Int32) (h0 : Heap) (n0 : Nat) (vq : Option Value) (h : Heap) (Lq : List Loc) : Prop := (vq = some (.int (own_tcp c d))) ∧ (Fr n0 Lq) ∧ (h = h0)
set_option maxRecDepth 65536 in
set_option maxHeartbeats 40000000 in
theorem own_rm_toCP (l : Launch) (Z : State) (a0 : Array Value) (hw : ∀ d ∈ tables_1, d.before a0 Z = true) (wsq : List Jvm.Cond) (c : Int32) (d : Int32) (h0 : Heap) (n0 : Nat) (Z0 : n0 ≤ h0.size) :
    MetFree l (⟨"java/lang/Character", "toCodePoint", "(CC)I"⟩ : MethodName) (head1 (Jvm.Cond.code (⟨"java/lang/Character", "toCodePoint", "(CC)I"⟩ : MethodName) jdk_89_method_19_code 2 (some .int) :: wsq) ({ frames := 0, cells := 0, slots := 0, locals := 0 } : Room)) (fun aq Uq => aq = #[(.int c), (.int d)] ∧ Z.Warmed39 Uq.vm ∧ Uq.heap = h0) (fun _ _ _ _ _ => True) (fun _ Uq oq Uq' => ∃ vq Lq, oq = .returned vq ∧ own_Q_toCP Z c d h0 n0 vq Uq'.heap Lq ∧ FrameEnd Uq oq Uq' Lq ({ frames := 0, cells := 0, slots := 0, locals := 0 } : Room).cells ({ frames := 0, cells := 0, slots := 0, locals := 0 } : Room).slots) := by
  refine MetFree.of_bodySF (plainFor_of_name own_pn4) hisR ?_
  intro p e s m args below meth cde s₁ Bd hml0 hP hK
  obtain ⟨rfl, hZ, hh⟩ := hP
  have hx := Bd.exec
  have hby := Bd.bytes
  have hml : cde.maxLocals = 2 := hml0
  have hown : s.vm.findClass "java/lang/Character" = some m.cls := findClass_of_methodNamed Bd.named
  have hnm := (name_of_methodNamed Bd.named Bd.method).1
  have X0 : Stand p l e ({ frames := 0, cells := 0, slots := 0, locals := 0 } : Room) s m #[(.int c), (.int d)] below meth cde s₁ [] 0 0 := Stand.of_body Bd
  have e0 : s₁.heap = h0 := by rw [← hh, Bd.state]; rfl
  have N0 := Fr.nil n0
  show own_Fin p e s below (own_Q_toCP Z c d h0 n0) ({ frames := 0, cells := 0, slots := 0, locals := 0 } : Room).cells ({ frames := 0, cells := 0, slots := 0, locals := 0 } : Room).slots s₁ (entryFrame m #[(.int c), (.int d)] 2)
  rw [own_ef_toCP m c d]
  refine own_via (fun _ k => XS.iloadN X0.here hx rfl (hb hby own_d_jdk_89_19_0) rfl k) ?_
  show own_Fin _ _ _ _ _ _ _ s₁ (mkF m 1 #[.val (.int c), .val (.int d)] [(.int c)])
  refine own_via (fun _ k => XS.bipush X0.here hx rfl (hb hby own_d_jdk_89_19_1) k) ?_
  show own_Fin _ _ _ _ _ _ _ s₁ (mkF m 3 #[.val (.int c), .val (.int d)] [(.int (10 : Int32)), (.int c)])
  refine own_via (fun _ k => XS.ishl X0.here hx rfl (hb hby own_d_jdk_89_19_3) rfl k) ?_
  show own_Fin _ _ _ _ _ _ _ s₁ (mkF m 4 #[.val (.int c), .val (.int d)] [(.int (c <<< ((10 : Int32) &&& 31)))])
  refine own_via (fun _ k => XS.iloadN X0.here hx rfl (hb hby own_d_jdk_89_19_4) rfl k) ?_
  show own_Fin _ _ _ _ _ _ _ s₁ (mkF m 5 #[.val (.int c), .val (.int d)] [(.int d), (.int (c <<< ((10 : Int32) &&& 31)))])
  refine own_via (fun _ k => XS.iadd X0.here hx rfl (hb hby own_d_jdk_89_19_5) rfl k) ?_
  show own_Fin _ _ _ _ _ _ _ s₁ (mkF m 6 #[.val (.int c), .val (.int d)] [(.int ((c <<< ((10 : Int32) &&& 31)) + d))])
  refine own_via (fun _ k => X0.ldcInt hx hown (mvT hZ (hw _ (List.mem_of_getElem? (i := 154) rfl))) (g := (mkF m 6 #[.val (.int c), .val (.int d)] [(.int ((c <<< ((10 : Int32) &&& 31)) + d))])) rfl (hb hby own_d_jdk_89_19_6) _ k) ?_
  show own_Fin _ _ _ _ _ _ _ s₁ (mkF m 8 #[.val (.int c), .val (.int d)] [(.int (-56613888 : Int32)), (.int ((c <<< ((10 : Int32) &&& 31)) + d))])
  refine own_via (fun _ k => XS.iadd X0.here hx rfl (hb hby own_d_jdk_89_19_8) rfl k) ?_
  show own_Fin _ _ _ _ _ _ _ s₁ (mkF m 9 #[.val (.int c), .val (.int d)] [(.int (((c <<< ((10 : Int32) &&& 31)) + d) + (-56613888 : Int32)))])
  exact own_retI X0 hx Bd.returns Bd.notSynchronized (hb hby own_d_jdk_89_19_9) e0 rfl ⟨rfl, N0, rfl⟩ (by decide) (by decide)
theorem own_d_jdk_89_98_0 : decode jdk_89_method_98_code 0 = .ok (.iload_n 0, 1) := by decide +kernel
theorem own_d_jdk_89_98_1 : decode jdk_89_method_98_code 1 = .ok (.iload_n 1, 1) := by decide +kernel
theorem own_d_jdk_89_98_2 : decode jdk_89_method_98_code 2 = .ok (.isub, 1) := by decide +kernel
theorem own_d_jdk_89_98_3 : decode jdk_89_method_98_code 3 = .ok (.ireturn, 1) := by decide +kernel
theorem own_ef_chCmp (m : MethodId) (c : Int32) (d : Int32) : entryFrame m #[(.int c), (.int d)] 2 = mkF m 0 #[.val (.int c), .val (.int d)] [] := by (first | (simp [entryFrame, mkF, argsToLocals, Value.category]; done) | rfl)
def own_Q_chCmp (Z : State) (c : Int32) (d : Int32) (h0 : Heap) (n0 : Nat) (vq : Option Value) (h : Heap) (Lq : List Loc) : Prop := (vq = some (.int (c - d))) ∧ (Fr n0 Lq) ∧ (h = h0)
set_option maxRecDepth 65536 in
set_option maxHeartbeats 40000000 in
theorem own_rm_chCmp (l : Launch) (Z : State) (a0 : Array Value) (hw : ∀ d ∈ tables_1, d.before a0 Z = true) (wsq : List Jvm.Cond) (c : Int32) (d : Int32) (h0 : Heap) (n0 : Nat) (Z0 : n0 ≤ h0.size) :
    MetFree l (⟨"java/lang/Character", "compare", "(CC)I"⟩ : MethodName) (head1 (Jvm.Cond.code (⟨"java/lang/Character", "compare", "(CC)I"⟩ : MethodName) jdk_89_method_98_code 2 (some .int) :: wsq) ({ frames := 0, cells := 0, slots := 0, locals := 0 } : Room)) (fun aq Uq => aq = #[(.int c), (.int d)] ∧ Z.Warmed39 Uq.vm ∧ Uq.heap = h0) (fun _ _ _ _ _ => True) (fun _ Uq oq Uq' => ∃ vq Lq, oq = .returned vq ∧ own_Q_chCmp Z c d h0 n0 vq Uq'.heap Lq ∧ FrameEnd Uq oq Uq' Lq ({ frames := 0, cells := 0, slots := 0, locals := 0 } : Room).cells ({ frames := 0, cells := 0, slots := 0, locals := 0 } : Room).slots) := by
  refine MetFree.of_bodySF (plainFor_of_name own_pn4) hisR ?_
  intro p e s m args below meth cde s₁ Bd hml0 hP hK
  obtain ⟨rfl, hZ, hh⟩ := hP
  have hx := Bd.exec
  have hby := Bd.bytes
  have hml : cde.maxLocals = 2 := hml0
  have hown : s.vm.findClass "java/lang/Character" = some m.cls := findClass_of_methodNamed Bd.named
  have hnm := (name_of_methodNamed Bd.named Bd.method).1
  have X0 : Stand p l e ({ frames := 0, cells := 0, slots := 0, locals := 0 } : Room) s m #[(.int c), (.int d)] below meth cde s₁ [] 0 0 := Stand.of_body Bd
  have e0 : s₁.heap = h0 := by rw [← hh, Bd.state]; rfl
  have N0 := Fr.nil n0
  show own_Fin p e s below (own_Q_chCmp Z c d h0 n0) ({ frames := 0, cells := 0, slots := 0, locals := 0 } : Room).cells ({ frames := 0, cells := 0, slots := 0, locals := 0 } : Room).slots s₁ (entryFrame m #[(.int c), (.int d)] 2)
  rw [own_ef_chCmp m c d]
  refine own_via (fun _ k => XS.iloadN X0.here hx rfl (hb hby own_d_jdk_89_98_0) rfl k) ?_
  show own_Fin _ _ _ _ _ _ _ s₁ (mkF m 1 #[.val (.int c), .val (.int d)] [(.int c)])
  refine own_via (fun _ k => XS.iloadN X0.here hx rfl (hb hby own_d_jdk_89_98_1) rfl k) ?_
  show own_Fin _ _ _ _ _ _ _ s₁ (mkF m 2 #[.val (.int c), .val (.int d)] [(.int d), (.int c)])
  refine own_via (fun _ k => XS.isub X0.here hx rfl (hb hby own_d_jdk_89_98_2) rfl k) ?_
  show own_Fin _ _ _ _ _ _ _ s₁ (mkF m 3 #[.val (.int c), .val (.int d)] [(.int (c - d))])
  exact own_retI X0 hx Bd.returns Bd.notSynchronized (hb hby own_d_jdk_89_98_3) e0 rfl ⟨rfl, N0, rfl⟩ (by decide) (by decide)
theorem own_d_jdk_33_40_0 : decode jdk_33_method_40_code 0 = .ok (.iload_n 0, 1) := by decide +kernel
theorem own_d_jdk_33_40_1 : decode jdk_33_method_40_code 1 = .ok (.iload_n 1, 1) := by decide +kernel
theorem own_d_jdk_33_40_2 : decode jdk_33_method_40_code 2 = .ok (.if_icmp .ge 7, 3) := by decide +kernel
theorem own_d_jdk_33_40_5 : decode jdk_33_method_40_code 5 = .ok (.iconst (-1), 1) := by decide +kernel
theorem own_d_jdk_33_40_6 : decode jdk_33_method_40_code 6 = .ok (.goto 13, 3) := by decide +kernel
theorem own_d_jdk_33_40_19 : decode jdk_33_method_40_code 19 = .ok (.ireturn, 1) := by decide +kernel
theorem own_d_jdk_33_40_9 : decode jdk_33_method_40_code 9 = .ok (.iload_n 0, 1) := by decide +kernel
theorem own_d_jdk_33_40_10 : decode jdk_33_method_40_code 10 = .ok (.iload_n 1, 1) := by decide +kernel
theorem own_d_jdk_33_40_11 : decode jdk_33_method_40_code 11 = .ok (.if_icmp .ne 7, 3) := by decide +kernel
theorem own_d_jdk_33_40_18 : decode jdk_33_method_40_code 18 = .ok (.iconst 1, 1) := by decide +kernel
theorem own_d_jdk_33_40_14 : decode jdk_33_method_40_code 14 = .ok (.iconst 0, 1) := by decide +kernel
theorem own_d_jdk_33_40_15 : decode jdk_33_method_40_code 15 = .ok (.goto 4, 3) := by decide +kernel
theorem own_pn5 : plainName "java/lang/Integer" = true := by first | (simp [plainName, overriddenIn]; done) | decide +kernel
theorem own_ef_intCmp (m : MethodId) (x : Int32) (y : Int32) : entryFrame m #[(.int x), (.int y)] 2 = mkF m 0 #[.val (.int x), .val (.int y)] [] := by (first | (simp [entryFrame, mkF, argsToLocals, Value.category]; done) | rfl)
def own_Q_intCmp (Z : State) (x : Int32) (y : Int32) (h0 : Heap) (n0 : Nat) (vq : Option Value) (h : Heap) (Lq : List Loc) : Prop := ∃ (r : Int32), (vq = some (.int r)) ∧ (Fr n0 Lq) ∧ (h = h0) ∧ (own_sig x.toInt y.toInt r)
set_option maxRecDepth 65536 in
set_option maxHeartbeats 40000000 in
theorem own_rm_intCmp (l : Launch) (Z : State) (a0 : Array Value) (hw : ∀ d ∈ tables_1, d.before a0 Z = true) (wsq : List Jvm.Cond) (x : Int32) (y : Int32) (h0 : Heap) (n0 : Nat) (Z0 : n0 ≤ h0.size) :
    MetFree l (⟨"java/lang/Integer", "compare", "(II)I"⟩ : MethodName) (head1 (Jvm.Cond.code (⟨"java/lang/Integer", "compare", "(II)I"⟩ : MethodName) jdk_33_method_40_code 2 (some .int) :: wsq) ({ frames := 0, cells := 0, slots := 0, locals := 0 } : Room)) (fun aq Uq => aq = #[(.int x), (.int y)] ∧ Z.Warmed39 Uq.vm ∧ Uq.heap = h0) (fun _ _ _ _ _ => True) (fun _ Uq oq Uq' => ∃ vq Lq, oq = .returned vq ∧ own_Q_intCmp Z x y h0 n0 vq Uq'.heap Lq ∧ FrameEnd Uq oq Uq' Lq ({ frames := 0, cells := 0, slots := 0, locals := 0 } : Room).cells ({ frames := 0, cells := 0, slots := 0, locals := 0 } : Room).slots) := by
  refine MetFree.of_bodySF (plainFor_of_name own_pn5) hisR ?_
  intro p e s m args below meth cde s₁ Bd hml0 hP hK
  obtain ⟨rfl, hZ, hh⟩ := hP
  have hx := Bd.exec
  have hby := Bd.bytes
  have hml : cde.maxLocals = 2 := hml0
  have hown : s.vm.findClass "java/lang/Integer" = some m.cls := findClass_of_methodNamed Bd.named
  have hnm := (name_of_methodNamed Bd.named Bd.method).1
  have X0 : Stand p l e ({ frames := 0, cells := 0, slots := 0, locals := 0 } : Room) s m #[(.int x), (.int y)] below meth cde s₁ [] 0 0 := Stand.of_body Bd
  have e0 : s₁.heap = h0 := by rw [← hh, Bd.state]; rfl
  have N0 := Fr.nil n0
  show own_Fin p e s below (own_Q_intCmp Z x y h0 n0) ({ frames := 0, cells := 0, slots := 0, locals := 0 } : Room).cells ({ frames := 0, cells := 0, slots := 0, locals := 0 } : Room).slots s₁ (entryFrame m #[(.int x), (.int y)] 2)
  rw [own_ef_intCmp m x y]
  refine own_via (fun _ k => XS.iloadN X0.here hx rfl (hb hby own_d_jdk_33_40_0) rfl k) ?_
  show own_Fin _ _ _ _ _ _ _ s₁ (mkF m 1 #[.val (.int x), .val (.int y)] [(.int x)])
  refine own_via (fun _ k => XS.iloadN X0.here hx rfl (hb hby own_d_jdk_33_40_1) rfl k) ?_
  show own_Fin _ _ _ _ _ _ _ s₁ (mkF m 2 #[.val (.int x), .val (.int y)] [(.int y), (.int x)])
  rcases Classical.em (x < y) with h1 | h1
  · refine own_via (fun _ k => XS.icmpNo X0.here hx rfl (hb hby own_d_jdk_33_40_2) rfl (tlt h1).2.1 k) ?_
    show own_Fin _ _ _ _ _ _ _ s₁ (mkF m 5 #[.val (.int x), .val (.int y)] [])
    refine own_via (fun _ k => XS.iconst X0.here hx rfl (hb hby own_d_jdk_33_40_5) k) ?_
    show own_Fin _ _ _ _ _ _ _ s₁ (mkF m 6 #[.val (.int x), .val (.int y)] [(.int (-1 : Int32))])
    refine own_via (fun _ k => XS.goto X0.here hx rfl (pc0 := 6) (pc' := 19) rfl (hb hby own_d_jdk_33_40_6) (by decide) (by decide) k) ?_
    show own_Fin _ _ _ _ _ _ _ s₁ (mkF m 19 #[.val (.int x), .val (.int y)] [(.int (-1 : Int32))])
    exact own_retI X0 hx Bd.returns Bd.notSynchronized (hb hby own_d_jdk_33_40_19) e0 rfl ⟨(-1 : Int32), rfl, N0, rfl, (own_sig_lt h1)⟩ (by decide) (by decide)
  · refine own_via (fun _ k => XS.icmpYes X0.here hx rfl (pc0 := 2) (pc' := 9) rfl (hb hby own_d_jdk_33_40_2) rfl (flt h1).2.1 (by decide) (by decide) k) ?_
    show own_Fin _ _ _ _ _ _ _ s₁ (mkF m 9 #[.val (.int x), .val (.int y)] [])
    refine own_via (fun _ k => XS.iloadN X0.here hx rfl (hb hby own_d_jdk_33_40_9) rfl k) ?_
    show own_Fin _ _ _ _ _ _ _ s₁ (mkF m 10 #[.val (.int x), .val (.int y)] [(.int x)])
    refine own_via (fun _ k => XS.iloadN X0.here hx rfl (hb hby own_d_jdk_33_40_10) rfl k) ?_
    show own_Fin _ _ _ _ _ _ _ s₁ (mkF m 11 #[.val (.int x), .val (.int y)] [(.int y), (.int x)])
    rcases Classical.em (x = y) with h2 | h2
    · refine own_via (fun _ k => XS.icmpNo X0.here hx rfl (hb hby own_d_jdk_33_40_11) rfl (teq h2).2 k) ?_
      show own_Fin _ _ _ _ _ _ _ s₁ (mkF m 14 #[.val (.int x), .val (.int y)] [])
      refine own_via (fun _ k => XS.iconst X0.here hx rfl (hb hby own_d_jdk_33_40_14) k) ?_
      show own_Fin _ _ _ _ _ _ _ s₁ (mkF m 15 #[.val (.int x), .val (.int y)] [(.int (0 : Int32))])
      refine own_via (fun _ k => XS.goto X0.here hx rfl (pc0 := 15) (pc' := 19) rfl (hb hby own_d_jdk_33_40_15) (by decide) (by decide) k) ?_
      show own_Fin _ _ _ _ _ _ _ s₁ (mkF m 19 #[.val (.int x), .val (.int y)] [(.int (0 : Int32))])
      exact own_retI X0 hx Bd.returns Bd.notSynchronized (hb hby own_d_jdk_33_40_19) e0 rfl ⟨(0 : Int32), rfl, N0, rfl, (own_sig_eq2 h2)⟩ (by decide) (by decide)
    · refine own_via (fun _ k => XS.icmpYes X0.here hx rfl (pc0 := 11) (pc' := 18) rfl (hb hby own_d_jdk_33_40_11) rfl (feq h2).2 (by decide) (by decide) k) ?_
      show own_Fin _ _ _ _ _ _ _ s₁ (mkF m 18 #[.val (.int x), .val (.int y)] [])
      refine own_via (fun _ k => XS.iconst X0.here hx rfl (hb hby own_d_jdk_33_40_18) k) ?_
      show own_Fin _ _ _ _ _ _ _ s₁ (mkF m 19 #[.val (.int x), .val (.int y)] [(.int (1 : Int32))])
      exact own_retI X0 hx Bd.returns Bd.notSynchronized (hb hby own_d_jdk_33_40_19) e0 rfl ⟨(1 : Int32), rfl, N0, rfl, (own_sig_gt h1 h2)⟩ (by decide) (by decide)
theorem own_d_6_0 : decode method_6_code 0 = .ok (.iload_n 0, 1) := by decide +kernel
theorem own_d_6_1 : decode method_6_code 1 = .ok (.iload_n 1, 1) := by decide +kernel
theorem own_d_6_2 : decode method_6_code 2 = .ok (.if_icmp .ge 5, 3) := by decide +kernel
theorem own_d_6_5 : decode method_6_code 5 = .ok (.iconst (-1), 1) := by decide +kernel
theorem own_d_6_6 : decode method_6_code 6 = .ok (.ireturn, 1) := by decide +kernel
theorem own_d_6_7 : decode method_6_code 7 = .ok (.iload_n 0, 1) := by decide +kernel
theorem own_d_6_8 : decode method_6_code 8 = .ok (.iload_n 1, 1) := by decide +kernel
theorem own_d_6_9 : decode method_6_code 9 = .ok (.if_icmp .le 5, 3) := by decide +kernel
theorem own_d_6_14 : decode method_6_code 14 = .ok (.iconst 0, 1) := by decide +kernel
theorem own_d_6_15 : decode method_6_code 15 = .ok (.ireturn, 1) := by decide +kernel
theorem own_d_6_12 : decode method_6_code 12 = .ok (.iconst 1, 1) := by decide +kernel
theorem own_d_6_13 : decode method_6_code 13 = .ok (.ireturn, 1) := by decide +kernel
theorem own_pn6 : plainName "com/example/co_occurrence_ranking/cooccurrenceranking/io/LineReaderCompareFieldsPinLaw" = true := by first | (simp [plainName, overriddenIn]; done) | decide +kernel
theorem own_ef_cmpL (m : MethodId) (x : Int32) (y : Int32) : entryFrame m #[(.int x), (.int y)] 2 = mkF m 0 #[.val (.int x), .val (.int y)] [] := by (first | (simp [entryFrame, mkF, argsToLocals, Value.category]; done) | rfl)
def own_Q_cmpL (Z : State) (x : Int32) (y : Int32) (h0 : Heap) (n0 : Nat) (vq : Option Value) (h : Heap) (Lq : List Loc) : Prop := ∃ (r : Int32), (vq = some (.int r)) ∧ (Fr n0 Lq) ∧ (h = h0) ∧ (own_sig x.toInt y.toInt r)
set_option maxRecDepth 65536 in
set_option maxHeartbeats 40000000 in
theorem own_rm_cmpL (l : Launch) (Z : State) (a0 : Array Value) (hw : ∀ d ∈ tables_1, d.before a0 Z = true) (wsq : List Jvm.Cond) (x : Int32) (y : Int32) (h0 : Heap) (n0 : Nat) (Z0 : n0 ≤ h0.size) :
    MetFree l (⟨"com/example/co_occurrence_ranking/cooccurrenceranking/io/LineReaderCompareFieldsPinLaw", "cmp", "(II)I"⟩ : MethodName) (head1 (Jvm.Cond.code (⟨"com/example/co_occurrence_ranking/cooccurrenceranking/io/LineReaderCompareFieldsPinLaw", "cmp", "(II)I"⟩ : MethodName) method_6_code 2 (some .int) :: wsq) ({ frames := 0, cells := 0, slots := 0, locals := 0 } : Room)) (fun aq Uq => aq = #[(.int x), (.int y)] ∧ Z.Warmed39 Uq.vm ∧ Uq.heap = h0) (fun _ _ _ _ _ => True) (fun _ Uq oq Uq' => ∃ vq Lq, oq = .returned vq ∧ own_Q_cmpL Z x y h0 n0 vq Uq'.heap Lq ∧ FrameEnd Uq oq Uq' Lq ({ frames := 0, cells := 0, slots := 0, locals := 0 } : Room).cells ({ frames := 0, cells := 0, slots := 0, locals := 0 } : Room).slots) := by
  refine MetFree.of_bodySF (plainFor_of_name own_pn6) hisR ?_
  intro p e s m args below meth cde s₁ Bd hml0 hP hK
  obtain ⟨rfl, hZ, hh⟩ := hP
  have hx := Bd.exec
  have hby := Bd.bytes
  have hml : cde.maxLocals = 2 := hml0
  have hown : s.vm.findClass "com/example/co_occurrence_ranking/cooccurrenceranking/io/LineReaderCompareFieldsPinLaw" = some m.cls := findClass_of_methodNamed Bd.named
  have hnm := (name_of_methodNamed Bd.named Bd.method).1
  have X0 : Stand p l e ({ frames := 0, cells := 0, slots := 0, locals := 0 } : Room) s m #[(.int x), (.int y)] below meth cde s₁ [] 0 0 := Stand.of_body Bd
  have e0 : s₁.heap = h0 := by rw [← hh, Bd.state]; rfl
  have N0 := Fr.nil n0
  show own_Fin p e s below (own_Q_cmpL Z x y h0 n0) ({ frames := 0, cells := 0, slots := 0, locals := 0 } : Room).cells ({ frames := 0, cells := 0, slots := 0, locals := 0 } : Room).slots s₁ (entryFrame m #[(.int x), (.int y)] 2)
  rw [own_ef_cmpL m x y]
  refine own_via (fun _ k => XS.iloadN X0.here hx rfl (hb hby own_d_6_0) rfl k) ?_
  show own_Fin _ _ _ _ _ _ _ s₁ (mkF m 1 #[.val (.int x), .val (.int y)] [(.int x)])
  refine own_via (fun _ k => XS.iloadN X0.here hx rfl (hb hby own_d_6_1) rfl k) ?_
  show own_Fin _ _ _ _ _ _ _ s₁ (mkF m 2 #[.val (.int x), .val (.int y)] [(.int y), (.int x)])
  rcases Classical.em (x < y) with h1 | h1
  · refine own_via (fun _ k => XS.icmpNo X0.here hx rfl (hb hby own_d_6_2) rfl (tlt h1).2.1 k) ?_
    show own_Fin _ _ _ _ _ _ _ s₁ (mkF m 5 #[.val (.int x), .val (.int y)] [])
    refine own_via (fun _ k => XS.iconst X0.here hx rfl (hb hby own_d_6_5) k) ?_
    show own_Fin _ _ _ _ _ _ _ s₁ (mkF m 6 #[.val (.int x), .val (.int y)] [(.int (-1 : Int32))])
    exact own_retI X0 hx Bd.returns Bd.notSynchronized (hb hby own_d_6_6) e0 rfl ⟨(-1 : Int32), rfl, N0, rfl, (own_sig_lt h1)⟩ (by decide) (by decide)
  · refine own_via (fun _ k => XS.icmpYes X0.here hx rfl (pc0 := 2) (pc' := 7) rfl (hb hby own_d_6_2) rfl (flt h1).2.1 (by decide) (by decide) k) ?_
    show own_Fin _ _ _ _ _ _ _ s₁ (mkF m 7 #[.val (.int x), .val (.int y)] [])
    refine own_via (fun _ k => XS.iloadN X0.here hx rfl (hb hby own_d_6_7) rfl k) ?_
    show own_Fin _ _ _ _ _ _ _ s₁ (mkF m 8 #[.val (.int x), .val (.int y)] [(.int x)])
    refine own_via (fun _ k => XS.iloadN X0.here hx rfl (hb hby own_d_6_8) rfl k) ?_
    show own_Fin _ _ _ _ _ _ _ s₁ (mkF m 9 #[.val (.int x), .val (.int y)] [(.int y), (.int x)])
    rcases Classical.em (y < x) with h2 | h2
    · refine own_via (fun _ k => XS.icmpNo X0.here hx rfl (hb hby own_d_6_9) rfl (tlt h2).2.2.2 k) ?_
      show own_Fin _ _ _ _ _ _ _ s₁ (mkF m 12 #[.val (.int x), .val (.int y)] [])
      refine own_via (fun _ k => XS.iconst X0.here hx rfl (hb hby own_d_6_12) k) ?_
      show own_Fin _ _ _ _ _ _ _ s₁ (mkF m 13 #[.val (.int x), .val (.int y)] [(.int (1 : Int32))])
      exact own_retI X0 hx Bd.returns Bd.notSynchronized (hb hby own_d_6_13) e0 rfl ⟨(1 : Int32), rfl, N0, rfl, (own_sig_gt2 h2)⟩ (by decide) (by decide)
    · refine own_via (fun _ k => XS.icmpYes X0.here hx rfl (pc0 := 9) (pc' := 14) rfl (hb hby own_d_6_9) rfl (flt h2).2.2.2 (by decide) (by decide) k) ?_
      show own_Fin _ _ _ _ _ _ _ s₁ (mkF m 14 #[.val (.int x), .val (.int y)] [])
      refine own_via (fun _ k => XS.iconst X0.here hx rfl (hb hby own_d_6_14) k) ?_
      show own_Fin _ _ _ _ _ _ _ s₁ (mkF m 15 #[.val (.int x), .val (.int y)] [(.int (0 : Int32))])
      exact own_retI X0 hx Bd.returns Bd.notSynchronized (hb hby own_d_6_15) e0 rfl ⟨(0 : Int32), rfl, N0, rfl, (own_sig_eq h1 h2)⟩ (by decide) (by decide)
theorem own_d_7_0 : decode method_7_code 0 = .ok (.iload_n 0, 1) := by decide +kernel
theorem own_d_7_1 : decode method_7_code 1 = .ok (.ifCond .ge 5, 3) := by decide +kernel
theorem own_d_7_4 : decode method_7_code 4 = .ok (.iconst (-1), 1) := by decide +kernel
theorem own_d_7_5 : decode method_7_code 5 = .ok (.ireturn, 1) := by decide +kernel
theorem own_d_7_6 : decode method_7_code 6 = .ok (.iload_n 0, 1) := by decide +kernel
theorem own_d_7_7 : decode method_7_code 7 = .ok (.ifCond .le 5, 3) := by decide +kernel
theorem own_d_7_12 : decode method_7_code 12 = .ok (.iconst 0, 1) := by decide +kernel
theorem own_d_7_13 : decode method_7_code 13 = .ok (.ireturn, 1) := by decide +kernel
theorem own_d_7_10 : decode method_7_code 10 = .ok (.iconst 1, 1) := by decide +kernel
theorem own_d_7_11 : decode method_7_code 11 = .ok (.ireturn, 1) := by decide +kernel
theorem own_ef_sgn (m : MethodId) (x : Int32) : entryFrame m #[(.int x)] 1 = mkF m 0 #[.val (.int x)] [] := by (first | (simp [entryFrame, mkF, argsToLocals, Value.category]; done) | rfl)
def own_Q_sgn (Z : State) (x : Int32) (h0 : Heap) (n0 : Nat) (vq : Option Value) (h : Heap) (Lq : List Loc) : Prop := ∃ (r : Int32), (vq = some (.int r)) ∧ (Fr n0 Lq) ∧ (h = h0) ∧ (own_sig x.toInt 0 r)
set_option maxRecDepth 65536 in
set_option maxHeartbeats 40000000 in
theorem own_rm_sgn (l : Launch) (Z : State) (a0 : Array Value) (hw : ∀ d ∈ tables_1, d.before a0 Z = true) (wsq : List Jvm.Cond) (x : Int32) (h0 : Heap) (n0 : Nat) (Z0 : n0 ≤ h0.size) :
    MetFree l (⟨"com/example/co_occurrence_ranking/cooccurrenceranking/io/LineReaderCompareFieldsPinLaw", "sgn", "(I)I"⟩ : MethodName) (head1 (Jvm.Cond.code (⟨"com/example/co_occurrence_ranking/cooccurrenceranking/io/LineReaderCompareFieldsPinLaw", "sgn", "(I)I"⟩ : MethodName) method_7_code 1 (some .int) :: wsq) ({ frames := 0, cells := 0, slots := 0, locals := 0 } : Room)) (fun aq Uq => aq = #[(.int x)] ∧ Z.Warmed39 Uq.vm ∧ Uq.heap = h0) (fun _ _ _ _ _ => True) (fun _ Uq oq Uq' => ∃ vq Lq, oq = .returned vq ∧ own_Q_sgn Z x h0 n0 vq Uq'.heap Lq ∧ FrameEnd Uq oq Uq' Lq ({ frames := 0, cells := 0, slots := 0, locals := 0 } : Room).cells ({ frames := 0, cells := 0, slots := 0, locals := 0 } : Room).slots) := by
  refine MetFree.of_bodySF (plainFor_of_name own_pn6) hisR ?_
  intro p e s m args below meth cde s₁ Bd hml0 hP hK
  obtain ⟨rfl, hZ, hh⟩ := hP
  have hx := Bd.exec
  have hby := Bd.bytes
  have hml : cde.maxLocals = 1 := hml0
  have hown : s.vm.findClass "com/example/co_occurrence_ranking/cooccurrenceranking/io/LineReaderCompareFieldsPinLaw" = some m.cls := findClass_of_methodNamed Bd.named
  have hnm := (name_of_methodNamed Bd.named Bd.method).1
  have X0 : Stand p l e ({ frames := 0, cells := 0, slots := 0, locals := 0 } : Room) s m #[(.int x)] below meth cde s₁ [] 0 0 := Stand.of_body Bd
  have e0 : s₁.heap = h0 := by rw [← hh, Bd.state]; rfl
  have N0 := Fr.nil n0
  show own_Fin p e s below (own_Q_sgn Z x h0 n0) ({ frames := 0, cells := 0, slots := 0, locals := 0 } : Room).cells ({ frames := 0, cells := 0, slots := 0, locals := 0 } : Room).slots s₁ (entryFrame m #[(.int x)] 1)
  rw [own_ef_sgn m x]
  refine own_via (fun _ k => XS.iloadN X0.here hx rfl (hb hby own_d_7_0) rfl k) ?_
  show own_Fin _ _ _ _ _ _ _ s₁ (mkF m 1 #[.val (.int x)] [(.int x)])
  rcases Classical.em (x < (0 : Int32)) with h1 | h1
  · refine own_via (fun _ k => XS.ifNo X0.here hx rfl (hb hby own_d_7_1) rfl ((if0 _ _).trans (tlt h1).2.1) k) ?_
    show own_Fin _ _ _ _ _ _ _ s₁ (mkF m 4 #[.val (.int x)] [])
    refine own_via (fun _ k => XS.iconst X0.here hx rfl (hb hby own_d_7_4) k) ?_
    show own_Fin _ _ _ _ _ _ _ s₁ (mkF m 5 #[.val (.int x)] [(.int (-1 : Int32))])
    exact own_retI X0 hx Bd.returns Bd.notSynchronized (hb hby own_d_7_5) e0 rfl ⟨(-1 : Int32), rfl, N0, rfl, (own_sig_lt h1)⟩ (by decide) (by decide)
  · refine own_via (fun _ k => XS.ifYes X0.here hx rfl (pc0 := 1) (pc' := 6) rfl (hb hby own_d_7_1) rfl ((if0 _ _).trans (flt h1).2.1) (by decide) (by decide) k) ?_
    show own_Fin _ _ _ _ _ _ _ s₁ (mkF m 6 #[.val (.int x)] [])
    refine own_via (fun _ k => XS.iloadN X0.here hx rfl (hb hby own_d_7_6) rfl k) ?_
    show own_Fin _ _ _ _ _ _ _ s₁ (mkF m 7 #[.val (.int x)] [(.int x)])
    rcases Classical.em ((0 : Int32) < x) with h2 | h2
    · refine own_via (fun _ k => XS.ifNo X0.here hx rfl (hb hby own_d_7_7) rfl ((if0 _ _).trans (tlt h2).2.2.2) k) ?_
      show own_Fin _ _ _ _ _ _ _ s₁ (mkF m 10 #[.val (.int x)] [])
      refine own_via (fun _ k => XS.iconst X0.here hx rfl (hb hby own_d_7_10) k) ?_
      show own_Fin _ _ _ _ _ _ _ s₁ (mkF m 11 #[.val (.int x)] [(.int (1 : Int32))])
      exact own_retI X0 hx Bd.returns Bd.notSynchronized (hb hby own_d_7_11) e0 rfl ⟨(1 : Int32), rfl, N0, rfl, (own_sig_gt2 h2)⟩ (by decide) (by decide)
    · refine own_via (fun _ k => XS.ifYes X0.here hx rfl (pc0 := 7) (pc' := 12) rfl (hb hby own_d_7_7) rfl ((if0 _ _).trans (flt h2).2.2.2) (by decide) (by decide) k) ?_
      show own_Fin _ _ _ _ _ _ _ s₁ (mkF m 12 #[.val (.int x)] [])
      refine own_via (fun _ k => XS.iconst X0.here hx rfl (hb hby own_d_7_12) k) ?_
      show own_Fin _ _ _ _ _ _ _ s₁ (mkF m 13 #[.val (.int x)] [(.int (0 : Int32))])
      exact own_retI X0 hx Bd.returns Bd.notSynchronized (hb hby own_d_7_13) e0 rfl ⟨(0 : Int32), rfl, N0, rfl, (own_sig_eq h1 h2)⟩ (by decide) (by decide)
theorem own_d_jdk_29_69_0 : decode jdk_29_method_69_code 0 = .ok (.iload_n 0, 1) := by decide +kernel
theorem own_d_jdk_29_69_1 : decode jdk_29_method_69_code 1 = .ok (.iload_n 1, 1) := by decide +kernel
theorem own_d_jdk_29_69_2 : decode jdk_29_method_69_code 2 = .ok (.if_icmp .gt 7, 3) := by decide +kernel
theorem own_d_jdk_29_69_9 : decode jdk_29_method_69_code 9 = .ok (.iload_n 1, 1) := by decide +kernel
theorem own_d_jdk_29_69_10 : decode jdk_29_method_69_code 10 = .ok (.ireturn, 1) := by decide +kernel
theorem own_d_jdk_29_69_5 : decode jdk_29_method_69_code 5 = .ok (.iload_n 0, 1) := by decide +kernel
theorem own_d_jdk_29_69_6 : decode jdk_29_method_69_code 6 = .ok (.goto 4, 3) := by decide +kernel
theorem own_ef_minI (m : MethodId) (x : Int32) (y : Int32) : entryFrame m #[(.int x), (.int y)] 2 = mkF m 0 #[.val (.int x), .val (.int y)] [] := by (first | (simp [entryFrame, mkF, argsToLocals, Value.category]; done) | rfl)
def own_Q_minI (Z : State) (x : Int32) (y : Int32) (n : Nat) (k : Nat) (h0 : Heap) (n0 : Nat) (vq : Option Value) (h : Heap) (Lq : List Loc) : Prop := (vq = some (.int (Int32.ofNat (min n k)))) ∧ (Fr n0 Lq) ∧ (h = h0)
set_option maxRecDepth 65536 in
set_option maxHeartbeats 40000000 in
theorem own_rm_minI (l : Launch) (Z : State) (a0 : Array Value) (hw : ∀ d ∈ tables_1, d.before a0 Z = true) (wsq : List Jvm.Cond) (x : Int32) (y : Int32) (n : Nat) (k : Nat) (h0 : Heap) (n0 : Nat) (Z0 : n0 ≤ h0.size) (h1 : x = Int32.ofNat n) (h2 : y = Int32.ofNat k) (h3 : n ≤ 4000) (h4 : k ≤ 4000) :
    MetFree l (⟨"java/lang/Math", "min", "(II)I"⟩ : MethodName) (head1 (Jvm.Cond.code (⟨"java/lang/Math", "min", "(II)I"⟩ : MethodName) jdk_29_method_69_code 2 (some .int) :: wsq) ({ frames := 0, cells := 0, slots := 0, locals := 0 } : Room)) (fun aq Uq => aq = #[(.int x), (.int y)] ∧ Z.Warmed39 Uq.vm ∧ Uq.heap = h0) (fun _ _ _ _ _ => True) (fun _ Uq oq Uq' => ∃ vq Lq, oq = .returned vq ∧ own_Q_minI Z x y n k h0 n0 vq Uq'.heap Lq ∧ FrameEnd Uq oq Uq' Lq ({ frames := 0, cells := 0, slots := 0, locals := 0 } : Room).cells ({ frames := 0, cells := 0, slots := 0, locals := 0 } : Room).slots) := by
  refine MetFree.of_bodySF (Jvm.Free.JP.mathPlain rfl (by decide +kernel)) hisR ?_
  intro p e s m args below meth cde s₁ Bd hml0 hP hK
  obtain ⟨rfl, hZ, hh⟩ := hP
  have hx := Bd.exec
  have hby := Bd.bytes
  have hml : cde.maxLocals = 2 := hml0
  have hown : s.vm.findClass "java/lang/Math" = some m.cls := findClass_of_methodNamed Bd.named
  have hnm := (name_of_methodNamed Bd.named Bd.method).1
  have X0 : Stand p l e ({ frames := 0, cells := 0, slots := 0, locals := 0 } : Room) s m #[(.int x), (.int y)] below meth cde s₁ [] 0 0 := Stand.of_body Bd
  have e0 : s₁.heap = h0 := by rw [← hh, Bd.state]; rfl
  have N0 := Fr.nil n0
  show own_Fin p e s below (own_Q_minI Z x y n k h0 n0) ({ frames := 0, cells := 0, slots := 0, locals := 0 } : Room).cells ({ frames := 0, cells := 0, slots := 0, locals := 0 } : Room).slots s₁ (entryFrame m #[(.int x), (.int y)] 2)
  rw [own_ef_minI m x y]
  refine own_via (fun _ k => XS.iloadN X0.here hx rfl (hb hby own_d_jdk_29_69_0) rfl k) ?_
  show own_Fin _ _ _ _ _ _ _ s₁ (mkF m 1 #[.val (.int x), .val (.int y)] [(.int x)])
  refine own_via (fun _ k => XS.iloadN X0.here hx rfl (hb hby own_d_jdk_29_69_1) rfl k) ?_
  show own_Fin _ _ _ _ _ _ _ s₁ (mkF m 2 #[.val (.int x), .val (.int y)] [(.int y), (.int x)])
  rcases Classical.em (y < x) with hc | hc
  · refine own_via (fun _ k => XS.icmpYes X0.here hx rfl (pc0 := 2) (pc' := 9) rfl (hb hby own_d_jdk_29_69_2) rfl (tlt hc).2.2.1 (by decide) (by decide) k) ?_
    show own_Fin _ _ _ _ _ _ _ s₁ (mkF m 9 #[.val (.int x), .val (.int y)] [])
    refine own_via (fun _ k => XS.iloadN X0.here hx rfl (hb hby own_d_jdk_29_69_9) rfl k) ?_
    show own_Fin _ _ _ _ _ _ _ s₁ (mkF m 10 #[.val (.int x), .val (.int y)] [(.int y)])
    exact own_retI X0 hx Bd.returns Bd.notSynchronized (hb hby own_d_jdk_29_69_10) e0 (own_min_b h1 h2 h3 h4 hc) ⟨rfl, N0, rfl⟩ (by decide) (by decide)
  · refine own_via (fun _ k => XS.icmpNo X0.here hx rfl (hb hby own_d_jdk_29_69_2) rfl (flt hc).2.2.1 k) ?_
    show own_Fin _ _ _ _ _ _ _ s₁ (mkF m 5 #[.val (.int x), .val (.int y)] [])
    refine own_via (fun _ k => XS.iloadN X0.here hx rfl (hb hby own_d_jdk_29_69_5) rfl k) ?_
    show own_Fin _ _ _ _ _ _ _ s₁ (mkF m 6 #[.val (.int x), .val (.int y)] [(.int x)])
    refine own_via (fun _ k => XS.goto X0.here hx rfl (pc0 := 6) (pc' := 10) rfl (hb hby own_d_jdk_29_69_6) (by decide) (by decide) k) ?_
    show own_Fin _ _ _ _ _ _ _ s₁ (mkF m 10 #[.val (.int x), .val (.int y)] [(.int x)])
    exact own_retI X0 hx Bd.returns Bd.notSynchronized (hb hby own_d_jdk_29_69_10) e0 (own_min_a h1 h2 h3 h4 hc) ⟨rfl, N0, rfl⟩ (by decide) (by decide)
theorem own_d_jdk_52_7_0 : decode jdk_52_method_7_code 0 = .ok (.getstatic 44, 3) := by decide +kernel
theorem own_d_jdk_52_7_3 : decode jdk_52_method_7_code 3 = .ok (.ifCond .ne 16, 3) := by decide +kernel
theorem own_d_jdk_52_7_19 : decode jdk_52_method_7_code 19 = .ok (.iload_n 3, 1) := by decide +kernel
theorem own_d_jdk_52_7_20 : decode jdk_52_method_7_code 20 = .ok (.ifCond .eq 8, 3) := by decide +kernel
theorem own_d_jdk_52_7_28 : decode jdk_52_method_7_code 28 = .ok (.aload_n 0, 1) := by decide +kernel
theorem own_d_jdk_52_7_29 : decode jdk_52_method_7_code 29 = .ok (.iload_n 1, 1) := by decide +kernel
theorem own_d_jdk_52_7_30 : decode jdk_52_method_7_code 30 = .ok (.invokestatic 71, 3) := by decide +kernel
theorem own_d_jdk_52_7_33 : decode jdk_52_method_7_code 33 = .ok (.istore 4, 2) := by decide +kernel
theorem own_d_jdk_52_7_35 : decode jdk_52_method_7_code 35 = .ok (.iload 4, 2) := by decide +kernel
theorem own_d_jdk_52_7_37 : decode jdk_52_method_7_code 37 = .ok (.invokestatic 75, 3) := by decide +kernel
theorem own_pd14 : parseMethodDescriptor "(C)Z" = some ⟨[.char], some .boolean⟩ := by decide +kernel
theorem own_d_jdk_52_7_40 : decode jdk_52_method_7_code 40 = .ok (.ifCond .eq 43, 3) := by decide +kernel
theorem own_d_jdk_52_7_83 : decode jdk_52_method_7_code 83 = .ok (.iload 4, 2) := by decide +kernel
theorem own_d_jdk_52_7_85 : decode jdk_52_method_7_code 85 = .ok (.ireturn, 1) := by decide +kernel
theorem own_d_jdk_52_7_43 : decode jdk_52_method_7_code 43 = .ok (.iinc 1 1, 3) := by decide +kernel
theorem own_d_jdk_52_7_46 : decode jdk_52_method_7_code 46 = .ok (.iload_n 1, 1) := by decide +kernel
theorem own_d_jdk_52_7_47 : decode jdk_52_method_7_code 47 = .ok (.iload_n 2, 1) := by decide +kernel
theorem own_d_jdk_52_7_48 : decode jdk_52_method_7_code 48 = .ok (.if_icmp .ge 35, 3) := by decide +kernel
theorem own_d_jdk_52_7_51 : decode jdk_52_method_7_code 51 = .ok (.iload_n 3, 1) := by decide +kernel
theorem own_d_jdk_52_7_52 : decode jdk_52_method_7_code 52 = .ok (.ifCond .eq 8, 3) := by decide +kernel
theorem own_d_jdk_52_7_60 : decode jdk_52_method_7_code 60 = .ok (.aload_n 0, 1) := by decide +kernel
theorem own_d_jdk_52_7_61 : decode jdk_52_method_7_code 61 = .ok (.iload_n 1, 1) := by decide +kernel
theorem own_d_jdk_52_7_62 : decode jdk_52_method_7_code 62 = .ok (.invokestatic 71, 3) := by decide +kernel
theorem own_d_jdk_52_7_65 : decode jdk_52_method_7_code 65 = .ok (.istore 5, 2) := by decide +kernel
theorem own_d_jdk_52_7_67 : decode jdk_52_method_7_code 67 = .ok (.iload 5, 2) := by decide +kernel
theorem own_d_jdk_52_7_69 : decode jdk_52_method_7_code 69 = .ok (.invokestatic 81, 3) := by decide +kernel
theorem own_d_jdk_52_7_72 : decode jdk_52_method_7_code 72 = .ok (.ifCond .eq 11, 3) := by decide +kernel
theorem own_d_jdk_52_7_75 : decode jdk_52_method_7_code 75 = .ok (.iload 4, 2) := by decide +kernel
theorem own_d_jdk_52_7_77 : decode jdk_52_method_7_code 77 = .ok (.iload 5, 2) := by decide +kernel
theorem own_d_jdk_52_7_79 : decode jdk_52_method_7_code 79 = .ok (.invokestatic 84, 3) := by decide +kernel
theorem own_pd15 : parseMethodDescriptor "(CC)I" = some ⟨[.char, .char], some .int⟩ := by decide +kernel
theorem own_d_jdk_52_7_82 : decode jdk_52_method_7_code 82 = .ok (.ireturn, 1) := by decide +kernel
theorem own_ef_u16cp4 (m : MethodId) (t : Addr) (j : Int32) (e2 : Int32) : entryFrame m #[(.ref t), (.int j), (.int e2), (.int (0 : Int32))] 6 = mkF m 0 #[.val (.ref t), .val (.int j), .val (.int e2), .val (.int (0 : Int32)), .unset, .unset] [] := by (first | (simp [entryFrame, mkF, argsToLocals, Value.category]; done) | rfl)
def own_Q_u16cp4 (Z : State) (t : Addr) (kt : ClassId) (N2 : Int32) (vs : List Value) (cs : List Int32) (e2 : Int32) (j : Int32) (i : Nat) (h0 : Heap) (n0 : Nat) (vq : Option Value) (h : Heap) (Lq : List Loc) : Prop := ∃ (r : Int32), (vq = some (.int r)) ∧ (Fr n0 Lq) ∧ (h = h0) ∧ (own_cpr cs i r)
set_option maxRecDepth 65536 in
set_option maxHeartbeats 40000000 in
theorem own_rm_u16cp4 (l : Launch) (Z : State) (a0 : Array Value) (hw : ∀ d ∈ tables_1, d.before a0 Z = true) (wsq : List Jvm.Cond) (t : Addr) (kt : ClassId) (N2 : Int32) (vs : List Value) (cs : List Int32) (e2 : Int32) (j : Int32) (i : Nat) (h0 : Heap) (n0 : Nat) (Z0 : n0 ≤ h0.size) (O0 : Old Z n0 h0) (S3 : Sta Z Z.heap "java/lang/StringUTF16" "$assertionsDisabled" "Z" (.int (1 : Int32))) (S4 : Sta Z Z.heap "java/lang/StringUTF16" "HI_BYTE_SHIFT" "I" (.int (0 : Int32))) (S5 : Sta Z Z.heap "java/lang/StringUTF16" "LO_BYTE_SHIFT" "I" (.int (8 : Int32))) (Va : Arv Z h0 t kt .byte N2 vs (.int 0)) (hj : j = Int32.ofNat i) (hi : i < cs.length) (hlen : cs.length ≤ 4000) (hr : own_chs cs) (hN : N2 = Int32.ofNat (2 * cs.length)) (hW : own_wide cs vs) (he : e2 = Int32.ofNat cs.length) :
    MetFree l (⟨"java/lang/StringUTF16", "codePointAt", "([BIIZ)I"⟩ : MethodName) (head1 (Jvm.Cond.code (⟨"java/lang/StringUTF16", "codePointAt", "([BIIZ)I"⟩ : MethodName) jdk_52_method_7_code 6 (some .int) :: wsq) ({ frames := 1, cells := 0, slots := 0, locals := 13 } : Room)) (fun aq Uq => aq = #[(.ref t), (.int j), (.int e2), (.int (0 : Int32))] ∧ Z.Warmed39 Uq.vm ∧ Uq.heap = h0) (fun _ _ _ _ _ => True) (fun _ Uq oq Uq' => ∃ vq Lq, oq = .returned vq ∧ own_Q_u16cp4 Z t kt N2 vs cs e2 j i h0 n0 vq Uq'.heap Lq ∧ FrameEnd Uq oq Uq' Lq ({ frames := 1, cells := 0, slots := 0, locals := 13 } : Room).cells ({ frames := 1, cells := 0, slots := 0, locals := 13 } : Room).slots) := by
  refine MetFree.of_bodySF (plainFor_of_name own_pn3) hisR ?_
  intro p e s m args below meth cde s₁ Bd hml0 hP hK
  obtain ⟨rfl, hZ, hh⟩ := hP
  have hx := Bd.exec
  have hby := Bd.bytes
  have hml : cde.maxLocals = 6 := hml0
  have hown : s.vm.findClass "java/lang/StringUTF16" = some m.cls := findClass_of_methodNamed Bd.named
  have hnm := (name_of_methodNamed Bd.named Bd.method).1
  have X0 : Stand p l e ({ frames := 1, cells := 0, slots := 0, locals := 13 } : Room) s m #[(.ref t), (.int j), (.int e2), (.int (0 : Int32))] below meth cde s₁ [] 0 0 := Stand.of_body Bd
  have e0 : s₁.heap = h0 := by rw [← hh, Bd.state]; rfl
  have N0 := Fr.nil n0
  show own_Fin p e s below (own_Q_u16cp4 Z t kt N2 vs cs e2 j i h0 n0) ({ frames := 1, cells := 0, slots := 0, locals := 13 } : Room).cells ({ frames := 1, cells := 0, slots := 0, locals := 13 } : Room).slots s₁ (entryFrame m #[(.ref t), (.int j), (.int e2), (.int (0 : Int32))] 6)
  rw [own_ef_u16cp4 m t j e2]
  obtain ⟨T1_, X1_, e1_, st1_⟩ := getS2 X0 hx hZ hown (host := "") (Or.inl (hw _ (List.mem_of_getElem? (i := 89) rfl))) Via.refl e0 (S3.ext O0.2) (g := (mkF m 0 #[.val (.ref t), .val (.int j), .val (.int e2), .val (.int (0 : Int32)), .unset, .unset] [])) rfl (hb hby own_d_jdk_52_7_0)
  refine own_via (fun _ k => st1_ _ k) ?_
  show own_Fin _ _ _ _ _ _ _ T1_ (mkF m 3 #[.val (.ref t), .val (.int j), .val (.int e2), .val (.int (0 : Int32)), .unset, .unset] [(.int (1 : Int32))])
  refine own_via (fun _ k => XS.ifYes X1_.here hx rfl (pc0 := 3) (pc' := 19) rfl (hb hby own_d_jdk_52_7_3) rfl ((if0 _ _).trans (feq (by decide)).2) (by decide) (by decide) k) ?_
  show own_Fin _ _ _ _ _ _ _ T1_ (mkF m 19 #[.val (.ref t), .val (.int j), .val (.int e2), .val (.int (0 : Int32)), .unset, .unset] [])
  refine own_via (fun _ k => XS.iloadN X1_.here hx rfl (hb hby own_d_jdk_52_7_19) rfl k) ?_
  show own_Fin _ _ _ _ _ _ _ T1_ (mkF m 20 #[.val (.ref t), .val (.int j), .val (.int e2), .val (.int (0 : Int32)), .unset, .unset] [(.int (0 : Int32))])
  refine own_via (fun _ k => XS.ifYes X1_.here hx rfl (pc0 := 20) (pc' := 28) rfl (hb hby own_d_jdk_52_7_20) rfl ((if0 _ _).trans (teq rfl).1) (by decide) (by decide) k) ?_
  show own_Fin _ _ _ _ _ _ _ T1_ (mkF m 28 #[.val (.ref t), .val (.int j), .val (.int e2), .val (.int (0 : Int32)), .unset, .unset] [])
  refine own_via (fun _ k => XS.aloadN X1_.here hx rfl (hb hby own_d_jdk_52_7_28) rfl rfl k) ?_
  show own_Fin _ _ _ _ _ _ _ T1_ (mkF m 29 #[.val (.ref t), .val (.int j), .val (.int e2), .val (.int (0 : Int32)), .unset, .unset] [(.ref t)])
  refine own_via (fun _ k => XS.iloadN X1_.here hx rfl (hb hby own_d_jdk_52_7_29) rfl k) ?_
  show own_Fin _ _ _ _ _ _ _ T1_ (mkF m 30 #[.val (.ref t), .val (.int j), .val (.int e2), .val (.int (0 : Int32)), .unset, .unset] [(.int j), (.ref t)])
  obtain ⟨_, _, ⟨T2_, L2_, k2_, n2_⟩, -, X2_, ⟨Lc2_, hQ2_, l2_, y2_, z2_⟩, st2_⟩ := Jvm.LawKit.callS X1_ hx (y := (⟨"java/lang/StringUTF16", "getChar", "([BI)C"⟩ : MethodName)) hown (mvT hZ (hw _ (List.mem_of_getElem? (i := 92) rfl))) (mvT hZ (hw _ (List.mem_of_getElem? (i := 93) rfl))) (mvT hZ (hw _ (List.mem_of_getElem? (i := 71) rfl))) (mvT hZ (hw _ (List.mem_of_getElem? (i := 94) rfl))) (by decide) (backOf (W := 0) (own_rm_getCh l Z a0 hw [] t kt N2 vs (cs.getD i 0) j i cs.length h0 n0 Z0 O0 S3 S4 S5 Va hj hi hlen hN (hW i hi).1 (hW i hi).2 (hr i)) hZ (hw _ (List.mem_of_getElem? (i := 94) rfl)) (hw _ (List.mem_of_getElem? (i := 71) rfl)) (by decide) (by decide)) (g := (mkF m 30 #[.val (.ref t), .val (.int j), .val (.int e2), .val (.int (0 : Int32)), .unset, .unset] [(.int j), (.ref t)])) rfl (by rw [hml]; rfl) (argsL := [(.ref t), (.int j)]) (rest := []) (lenOf own_pd5 rfl) rfl (by show 2 * 0 + _ ≤ _; exact Nat.le_of_eq rfl) (hb hby own_d_jdk_52_7_30) (fun _ _ => ⟨rfl, e1_, (by decide : 0 + 0 ≤ _), (by decide : 0 + 0 ≤ _)⟩)
  dsimp only [Pt.U, Pt.locs, Pt.cells, Pt.slots] at X2_ l2_ y2_ z2_ st2_ hQ2_
  subst l2_ y2_ z2_
  obtain ⟨rfl, Nq2_, hh2_⟩ := hQ2_
  have N2_ := Fr.app N0 Nq2_
  refine own_via (fun _ k => st2_ _ k) ?_
  show own_Fin _ _ _ _ _ _ _ T2_ (mkF m 33 #[.val (.ref t), .val (.int j), .val (.int e2), .val (.int (0 : Int32)), .unset, .unset] [(.int (cs.getD i 0))])
  refine own_via (fun _ k => XS.istore X2_.here hx rfl (hb hby own_d_jdk_52_7_33) rfl (l' := #[.val (.ref t), .val (.int j), .val (.int e2), .val (.int (0 : Int32)), .val (.int (cs.getD i 0)), .unset]) rfl k) ?_
  show own_Fin _ _ _ _ _ _ _ T2_ (mkF m 35 #[.val (.ref t), .val (.int j), .val (.int e2), .val (.int (0 : Int32)), .val (.int (cs.getD i 0)), .unset] [])
  refine own_via (fun _ k => XS.iload X2_.here hx rfl (hb hby own_d_jdk_52_7_35) rfl k) ?_
  show own_Fin _ _ _ _ _ _ _ T2_ (mkF m 37 #[.val (.ref t), .val (.int j), .val (.int e2), .val (.int (0 : Int32)), .val (.int (cs.getD i 0)), .unset] [(.int (cs.getD i 0))])
  obtain ⟨_, _, ⟨T3_, L3_, k3_, n3_⟩, -, X3_, ⟨Lc3_, hQ3_, l3_, y3_, z3_⟩, st3_⟩ := Jvm.LawKit.callS X2_ hx (y := (⟨"java/lang/Character", "isHighSurrogate", "(C)Z"⟩ : MethodName)) hown (mvT hZ (hw _ (List.mem_of_getElem? (i := 144) rfl))) (mvT hZ (hw _ (List.mem_of_getElem? (i := 145) rfl))) (mvT hZ (hw _ (List.mem_of_getElem? (i := 128) rfl))) (mvT hZ (hw _ (List.mem_of_getElem? (i := 146) rfl))) (by decide) (backOf (W := 0) (own_rm_isHigh l Z a0 hw [] (cs.getD i 0) h0 n0 Z0 ) hZ (hw _ (List.mem_of_getElem? (i := 146) rfl)) (hw _ (List.mem_of_getElem? (i := 128) rfl)) (by decide) (by decide)) (g := (mkF m 37 #[.val (.ref t), .val (.int j), .val (.int e2), .val (.int (0 : Int32)), .val (.int (cs.getD i 0)), .unset] [(.int (cs.getD i 0))])) rfl (by rw [hml]; rfl) (argsL := [(.int (cs.getD i 0))]) (rest := []) (lenOf own_pd14 rfl) rfl (by show 2 * 0 + _ ≤ _; exact Nat.le_of_eq rfl) (hb hby own_d_jdk_52_7_37) (fun _ _ => ⟨rfl, hh2_, (by decide : 0 + 0 + 0 ≤ _), (by decide : 0 + 0 + 0 ≤ _)⟩)
  dsimp only [Pt.U, Pt.locs, Pt.cells, Pt.slots] at X3_ l3_ y3_ z3_ st3_ hQ3_
  subst l3_ y3_ z3_
  obtain ⟨rh, rfl, Nq3_, hh3_, hqh⟩ := hQ3_
  have N3_ := Fr.app N2_ Nq3_
  refine own_via (fun _ k => st3_ _ k) ?_
  show own_Fin _ _ _ _ _ _ _ T3_ (mkF m 40 #[.val (.ref t), .val (.int j), .val (.int e2), .val (.int (0 : Int32)), .val (.int (cs.getD i 0)), .unset] [(.int rh)])
  rcases Classical.em (rh = (0 : Int32)) with h1 | h1
  · refine own_via (fun _ k => XS.ifYes X3_.here hx rfl (pc0 := 40) (pc' := 83) rfl (hb hby own_d_jdk_52_7_40) rfl ((if0 _ _).trans (teq h1).1) (by decide) (by decide) k) ?_
    show own_Fin _ _ _ _ _ _ _ T3_ (mkF m 83 #[.val (.ref t), .val (.int j), .val (.int e2), .val (.int (0 : Int32)), .val (.int (cs.getD i 0)), .unset] [])
    refine own_via (fun _ k => XS.iload X3_.here hx rfl (hb hby own_d_jdk_52_7_83) rfl k) ?_
    show own_Fin _ _ _ _ _ _ _ T3_ (mkF m 85 #[.val (.ref t), .val (.int j), .val (.int e2), .val (.int (0 : Int32)), .val (.int (cs.getD i 0)), .unset] [(.int (cs.getD i 0))])
    exact own_retI X3_ hx Bd.returns Bd.notSynchronized (hb hby own_d_jdk_52_7_85) hh3_ rfl ⟨(cs.getD i 0), rfl, N3_, rfl, (Or.inr ⟨fun q => (hqh.resolve_left fun z => absurd (z.1.symm.trans h1) (by decide)).2 q.1, rfl⟩)⟩ (by decide) (by decide)
  · refine own_via (fun _ k => XS.ifNo X3_.here hx rfl (hb hby own_d_jdk_52_7_40) rfl ((if0 _ _).trans (feq h1).1) k) ?_
    show own_Fin _ _ _ _ _ _ _ T3_ (mkF m 43 #[.val (.ref t), .val (.int j), .val (.int e2), .val (.int (0 : Int32)), .val (.int (cs.getD i 0)), .unset] [])
    have hhi := (hqh.resolve_right fun z => h1 z.1).2
    refine own_via (fun _ k => XS.iinc X3_.here hx rfl (hb hby own_d_jdk_52_7_43) rfl (l' := #[.val (.ref t), .val (.int (j + (1 : Int32))), .val (.int e2), .val (.int (0 : Int32)), .val (.int (cs.getD i 0)), .unset]) rfl k) ?_
    show own_Fin _ _ _ _ _ _ _ T3_ (mkF m 46 #[.val (.ref t), .val (.int (j + (1 : Int32))), .val (.int e2), .val (.int (0 : Int32)), .val (.int (cs.getD i 0)), .unset] [])
    refine own_via (fun _ k => XS.iloadN X3_.here hx rfl (hb hby own_d_jdk_52_7_46) rfl k) ?_
    show own_Fin _ _ _ _ _ _ _ T3_ (mkF m 47 #[.val (.ref t), .val (.int (j + (1 : Int32))), .val (.int e2), .val (.int (0 : Int32)), .val (.int (cs.getD i 0)), .unset] [(.int (j + (1 : Int32)))])
    refine own_via (fun _ k => XS.iloadN X3_.here hx rfl (hb hby own_d_jdk_52_7_47) rfl k) ?_
    show own_Fin _ _ _ _ _ _ _ T3_ (mkF m 48 #[.val (.ref t), .val (.int (j + (1 : Int32))), .val (.int e2), .val (.int (0 : Int32)), .val (.int (cs.getD i 0)), .unset] [(.int e2), (.int (j + (1 : Int32)))])
    rcases Classical.em ((j + (1 : Int32)) < e2) with h2 | h2
    · refine own_via (fun _ k => XS.icmpNo X3_.here hx rfl (hb hby own_d_jdk_52_7_48) rfl (tlt h2).2.1 k) ?_
      show own_Fin _ _ _ _ _ _ _ T3_ (mkF m 51 #[.val (.ref t), .val (.int (j + (1 : Int32))), .val (.int e2), .val (.int (0 : Int32)), .val (.int (cs.getD i 0)), .unset] [])
      have hi2 : i + 1 < cs.length := (own_ltN (own_succ hj) he (by omega) (by omega)).mp h2
      refine own_via (fun _ k => XS.iloadN X3_.here hx rfl (hb hby own_d_jdk_52_7_51) rfl k) ?_
      show own_Fin _ _ _ _ _ _ _ T3_ (mkF m 52 #[.val (.ref t), .val (.int (j + (1 : Int32))), .val (.int e2), .val (.int (0 : Int32)), .val (.int (cs.getD i 0)), .unset] [(.int (0 : Int32))])
      refine own_via (fun _ k => XS.ifYes X3_.here hx rfl (pc0 := 52) (pc' := 60) rfl (hb hby own_d_jdk_52_7_52) rfl ((if0 _ _).trans (teq rfl).1) (by decide) (by decide) k) ?_
      show own_Fin _ _ _ _ _ _ _ T3_ (mkF m 60 #[.val (.ref t), .val (.int (j + (1 : Int32))), .val (.int e2), .val (.int (0 : Int32)), .val (.int (cs.getD i 0)), .unset] [])
      refine own_via (fun _ k => XS.aloadN X3_.here hx rfl (hb hby own_d_jdk_52_7_60) rfl rfl k) ?_
      show own_Fin _ _ _ _ _ _ _ T3_ (mkF m 61 #[.val (.ref t), .val (.int (j + (1 : Int32))), .val (.int e2), .val (.int (0 : Int32)), .val (.int (cs.getD i 0)), .unset] [(.ref t)])
      refine own_via (fun _ k => XS.iloadN X3_.here hx rfl (hb hby own_d_jdk_52_7_61) rfl k) ?_
      show own_Fin _ _ _ _ _ _ _ T3_ (mkF m 62 #[.val (.ref t), .val (.int (j + (1 : Int32))), .val (.int e2), .val (.int (0 : Int32)), .val (.int (cs.getD i 0)), .unset] [(.int (j + (1 : Int32))), (.ref t)])
      obtain ⟨_, _, ⟨T4_, L4_, k4_, n4_⟩, -, X4_, ⟨Lc4_, hQ4_, l4_, y4_, z4_⟩, st4_⟩ := Jvm.LawKit.callS X3_ hx (y := (⟨"java/lang/StringUTF16", "getChar", "([BI)C"⟩ : MethodName)) hown (mvT hZ (hw _ (List.mem_of_getElem? (i := 92) rfl))) (mvT hZ (hw _ (List.mem_of_getElem? (i := 93) rfl))) (mvT hZ (hw _ (List.mem_of_getElem? (i := 71) rfl))) (mvT hZ (hw _ (List.mem_of_getElem? (i := 94) rfl))) (by decide) (backOf (W := 0) (own_rm_getCh l Z a0 hw [] t kt N2 vs (cs.getD (i + 1) 0) (j + (1 : Int32)) (i + 1) cs.length h0 n0 Z0 O0 S3 S4 S5 Va (own_succ hj) hi2 hlen hN (hW (i + 1) hi2).1 (hW (i + 1) hi2).2 (hr (i + 1))) hZ (hw _ (List.mem_of_getElem? (i := 94) rfl)) (hw _ (List.mem_of_getElem? (i := 71) rfl)) (by decide) (by decide)) (g := (mkF m 62 #[.val (.ref t), .val (.int (j + (1 : Int32))), .val (.int e2), .val (.int (0 : Int32)), .val (.int (cs.getD i 0)), .unset] [(.int (j + (1 : Int32))), (.ref t)])) rfl (by rw [hml]; rfl) (argsL := [(.ref t), (.int (j + (1 : Int32)))]) (rest := []) (lenOf own_pd5 rfl) rfl (by show 2 * 0 + _ ≤ _; exact Nat.le_of_eq rfl) (hb hby own_d_jdk_52_7_62) (fun _ _ => ⟨rfl, hh3_, (by decide : 0 + 0 + 0 + 0 ≤ _), (by decide : 0 + 0 + 0 + 0 ≤ _)⟩)
      dsimp only [Pt.U, Pt.locs, Pt.cells, Pt.slots] at X4_ l4_ y4_ z4_ st4_ hQ4_
      subst l4_ y4_ z4_
      obtain ⟨rfl, Nq4_, hh4_⟩ := hQ4_
      have N4_ := Fr.app N3_ Nq4_
      refine own_via (fun _ k => st4_ _ k) ?_
      show own_Fin _ _ _ _ _ _ _ T4_ (mkF m 65 #[.val (.ref t), .val (.int (j + (1 : Int32))), .val (.int e2), .val (.int (0 : Int32)), .val (.int (cs.getD i 0)), .unset] [(.int (cs.getD (i + 1) 0))])
      refine own_via (fun _ k => XS.istore X4_.here hx rfl (hb hby own_d_jdk_52_7_65) rfl (l' := #[.val (.ref t), .val (.int (j + (1 : Int32))), .val (.int e2), .val (.int (0 : Int32)), .val (.int (cs.getD i 0)), .val (.int (cs.getD (i + 1) 0))]) rfl k) ?_
      show own_Fin _ _ _ _ _ _ _ T4_ (mkF m 67 #[.val (.ref t), .val (.int (j + (1 : Int32))), .val (.int e2), .val (.int (0 : Int32)), .val (.int (cs.getD i 0)), .val (.int (cs.getD (i + 1) 0))] [])
      refine own_via (fun _ k => XS.iload X4_.here hx rfl (hb hby own_d_jdk_52_7_67) rfl k) ?_
      show own_Fin _ _ _ _ _ _ _ T4_ (mkF m 69 #[.val (.ref t), .val (.int (j + (1 : Int32))), .val (.int e2), .val (.int (0 : Int32)), .val (.int (cs.getD i 0)), .val (.int (cs.getD (i + 1) 0))] [(.int (cs.getD (i + 1) 0))])
      obtain ⟨_, _, ⟨T5_, L5_, k5_, n5_⟩, -, X5_, ⟨Lc5_, hQ5_, l5_, y5_, z5_⟩, st5_⟩ := Jvm.LawKit.callS X4_ hx (y := (⟨"java/lang/Character", "isLowSurrogate", "(C)Z"⟩ : MethodName)) hown (mvT hZ (hw _ (List.mem_of_getElem? (i := 148) rfl))) (mvT hZ (hw _ (List.mem_of_getElem? (i := 149) rfl))) (mvT hZ (hw _ (List.mem_of_getElem? (i := 128) rfl))) (mvT hZ (hw _ (List.mem_of_getElem? (i := 150) rfl))) (by decide) (backOf (W := 0) (own_rm_isLow l Z a0 hw [] (cs.getD (i + 1) 0) h0 n0 Z0 ) hZ (hw _ (List.mem_of_getElem? (i := 150) rfl)) (hw _ (List.mem_of_getElem? (i := 128) rfl)) (by decide) (by decide)) (g := (mkF m 69 #[.val (.ref t), .val (.int (j + (1 : Int32))), .val (.int e2), .val (.int (0 : Int32)), .val (.int (cs.getD i 0)), .val (.int (cs.getD (i + 1) 0))] [(.int (cs.getD (i + 1) 0))])) rfl (by rw [hml]; rfl) (argsL := [(.int (cs.getD (i + 1) 0))]) (rest := []) (lenOf own_pd14 rfl) rfl (by show 2 * 0 + _ ≤ _; exact Nat.le_of_eq rfl) (hb hby own_d_jdk_52_7_69) (fun _ _ => ⟨rfl, hh4_, (by decide : 0 + 0 + 0 + 0 + 0 ≤ _), (by decide : 0 + 0 + 0 + 0 + 0 ≤ _)⟩)
      dsimp only [Pt.U, Pt.locs, Pt.cells, Pt.slots] at X5_ l5_ y5_ z5_ st5_ hQ5_
      subst l5_ y5_ z5_
      obtain ⟨rl, rfl, Nq5_, hh5_, hql⟩ := hQ5_
      have N5_ := Fr.app N4_ Nq5_
      refine own_via (fun _ k => st5_ _ k) ?_
      show own_Fin _ _ _ _ _ _ _ T5_ (mkF m 72 #[.val (.ref t), .val (.int (j + (1 : Int32))), .val (.int e2), .val (.int (0 : Int32)), .val (.int (cs.getD i 0)), .val (.int (cs.getD (i + 1) 0))] [(.int rl)])
      rcases Classical.em (rl = (0 : Int32)) with h3 | h3
      · refine own_via (fun _ k => XS.ifYes X5_.here hx rfl (pc0 := 72) (pc' := 83) rfl (hb hby own_d_jdk_52_7_72) rfl ((if0 _ _).trans (teq h3).1) (by decide) (by decide) k) ?_
        show own_Fin _ _ _ _ _ _ _ T5_ (mkF m 83 #[.val (.ref t), .val (.int (j + (1 : Int32))), .val (.int e2), .val (.int (0 : Int32)), .val (.int (cs.getD i 0)), .val (.int (cs.getD (i + 1) 0))] [])
        refine own_via (fun _ k => XS.iload X5_.here hx rfl (hb hby own_d_jdk_52_7_83) rfl k) ?_
        show own_Fin _ _ _ _ _ _ _ T5_ (mkF m 85 #[.val (.ref t), .val (.int (j + (1 : Int32))), .val (.int e2), .val (.int (0 : Int32)), .val (.int (cs.getD i 0)), .val (.int (cs.getD (i + 1) 0))] [(.int (cs.getD i 0))])
        exact own_retI X5_ hx Bd.returns Bd.notSynchronized (hb hby own_d_jdk_52_7_85) hh5_ rfl ⟨(cs.getD i 0), rfl, N5_, rfl, (Or.inr ⟨fun q => (hql.resolve_left fun z => absurd (z.1.symm.trans h3) (by decide)).2 q.2.2, rfl⟩)⟩ (by decide) (by decide)
      · refine own_via (fun _ k => XS.ifNo X5_.here hx rfl (hb hby own_d_jdk_52_7_72) rfl ((if0 _ _).trans (feq h3).1) k) ?_
        show own_Fin _ _ _ _ _ _ _ T5_ (mkF m 75 #[.val (.ref t), .val (.int (j + (1 : Int32))), .val (.int e2), .val (.int (0 : Int32)), .val (.int (cs.getD i 0)), .val (.int (cs.getD (i + 1) 0))] [])
        refine own_via (fun _ k => XS.iload X5_.here hx rfl (hb hby own_d_jdk_52_7_75) rfl k) ?_
        show own_Fin _ _ _ _ _ _ _ T5_ (mkF m 77 #[.val (.ref t), .val (.int (j + (1 : Int32))), .val (.int e2), .val (.int (0 : Int32)), .val (.int (cs.getD i 0)), .val (.int (cs.getD (i + 1) 0))] [(.int (cs.getD i 0))])
        refine own_via (fun _ k => XS.iload X5_.here hx rfl (hb hby own_d_jdk_52_7_77) rfl k) ?_
        show own_Fin _ _ _ _ _ _ _ T5_ (mkF m 79 #[.val (.ref t), .val (.int (j + (1 : Int32))), .val (.int e2), .val (.int (0 : Int32)), .val (.int (cs.getD i 0)), .val (.int (cs.getD (i + 1) 0))] [(.int (cs.getD (i + 1) 0)), (.int (cs.getD i 0))])
        obtain ⟨_, _, ⟨T6_, L6_, k6_, n6_⟩, -, X6_, ⟨Lc6_, hQ6_, l6_, y6_, z6_⟩, st6_⟩ := Jvm.LawKit.callS X5_ hx (y := (⟨"java/lang/Character", "toCodePoint", "(CC)I"⟩ : MethodName)) hown (mvT hZ (hw _ (List.mem_of_getElem? (i := 151) rfl))) (mvT hZ (hw _ (List.mem_of_getElem? (i := 152) rfl))) (mvT hZ (hw _ (List.mem_of_getElem? (i := 128) rfl))) (mvT hZ (hw _ (List.mem_of_getElem? (i := 153) rfl))) (by decide) (backOf (W := 0) (own_rm_toCP l Z a0 hw [] (cs.getD i 0) (cs.getD (i + 1) 0) h0 n0 Z0 ) hZ (hw _ (List.mem_of_getElem? (i := 153) rfl)) (hw _ (List.mem_of_getElem? (i := 128) rfl)) (by decide) (by decide)) (g := (mkF m 79 #[.val (.ref t), .val (.int (j + (1 : Int32))), .val (.int e2), .val (.int (0 : Int32)), .val (.int (cs.getD i 0)), .val (.int (cs.getD (i + 1) 0))] [(.int (cs.getD (i + 1) 0)), (.int (cs.getD i 0))])) rfl (by rw [hml]; rfl) (argsL := [(.int (cs.getD i 0)), (.int (cs.getD (i + 1) 0))]) (rest := []) (lenOf own_pd15 rfl) rfl (by show 2 * 0 + _ ≤ _; exact Nat.le_of_eq rfl) (hb hby own_d_jdk_52_7_79) (fun _ _ => ⟨rfl, hh5_, (by decide : 0 + 0 + 0 + 0 + 0 + 0 ≤ _), (by decide : 0 + 0 + 0 + 0 + 0 + 0 ≤ _)⟩)
        dsimp only [Pt.U, Pt.locs, Pt.cells, Pt.slots] at X6_ l6_ y6_ z6_ st6_ hQ6_
        subst l6_ y6_ z6_
        obtain ⟨rfl, Nq6_, hh6_⟩ := hQ6_
        have N6_ := Fr.app N5_ Nq6_
        refine own_via (fun _ k => st6_ _ k) ?_
        show own_Fin _ _ _ _ _ _ _ T6_ (mkF m 82 #[.val (.ref t), .val (.int (j + (1 : Int32))), .val (.int e2), .val (.int (0 : Int32)), .val (.int (cs.getD i 0)), .val (.int (cs.getD (i + 1) 0))] [(.int (own_tcp (cs.getD i 0) (cs.getD (i + 1) 0)))])
        exact own_retI X6_ hx Bd.returns Bd.notSynchronized (hb hby own_d_jdk_52_7_82) hh6_ rfl ⟨(own_tcp (cs.getD i 0) (cs.getD (i + 1) 0)), rfl, N6_, rfl, (Or.inl ⟨hhi, hi2, (hql.resolve_right fun z => h3 z.1).2, rfl⟩)⟩ (by decide) (by decide)
    · refine own_via (fun _ k => XS.icmpYes X3_.here hx rfl (pc0 := 48) (pc' := 83) rfl (hb hby own_d_jdk_52_7_48) rfl (flt h2).2.1 (by decide) (by decide) k) ?_
      show own_Fin _ _ _ _ _ _ _ T3_ (mkF m 83 #[.val (.ref t), .val (.int (j + (1 : Int32))), .val (.int e2), .val (.int (0 : Int32)), .val (.int (cs.getD i 0)), .unset] [])
      refine own_via (fun _ k => XS.iload X3_.here hx rfl (hb hby own_d_jdk_52_7_83) rfl k) ?_
      show own_Fin _ _ _ _ _ _ _ T3_ (mkF m 85 #[.val (.ref t), .val (.int (j + (1 : Int32))), .val (.int e2), .val (.int (0 : Int32)), .val (.int (cs.getD i 0)), .unset] [(.int (cs.getD i 0))])
      exact own_retI X3_ hx Bd.returns Bd.notSynchronized (hb hby own_d_jdk_52_7_85) hh3_ rfl ⟨(cs.getD i 0), rfl, N3_, rfl, (Or.inr ⟨fun q => h2 ((own_ltN (own_succ hj) he (by omega) (by omega)).mpr q.2.1), rfl⟩)⟩ (by decide) (by decide)
theorem own_d_jdk_52_8_0 : decode jdk_52_method_8_code 0 = .ok (.aload_n 0, 1) := by decide +kernel
theorem own_d_jdk_52_8_1 : decode jdk_52_method_8_code 1 = .ok (.iload_n 1, 1) := by decide +kernel
theorem own_d_jdk_52_8_2 : decode jdk_52_method_8_code 2 = .ok (.iload_n 2, 1) := by decide +kernel
theorem own_d_jdk_52_8_3 : decode jdk_52_method_8_code 3 = .ok (.iconst 0, 1) := by decide +kernel
theorem own_d_jdk_52_8_4 : decode jdk_52_method_8_code 4 = .ok (.invokestatic 88, 3) := by decide +kernel
theorem own_pd16 : parseMethodDescriptor "([BIIZ)I" = some ⟨[(.array .byte), .int, .int, .boolean], some .int⟩ := by decide +kernel
theorem own_d_jdk_52_8_7 : decode jdk_52_method_8_code 7 = .ok (.ireturn, 1) := by decide +kernel
theorem own_ef_u16cp3 (m : MethodId) (t : Addr) (j : Int32) (e2 : Int32) : entryFrame m #[(.ref t), (.int j), (.int e2)] 3 = mkF m 0 #[.val (.ref t), .val (.int j), .val (.int e2)] [] := by (first | (simp [entryFrame, mkF, argsToLocals, Value.category]; done) | rfl)
def own_Q_u16cp3 (Z : State) (t : Addr) (kt : ClassId) (N2 : Int32) (vs : List Value) (cs : List Int32) (e2 : Int32) (j : Int32) (i : Nat) (h0 : Heap) (n0 : Nat) (vq : Option Value) (h : Heap) (Lq : List Loc) : Prop := ∃ (r : Int32), (vq = some (.int r)) ∧ (Fr n0 Lq) ∧ (h = h0) ∧ (own_cpr cs i r)
set_option maxRecDepth 65536 in
set_option maxHeartbeats 40000000 in
theorem own_rm_u16cp3 (l : Launch) (Z : State) (a0 : Array Value) (hw : ∀ d ∈ tables_1, d.before a0 Z = true) (wsq : List Jvm.Cond) (t : Addr) (kt : ClassId) (N2 : Int32) (vs : List Value) (cs : List Int32) (e2 : Int32) (j : Int32) (i : Nat) (h0 : Heap) (n0 : Nat) (Z0 : n0 ≤ h0.size) (O0 : Old Z n0 h0) (S3 : Sta Z Z.heap "java/lang/StringUTF16" "$assertionsDisabled" "Z" (.int (1 : Int32))) (S4 : Sta Z Z.heap "java/lang/StringUTF16" "HI_BYTE_SHIFT" "I" (.int (0 : Int32))) (S5 : Sta Z Z.heap "java/lang/StringUTF16" "LO_BYTE_SHIFT" "I" (.int (8 : Int32))) (Va : Arv Z h0 t kt .byte N2 vs (.int 0)) (hj : j = Int32.ofNat i) (hi : i < cs.length) (hlen : cs.length ≤ 4000) (hr : own_chs cs) (hN : N2 = Int32.ofNat (2 * cs.length)) (hW : own_wide cs vs) (he : e2 = Int32.ofNat cs.length) :
    MetFree l (⟨"java/lang/StringUTF16", "codePointAt", "([BII)I"⟩ : MethodName) (head1 (Jvm.Cond.code (⟨"java/lang/StringUTF16", "codePointAt", "([BII)I"⟩ : MethodName) jdk_52_method_8_code 3 (some .int) :: wsq) ({ frames := 2, cells := 0, slots := 0, locals := 30 } : Room)) (fun aq Uq => aq = #[(.ref t), (.int j), (.int e2)] ∧ Z.Warmed39 Uq.vm ∧ Uq.heap = h0) (fun _ _ _ _ _ => True) (fun _ Uq oq Uq' => ∃ vq Lq, oq = .returned vq ∧ own_Q_u16cp3 Z t kt N2 vs cs e2 j i h0 n0 vq Uq'.heap Lq ∧ FrameEnd Uq oq Uq' Lq ({ frames := 2, cells := 0, slots := 0, locals := 30 } : Room).cells ({ frames := 2, cells := 0, slots := 0, locals := 30 } : Room).slots) := by
  refine MetFree.of_bodySF (plainFor_of_name own_pn3) hisR ?_
  intro p e s m args below meth cde s₁ Bd hml0 hP hK
  obtain ⟨rfl, hZ, hh⟩ := hP
  have hx := Bd.exec
  have hby := Bd.bytes
  have hml : cde.maxLocals = 3 := hml0
  have hown : s.vm.findClass "java/lang/StringUTF16" = some m.cls := findClass_of_methodNamed Bd.named
  have hnm := (name_of_methodNamed Bd.named Bd.method).1
  have X0 : Stand p l e ({ frames := 2, cells := 0, slots := 0, locals := 30 } : Room) s m #[(.ref t), (.int j), (.int e2)] below meth cde s₁ [] 0 0 := Stand.of_body Bd
  have e0 : s₁.heap = h0 := by rw [← hh, Bd.state]; rfl
  have N0 := Fr.nil n0
  show own_Fin p e s below (own_Q_u16cp3 Z t kt N2 vs cs e2 j i h0 n0) ({ frames := 2, cells := 0, slots := 0, locals := 30 } : Room).cells ({ frames := 2, cells := 0, slots := 0, locals := 30 } : Room).slots s₁ (entryFrame m #[(.ref t), (.int j), (.int e2)] 3)
  rw [own_ef_u16cp3 m t j e2]
  refine own_via (fun _ k => XS.aloadN X0.here hx rfl (hb hby own_d_jdk_52_8_0) rfl rfl k) ?_
  show own_Fin _ _ _ _ _ _ _ s₁ (mkF m 1 #[.val (.ref t), .val (.int j), .val (.int e2)] [(.ref t)])
  refine own_via (fun _ k => XS.iloadN X0.here hx rfl (hb hby own_d_jdk_52_8_1) rfl k) ?_
  show own_Fin _ _ _ _ _ _ _ s₁ (mkF m 2 #[.val (.ref t), .val (.int j), .val (.int e2)] [(.int j), (.ref t)])
  refine own_via (fun _ k => XS.iloadN X0.here hx rfl (hb hby own_d_jdk_52_8_2) rfl k) ?_
  show own_Fin _ _ _ _ _ _ _ s₁ (mkF m 3 #[.val (.ref t), .val (.int j), .val (.int e2)] [(.int e2), (.int j), (.ref t)])
  refine own_via (fun _ k => XS.iconst X0.here hx rfl (hb hby own_d_jdk_52_8_3) k) ?_
  show own_Fin _ _ _ _ _ _ _ s₁ (mkF m 4 #[.val (.ref t), .val (.int j), .val (.int e2)] [(.int (0 : Int32)), (.int e2), (.int j), (.ref t)])
  obtain ⟨_, _, ⟨T1_, L1_, k1_, n1_⟩, -, X1_, ⟨Lc1_, hQ1_, l1_, y1_, z1_⟩, st1_⟩ := Jvm.LawKit.callS X0 hx (y := (⟨"java/lang/StringUTF16", "codePointAt", "([BIIZ)I"⟩ : MethodName)) hown (mvT hZ (hw _ (List.mem_of_getElem? (i := 141) rfl))) (mvT hZ (hw _ (List.mem_of_getElem? (i := 142) rfl))) (mvT hZ (hw _ (List.mem_of_getElem? (i := 71) rfl))) (mvT hZ (hw _ (List.mem_of_getElem? (i := 143) rfl))) (by decide) (backOf (W := 0) (own_rm_u16cp4 l Z a0 hw [] t kt N2 vs cs e2 j i h0 n0 Z0 O0 S3 S4 S5 Va hj hi hlen hr hN hW he) hZ (hw _ (List.mem_of_getElem? (i := 143) rfl)) (hw _ (List.mem_of_getElem? (i := 71) rfl)) (by decide) (by decide)) (g := (mkF m 4 #[.val (.ref t), .val (.int j), .val (.int e2)] [(.int (0 : Int32)), (.int e2), (.int j), (.ref t)])) rfl (by rw [hml]; rfl) (argsL := [(.ref t), (.int j), (.int e2), (.int (0 : Int32))]) (rest := []) (lenOf own_pd16 rfl) rfl (by show 2 * 0 + _ ≤ _; exact Nat.le_of_eq rfl) (hb hby own_d_jdk_52_8_4) (fun _ _ => ⟨rfl, e0, (by decide : 0 + 0 ≤ _), (by decide : 0 + 0 ≤ _)⟩)
  dsimp only [Pt.U, Pt.locs, Pt.cells, Pt.slots] at X1_ l1_ y1_ z1_ st1_ hQ1_
  subst l1_ y1_ z1_
  obtain ⟨r, rfl, Nq1_, hh1_, hq⟩ := hQ1_
  have N1_ := Fr.app N0 Nq1_
  refine own_via (fun _ k => st1_ _ k) ?_
  show own_Fin _ _ _ _ _ _ _ T1_ (mkF m 7 #[.val (.ref t), .val (.int j), .val (.int e2)] [(.int r)])
  exact own_retI X1_ hx Bd.returns Bd.notSynchronized (hb hby own_d_jdk_52_8_7) hh1_ rfl ⟨r, rfl, N1_, rfl, hq⟩ (by decide) (by decide)
theorem own_d_jdk_42_57_0 : decode jdk_42_method_57_code 0 = .ok (.aload_n 0, 1) := by decide +kernel
theorem own_d_jdk_42_57_1 : decode jdk_42_method_57_code 1 = .ok (.invokevirtual 492, 3) := by decide +kernel
theorem own_d_jdk_42_57_4 : decode jdk_42_method_57_code 4 = .ok (.ifCond .eq 23, 3) := by decide +kernel
theorem own_d_jdk_42_57_7 : decode jdk_42_method_57_code 7 = .ok (.iload_n 1, 1) := by decide +kernel
theorem own_d_jdk_42_57_8 : decode jdk_42_method_57_code 8 = .ok (.aload_n 0, 1) := by decide +kernel
theorem own_d_jdk_42_57_9 : decode jdk_42_method_57_code 9 = .ok (.getfield 9, 3) := by decide +kernel
theorem own_d_jdk_42_57_12 : decode jdk_42_method_57_code 12 = .ok (.arraylength, 1) := by decide +kernel
theorem own_d_jdk_42_57_13 : decode jdk_42_method_57_code 13 = .ok (.invokestatic 499, 3) := by decide +kernel
theorem own_d_jdk_42_57_16 : decode jdk_42_method_57_code 16 = .ok (.aload_n 0, 1) := by decide +kernel
theorem own_d_jdk_42_57_17 : decode jdk_42_method_57_code 17 = .ok (.getfield 9, 3) := by decide +kernel
theorem own_d_jdk_42_57_20 : decode jdk_42_method_57_code 20 = .ok (.iload_n 1, 1) := by decide +kernel
theorem own_d_jdk_42_57_21 : decode jdk_42_method_57_code 21 = .ok (.baload, 1) := by decide +kernel
theorem own_d_jdk_42_57_22 : decode jdk_42_method_57_code 22 = .ok (.sipush 255, 3) := by decide +kernel
theorem own_d_jdk_42_57_25 : decode jdk_42_method_57_code 25 = .ok (.iand, 1) := by decide +kernel
theorem own_d_jdk_42_57_26 : decode jdk_42_method_57_code 26 = .ok (.ireturn, 1) := by decide +kernel
theorem own_d_jdk_42_57_27 : decode jdk_42_method_57_code 27 = .ok (.aload_n 0, 1) := by decide +kernel
theorem own_d_jdk_42_57_28 : decode jdk_42_method_57_code 28 = .ok (.getfield 9, 3) := by decide +kernel
theorem own_d_jdk_42_57_31 : decode jdk_42_method_57_code 31 = .ok (.arraylength, 1) := by decide +kernel
theorem own_d_jdk_42_57_32 : decode jdk_42_method_57_code 32 = .ok (.iconst 1, 1) := by decide +kernel
theorem own_d_jdk_42_57_33 : decode jdk_42_method_57_code 33 = .ok (.ishr, 1) := by decide +kernel
theorem own_d_jdk_42_57_34 : decode jdk_42_method_57_code 34 = .ok (.istore_n 2, 1) := by decide +kernel
theorem own_d_jdk_42_57_35 : decode jdk_42_method_57_code 35 = .ok (.iload_n 1, 1) := by decide +kernel
theorem own_d_jdk_42_57_36 : decode jdk_42_method_57_code 36 = .ok (.iload_n 2, 1) := by decide +kernel
theorem own_d_jdk_42_57_37 : decode jdk_42_method_57_code 37 = .ok (.invokestatic 499, 3) := by decide +kernel
theorem own_d_jdk_42_57_40 : decode jdk_42_method_57_code 40 = .ok (.aload_n 0, 1) := by decide +kernel
theorem own_d_jdk_42_57_41 : decode jdk_42_method_57_code 41 = .ok (.getfield 9, 3) := by decide +kernel
theorem own_d_jdk_42_57_44 : decode jdk_42_method_57_code 44 = .ok (.iload_n 1, 1) := by decide +kernel
theorem own_d_jdk_42_57_45 : decode jdk_42_method_57_code 45 = .ok (.iload_n 2, 1) := by decide +kernel
theorem own_d_jdk_42_57_46 : decode jdk_42_method_57_code 46 = .ok (.invokestatic 502, 3) := by decide +kernel
theorem own_pd17 : parseMethodDescriptor "([BII)I" = some ⟨[(.array .byte), .int, .int], some .int⟩ := by decide +kernel
theorem own_d_jdk_42_57_49 : decode jdk_42_method_57_code 49 = .ok (.ireturn, 1) := by decide +kernel
theorem own_ef_cpAt (m : MethodId) (a1 : Addr) (j : Int32) : entryFrame m #[(.ref a1), (.int j)] 3 = mkF m 0 #[.val (.ref a1), .val (.int j), .unset] [] := by (first | (simp [entryFrame, mkF, argsToLocals, Value.category]; done) | rfl)
def own_Q_cpAt (Z : State) (a1 : Addr) (cz : Int32) (t : Addr) (kt : ClassId) (cd : Int32) (N2 : Int32) (vs : List Value) (cs : List Int32) (fm : Value) (j : Int32) (i : Nat) (h0 : Heap) (n0 : Nat) (vq : Option Value) (h : Heap) (Lq : List Loc) : Prop := ∃ (r : Int32), (vq = some (.int r)) ∧ (Fr n0 Lq) ∧ (h = h0) ∧ (own_cpr cs i r)
set_option maxRecDepth 65536 in
set_option maxHeartbeats 40000000 in
theorem own_rm_cpAt (l : Launch) (Z : State) (a0 : Array Value) (hw : ∀ d ∈ tables_1, d.before a0 Z = true) (wsq : List Jvm.Cond) (a1 : Addr) (cz : Int32) (t : Addr) (kt : ClassId) (cd : Int32) (N2 : Int32) (vs : List Value) (cs : List Int32) (fm : Value) (j : Int32) (i : Nat) (h0 : Heap) (n0 : Nat) (Z0 : n0 ≤ h0.size) (O0 : Old Z n0 h0) (S1 : Sta Z Z.heap "java/lang/String" "COMPACT_STRINGS" "Z" (.int cz)) (P5 : ¬ cz = (0 : Int32)) (S2 : Sta Z Z.heap "jdk/internal/util/Preconditions" "SIOOBE_FORMATTER" "Ljava/util/function/BiFunction;" fm) (r_fm : fm.isRef = true) (S3 : Sta Z Z.heap "java/lang/StringUTF16" "$assertionsDisabled" "Z" (.int (1 : Int32))) (S4 : Sta Z Z.heap "java/lang/StringUTF16" "HI_BYTE_SHIFT" "I" (.int (0 : Int32))) (S5 : Sta Z Z.heap "java/lang/StringUTF16" "LO_BYTE_SHIFT" "I" (.int (8 : Int32))) (E1 : Exa Z h0 a1 "java/lang/String") (F1 : Fld Z h0 a1 "java/lang/String" "coder" "B" (.int cd)) (F2 : Fld Z h0 a1 "java/lang/String" "value" "[B" (.ref t)) (Va : Arv Z h0 t kt .byte N2 vs (.int 0)) (hc : own_cod cs cd N2 vs) (hlen : cs.length ≤ 4000) (hr : own_chs cs) (hj : j = Int32.ofNat i) (hi : i < cs.length) :
    MetFree l (⟨"java/lang/String", "codePointAt", "(I)I"⟩ : MethodName) (head1 (Jvm.Cond.code (⟨"java/lang/String", "codePointAt", "(I)I"⟩ : MethodName) jdk_42_method_57_code 3 (some .int) :: wsq) ({ frames := 3, cells := 0, slots := 0, locals := 44 } : Room)) (fun aq Uq => aq = #[(.ref a1), (.int j)] ∧ Z.Warmed39 Uq.vm ∧ Uq.heap = h0) (fun _ _ _ _ _ => True) (fun _ Uq oq Uq' => ∃ vq Lq, oq = .returned vq ∧ own_Q_cpAt Z a1 cz t kt cd N2 vs cs fm j i h0 n0 vq Uq'.heap Lq ∧ FrameEnd Uq oq Uq' Lq ({ frames := 3, cells := 0, slots := 0, locals := 44 } : Room).cells ({ frames := 3, cells := 0, slots := 0, locals := 44 } : Room).slots) := by
  refine MetFree.of_bodySF (plainFor_of_name own_pn0) hisR ?_
  intro p e s m args below meth cde s₁ Bd hml0 hP hK
  obtain ⟨rfl, hZ, hh⟩ := hP
  have hx := Bd.exec
  have hby := Bd.bytes
  have hml : cde.maxLocals = 3 := hml0
  have hown : s.vm.findClass "java/lang/String" = some m.cls := findClass_of_methodNamed Bd.named
  have hnm := (name_of_methodNamed Bd.named Bd.method).1
  have X0 : Stand p l e ({ frames := 3, cells := 0, slots := 0, locals := 44 } : Room) s m #[(.ref a1), (.int j)] below meth cde s₁ [] 0 0 := Stand.of_body Bd
  have e0 : s₁.heap = h0 := by rw [← hh, Bd.state]; rfl
  have N0 := Fr.nil n0
  show own_Fin p e s below (own_Q_cpAt Z a1 cz t kt cd N2 vs cs fm j i h0 n0) ({ frames := 3, cells := 0, slots := 0, locals := 44 } : Room).cells ({ frames := 3, cells := 0, slots := 0, locals := 44 } : Room).slots s₁ (entryFrame m #[(.ref a1), (.int j)] 3)
  rw [own_ef_cpAt m a1 j]
  refine own_via (fun _ k => XS.aloadN X0.here hx rfl (hb hby own_d_jdk_42_57_0) rfl rfl k) ?_
  show own_Fin _ _ _ _ _ _ _ s₁ (mkF m 1 #[.val (.ref a1), .val (.int j), .unset] [(.ref a1)])
  obtain ⟨cq1_, kq1_, q1_a, q1_b, q1_c⟩ := isOf hZ e0 E1
  obtain ⟨_, _, ⟨T1_, L1_, k1_, n1_⟩, -, X1_, ⟨Lc1_, hQ1_, l1_, y1_, z1_⟩, st1_⟩ := X0.virtualBack hx (y := (⟨"java/lang/String", "isLatin1", "()Z"⟩ : MethodName)) (z := (⟨"java/lang/String", "isLatin1", "()Z"⟩ : MethodName)) hown (mvT hZ (hw _ (List.mem_of_getElem? (i := 104) rfl))) (mvT hZ (hw _ (List.mem_of_getElem? (i := 105) rfl))) (notFace_of_selects (args := #[]) (mvT hZ (hw _ (List.mem_of_getElem? (i := 107) rfl)))) (mvT hZ (hw _ (List.mem_of_getElem? (i := 107) rfl))) (mvT hZ (hw _ (List.mem_of_getElem? (i := 106) rfl))) (by decide) (backOf (W := 0) (own_rm_isLat l Z a0 hw [] a1 cz cd h0 n0 Z0 O0 S1 (by first | assumption | decide) F1) hZ (hw _ (List.mem_of_getElem? (i := 108) rfl)) (hw _ (List.mem_of_getElem? (i := 14) rfl)) (by decide) (by decide)) q1_a q1_c (g := (mkF m 1 #[.val (.ref a1), .val (.int j), .unset] [(.ref a1)])) rfl (by rw [hml]; rfl) (Steps.refl _) (argsL := []) (rest := []) (lenOf own_pd6 rfl) rfl (by show 2 * 0 + _ ≤ _; exact Nat.le_of_eq rfl) (hb hby own_d_jdk_42_57_1) (fun _ _ => ⟨rfl, e0, (by decide : 0 + 0 ≤ _), (by decide : 0 + 0 ≤ _)⟩)
  dsimp only [Pt.U, Pt.locs, Pt.cells, Pt.slots] at X1_ l1_ y1_ z1_ st1_ hQ1_
  subst l1_ y1_ z1_
  obtain ⟨rl, rfl, Nq1_, hh1_, hql⟩ := hQ1_
  have N1_ := Fr.app N0 Nq1_
  refine own_via (fun _ k => st1_.trans k) ?_
  show own_Fin _ _ _ _ _ _ _ T1_ (mkF m 4 #[.val (.ref a1), .val (.int j), .unset] [(.int rl)])
  rcases Classical.em (rl = (0 : Int32)) with hz | hz
  · refine own_via (fun _ k => XS.ifYes X1_.here hx rfl (pc0 := 4) (pc' := 27) rfl (hb hby own_d_jdk_42_57_4) rfl ((if0 _ _).trans (teq hz).1) (by decide) (by decide) k) ?_
    show own_Fin _ _ _ _ _ _ _ T1_ (mkF m 27 #[.val (.ref a1), .val (.int j), .unset] [])
    have hd : ¬ cd = (0 : Int32) := (hql.resolve_left fun z => absurd (z.1.symm.trans hz) (by decide)).2
    have hA := own_cod_u hc hd
    have hE := own_half hA.1 hlen
    refine own_via (fun _ k => XS.aloadN X1_.here hx rfl (hb hby own_d_jdk_42_57_27) rfl rfl k) ?_
    show own_Fin _ _ _ _ _ _ _ T1_ (mkF m 28 #[.val (.ref a1), .val (.int j), .unset] [(.ref a1)])
    obtain ⟨T7_, X7_, e7_, st7_⟩ := getF X1_ hx hZ hown (host := "") (Or.inl (hw _ (List.mem_of_getElem? (i := 31) rfl))) Via.refl hh1_ F2 (g := (mkF m 28 #[.val (.ref a1), .val (.int j), .unset] [(.ref a1)])) rfl rfl (hb hby own_d_jdk_42_57_28)
    refine own_via (fun _ k => st7_ _ k) ?_
    show own_Fin _ _ _ _ _ _ _ T7_ (mkF m 31 #[.val (.ref a1), .val (.int j), .unset] [(.ref t)])
    obtain ⟨c8_, Ar8_, -, S8_, M8_, -, -⟩ := (id Va)
    refine own_via (fun _ k => X7_.arraylength hx (own_eq e7_ Ar8_.1) (State.isArrayOf_alike hZ.alike Ar8_.2.1) (g := (mkF m 31 #[.val (.ref a1), .val (.int j), .unset] [(.ref t)])) rfl rfl (hb hby own_d_jdk_42_57_31) _ (by rw [len_of S8_ M8_]; exact k)) ?_
    show own_Fin _ _ _ _ _ _ _ T7_ (mkF m 32 #[.val (.ref a1), .val (.int j), .unset] [(.int N2)])
    refine own_via (fun _ k => XS.iconst X7_.here hx rfl (hb hby own_d_jdk_42_57_32) k) ?_
    show own_Fin _ _ _ _ _ _ _ T7_ (mkF m 33 #[.val (.ref a1), .val (.int j), .unset] [(.int (1 : Int32)), (.int N2)])
    refine own_via (fun _ k => XS.ishr X7_.here hx rfl (hb hby own_d_jdk_42_57_33) rfl k) ?_
    show own_Fin _ _ _ _ _ _ _ T7_ (mkF m 34 #[.val (.ref a1), .val (.int j), .unset] [(.int (N2 >>> ((1 : Int32) &&& 31)))])
    refine own_via (fun _ k => XS.istoreN X7_.here hx rfl (hb hby own_d_jdk_42_57_34) rfl (l' := #[.val (.ref a1), .val (.int j), .val (.int (N2 >>> ((1 : Int32) &&& 31)))]) rfl k) ?_
    show own_Fin _ _ _ _ _ _ _ T7_ (mkF m 35 #[.val (.ref a1), .val (.int j), .val (.int (N2 >>> ((1 : Int32) &&& 31)))] [])
    refine own_via (fun _ k => XS.iloadN X7_.here hx rfl (hb hby own_d_jdk_42_57_35) rfl k) ?_
    show own_Fin _ _ _ _ _ _ _ T7_ (mkF m 36 #[.val (.ref a1), .val (.int j), .val (.int (N2 >>> ((1 : Int32) &&& 31)))] [(.int j)])
    refine own_via (fun _ k => XS.iloadN X7_.here hx rfl (hb hby own_d_jdk_42_57_36) rfl k) ?_
    show own_Fin _ _ _ _ _ _ _ T7_ (mkF m 37 #[.val (.ref a1), .val (.int j), .val (.int (N2 >>> ((1 : Int32) &&& 31)))] [(.int (N2 >>> ((1 : Int32) &&& 31))), (.int j)])
    obtain ⟨_, _, ⟨T9_, L9_, k9_, n9_⟩, -, X9_, ⟨Lc9_, hQ9_, l9_, y9_, z9_⟩, st9_⟩ := Jvm.LawKit.callS X7_ hx (y := (⟨"java/lang/String", "checkIndex", "(II)V"⟩ : MethodName)) hown (mvT hZ (hw _ (List.mem_of_getElem? (i := 137) rfl))) (mvT hZ (hw _ (List.mem_of_getElem? (i := 119) rfl))) (mvT hZ (hw _ (List.mem_of_getElem? (i := 14) rfl))) (mvT hZ (hw _ (List.mem_of_getElem? (i := 120) rfl))) (by decide) (backOf (W := 0) (own_rm_chk l Z a0 hw [] j (N2 >>> ((1 : Int32) &&& 31)) fm h0 n0 Z0 O0 S2 r_fm (own_inb hj hE hi (by omega)).1 (own_inb hj hE hi (by omega)).2) hZ (hw _ (List.mem_of_getElem? (i := 120) rfl)) (hw _ (List.mem_of_getElem? (i := 14) rfl)) (by decide) (by decide)) (g := (mkF m 37 #[.val (.ref a1), .val (.int j), .val (.int (N2 >>> ((1 : Int32) &&& 31)))] [(.int (N2 >>> ((1 : Int32) &&& 31))), (.int j)])) rfl (by rw [hml]; rfl) (argsL := [(.int j), (.int (N2 >>> ((1 : Int32) &&& 31)))]) (rest := []) (lenOf own_pd2 rfl) rfl (by show 2 * 0 + _ ≤ _; exact Nat.le_of_eq rfl) (hb hby own_d_jdk_42_57_37) (fun _ _ => ⟨rfl, e7_, (by decide : 0 + 0 + 0 ≤ _), (by decide : 0 + 0 + 0 ≤ _)⟩)
    dsimp only [Pt.U, Pt.locs, Pt.cells, Pt.slots] at X9_ l9_ y9_ z9_ st9_ hQ9_
    subst l9_ y9_ z9_
    obtain ⟨rfl, Nq9_, hh9_⟩ := hQ9_
    have N9_ := Fr.app N1_ Nq9_
    refine own_via (fun _ k => st9_ _ k) ?_
    show own_Fin _ _ _ _ _ _ _ T9_ (mkF m 40 #[.val (.ref a1), .val (.int j), .val (.int (N2 >>> ((1 : Int32) &&& 31)))] [])
    refine own_via (fun _ k => XS.aloadN X9_.here hx rfl (hb hby own_d_jdk_42_57_40) rfl rfl k) ?_
    show own_Fin _ _ _ _ _ _ _ T9_ (mkF m 41 #[.val (.ref a1), .val (.int j), .val (.int (N2 >>> ((1 : Int32) &&& 31)))] [(.ref a1)])
    obtain ⟨T10_, X10_, e10_, st10_⟩ := getF X9_ hx hZ hown (host := "") (Or.inl (hw _ (List.mem_of_getElem? (i := 31) rfl))) Via.refl hh9_ F2 (g := (mkF m 41 #[.val (.ref a1), .val (.int j), .val (.int (N2 >>> ((1 : Int32) &&& 31)))] [(.ref a1)])) rfl rfl (hb hby own_d_jdk_42_57_41)
    refine own_via (fun _ k => st10_ _ k) ?_
    show own_Fin _ _ _ _ _ _ _ T10_ (mkF m 44 #[.val (.ref a1), .val (.int j), .val (.int (N2 >>> ((1 : Int32) &&& 31)))] [(.ref t)])
    refine own_via (fun _ k => XS.iloadN X10_.here hx rfl (hb hby own_d_jdk_42_57_44) rfl k) ?_
    show own_Fin _ _ _ _ _ _ _ T10_ (mkF m 45 #[.val (.ref a1), .val (.int j), .val (.int (N2 >>> ((1 : Int32) &&& 31)))] [(.int j), (.ref t)])
    refine own_via (fun _ k => XS.iloadN X10_.here hx rfl (hb hby own_d_jdk_42_57_45) rfl k) ?_
    show own_Fin _ _ _ _ _ _ _ T10_ (mkF m 46 #[.val (.ref a1), .val (.int j), .val (.int (N2 >>> ((1 : Int32) &&& 31)))] [(.int (N2 >>> ((1 : Int32) &&& 31))), (.int j), (.ref t)])
    obtain ⟨_, _, ⟨T11_, L11_, k11_, n11_⟩, -, X11_, ⟨Lc11_, hQ11_, l11_, y11_, z11_⟩, st11_⟩ := Jvm.LawKit.callS X10_ hx (y := (⟨"java/lang/StringUTF16", "codePointAt", "([BII)I"⟩ : MethodName)) hown (mvT hZ (hw _ (List.mem_of_getElem? (i := 138) rfl))) (mvT hZ (hw _ (List.mem_of_getElem? (i := 139) rfl))) (mvT hZ (hw _ (List.mem_of_getElem? (i := 71) rfl))) (mvT hZ (hw _ (List.mem_of_getElem? (i := 140) rfl))) (by decide) (backOf (W := 0) (own_rm_u16cp3 l Z a0 hw [] t kt N2 vs cs (N2 >>> ((1 : Int32) &&& 31)) j i h0 n0 Z0 O0 S3 S4 S5 Va hj hi hlen hr hA.1 hA.2.1 hE) hZ (hw _ (List.mem_of_getElem? (i := 140) rfl)) (hw _ (List.mem_of_getElem? (i := 71) rfl)) (by decide) (by decide)) (g := (mkF m 46 #[.val (.ref a1), .val (.int j), .val (.int (N2 >>> ((1 : Int32) &&& 31)))] [(.int (N2 >>> ((1 : Int32) &&& 31))), (.int j), (.ref t)])) rfl (by rw [hml]; rfl) (argsL := [(.ref t), (.int j), (.int (N2 >>> ((1 : Int32) &&& 31)))]) (rest := []) (lenOf own_pd17 rfl) rfl (by show 2 * 0 + _ ≤ _; exact Nat.le_of_eq rfl) (hb hby own_d_jdk_42_57_46) (fun _ _ => ⟨rfl, e10_, (by decide : 0 + 0 + 0 + 0 ≤ _), (by decide : 0 + 0 + 0 + 0 ≤ _)⟩)
    dsimp only [Pt.U, Pt.locs, Pt.cells, Pt.slots] at X11_ l11_ y11_ z11_ st11_ hQ11_
    subst l11_ y11_ z11_
    obtain ⟨r, rfl, Nq11_, hh11_, hq⟩ := hQ11_
    have N11_ := Fr.app N9_ Nq11_
    refine own_via (fun _ k => st11_ _ k) ?_
    show own_Fin _ _ _ _ _ _ _ T11_ (mkF m 49 #[.val (.ref a1), .val (.int j), .val (.int (N2 >>> ((1 : Int32) &&& 31)))] [(.int r)])
    exact own_retI X11_ hx Bd.returns Bd.notSynchronized (hb hby own_d_jdk_42_57_49) hh11_ rfl ⟨r, rfl, N11_, rfl, hq⟩ (by decide) (by decide)
  · refine own_via (fun _ k => XS.ifNo X1_.here hx rfl (hb hby own_d_jdk_42_57_4) rfl ((if0 _ _).trans (feq hz).1) k) ?_
    show own_Fin _ _ _ _ _ _ _ T1_ (mkF m 7 #[.val (.ref a1), .val (.int j), .unset] [])
    have hd : cd = (0 : Int32) := (hql.resolve_right fun z => hz z.1).2
    have hA := own_cod_l hc hd
    refine own_via (fun _ k => XS.iloadN X1_.here hx rfl (hb hby own_d_jdk_42_57_7) rfl k) ?_
    show own_Fin _ _ _ _ _ _ _ T1_ (mkF m 8 #[.val (.ref a1), .val (.int j), .unset] [(.int j)])
    refine own_via (fun _ k => XS.aloadN X1_.here hx rfl (hb hby own_d_jdk_42_57_8) rfl rfl k) ?_
    show own_Fin _ _ _ _ _ _ _ T1_ (mkF m 9 #[.val (.ref a1), .val (.int j), .unset] [(.ref a1), (.int j)])
    obtain ⟨T2_, X2_, e2_, st2_⟩ := getF X1_ hx hZ hown (host := "") (Or.inl (hw _ (List.mem_of_getElem? (i := 31) rfl))) Via.refl hh1_ F2 (g := (mkF m 9 #[.val (.ref a1), .val (.int j), .unset] [(.ref a1), (.int j)])) rfl rfl (hb hby own_d_jdk_42_57_9)
    refine own_via (fun _ k => st2_ _ k) ?_
    show own_Fin _ _ _ _ _ _ _ T2_ (mkF m 12 #[.val (.ref a1), .val (.int j), .unset] [(.ref t), (.int j)])
    obtain ⟨c3_, Ar3_, -, S3_, M3_, -, -⟩ := (id Va)
    refine own_via (fun _ k => X2_.arraylength hx (own_eq e2_ Ar3_.1) (State.isArrayOf_alike hZ.alike Ar3_.2.1) (g := (mkF m 12 #[.val (.ref a1), .val (.int j), .unset] [(.ref t), (.int j)])) rfl rfl (hb hby own_d_jdk_42_57_12) _ (by rw [len_of S3_ M3_]; exact k)) ?_
    show own_Fin _ _ _ _ _ _ _ T2_ (mkF m 13 #[.val (.ref a1), .val (.int j), .unset] [(.int N2), (.int j)])
    obtain ⟨_, _, ⟨T4_, L4_, k4_, n4_⟩, -, X4_, ⟨Lc4_, hQ4_, l4_, y4_, z4_⟩, st4_⟩ := Jvm.LawKit.callS X2_ hx (y := (⟨"java/lang/String", "checkIndex", "(II)V"⟩ : MethodName)) hown (mvT hZ (hw _ (List.mem_of_getElem? (i := 137) rfl))) (mvT hZ (hw _ (List.mem_of_getElem? (i := 119) rfl))) (mvT hZ (hw _ (List.mem_of_getElem? (i := 14) rfl))) (mvT hZ (hw _ (List.mem_of_getElem? (i := 120) rfl))) (by decide) (backOf (W := 0) (own_rm_chk l Z a0 hw [] j N2 fm h0 n0 Z0 O0 S2 r_fm (own_inb hj hA.1 hi (by omega)).1 (own_inb hj hA.1 hi (by omega)).2) hZ (hw _ (List.mem_of_getElem? (i := 120) rfl)) (hw _ (List.mem_of_getElem? (i := 14) rfl)) (by decide) (by decide)) (g := (mkF m 13 #[.val (.ref a1), .val (.int j), .unset] [(.int N2), (.int j)])) rfl (by rw [hml]; rfl) (argsL := [(.int j), (.int N2)]) (rest := []) (lenOf own_pd2 rfl) rfl (by show 2 * 0 + _ ≤ _; exact Nat.le_of_eq rfl) (hb hby own_d_jdk_42_57_13) (fun _ _ => ⟨rfl, e2_, (by decide : 0 + 0 + 0 ≤ _), (by decide : 0 + 0 + 0 ≤ _)⟩)
    dsimp only [Pt.U, Pt.locs, Pt.cells, Pt.slots] at X4_ l4_ y4_ z4_ st4_ hQ4_
    subst l4_ y4_ z4_
    obtain ⟨rfl, Nq4_, hh4_⟩ := hQ4_
    have N4_ := Fr.app N1_ Nq4_
    refine own_via (fun _ k => st4_ _ k) ?_
    show own_Fin _ _ _ _ _ _ _ T4_ (mkF m 16 #[.val (.ref a1), .val (.int j), .unset] [])
    refine own_via (fun _ k => XS.aloadN X4_.here hx rfl (hb hby own_d_jdk_42_57_16) rfl rfl k) ?_
    show own_Fin _ _ _ _ _ _ _ T4_ (mkF m 17 #[.val (.ref a1), .val (.int j), .unset] [(.ref a1)])
    obtain ⟨T5_, X5_, e5_, st5_⟩ := getF X4_ hx hZ hown (host := "") (Or.inl (hw _ (List.mem_of_getElem? (i := 31) rfl))) Via.refl hh4_ F2 (g := (mkF m 17 #[.val (.ref a1), .val (.int j), .unset] [(.ref a1)])) rfl rfl (hb hby own_d_jdk_42_57_17)
    refine own_via (fun _ k => st5_ _ k) ?_
    show own_Fin _ _ _ _ _ _ _ T5_ (mkF m 20 #[.val (.ref a1), .val (.int j), .unset] [(.ref t)])
    refine own_via (fun _ k => XS.iloadN X5_.here hx rfl (hb hby own_d_jdk_42_57_20) rfl k) ?_
    show own_Fin _ _ _ _ _ _ _ T5_ (mkF m 21 #[.val (.ref a1), .val (.int j), .unset] [(.int j), (.ref t)])
    obtain ⟨c6_, Ar6_, q6_, S6_, M6_, H6_, G6_⟩ := (id Va)
    have hin6_ : ¬ (j < 0 ∨ c6_.slots.size ≤ (j).toNatClampNeg) := inb_of S6_ (own_inb hj hA.1 hi (by omega))
    have hat6_ : c6_.slots[(j).toNatClampNeg]? = some (.int (own_lo (cs.getD i 0))) := H6_.at hin6_ (by rw [own_clamp hj (by omega)]; exact (hA.2 i hi).1)
    refine own_via (fun _ k => X5_.baloadBytes hx (j := j) (v := (.int (own_lo (cs.getD i 0)))) (own_eq e5_ Ar6_.1) (State.isArrayOf_alike hZ.alike Ar6_.2.1) Ar6_.2.2 hin6_ hat6_ (g := (mkF m 21 #[.val (.ref a1), .val (.int j), .unset] [(.int j), (.ref t)])) rfl rfl (hb hby own_d_jdk_42_57_21) _ k) ?_
    show own_Fin _ _ _ _ _ _ _ T5_ (mkF m 22 #[.val (.ref a1), .val (.int j), .unset] [(.int (own_lo (cs.getD i 0)))])
    refine own_via (fun _ k => XS.sipush X5_.here hx rfl (hb hby own_d_jdk_42_57_22) k) ?_
    show own_Fin _ _ _ _ _ _ _ T5_ (mkF m 25 #[.val (.ref a1), .val (.int j), .unset] [(.int (255 : Int32)), (.int (own_lo (cs.getD i 0)))])
    refine own_via (fun _ k => XS.iand X5_.here hx rfl (hb hby own_d_jdk_42_57_25) rfl k) ?_
    show own_Fin _ _ _ _ _ _ _ T5_ (mkF m 26 #[.val (.ref a1), .val (.int j), .unset] [(.int ((own_lo (cs.getD i 0)) &&& (255 : Int32)))])
    exact own_retI X5_ hx Bd.returns Bd.notSynchronized (hb hby own_d_jdk_42_57_26) e5_ (own_latI (own_lat_of (hr i) (hA.2 i hi).2)) ⟨(cs.getD i 0), rfl, N4_, rfl, (Or.inr ⟨fun q => own_lat_his (own_lat_of (hr i) (hA.2 i hi).2) q.1, rfl⟩)⟩ (by decide) (by decide)
theorem own_d_prog_13_6_0 : decode prog_13_method_6_code 0 = .ok (.aload_n 0, 1) := by decide +kernel
theorem own_d_prog_13_6_1 : decode prog_13_method_6_code 1 = .ok (.invokevirtual 88, 3) := by decide +kernel
theorem own_pd18 : parseMethodDescriptor "()I" = some ⟨[], some .int⟩ := by decide +kernel
theorem own_d_prog_13_6_4 : decode prog_13_method_6_code 4 = .ok (.aload_n 1, 1) := by decide +kernel
theorem own_d_prog_13_6_5 : decode prog_13_method_6_code 5 = .ok (.invokevirtual 88, 3) := by decide +kernel
theorem own_d_prog_13_6_8 : decode prog_13_method_6_code 8 = .ok (.invokestatic 92, 3) := by decide +kernel
theorem own_pd19 : parseMethodDescriptor "(II)I" = some ⟨[.int, .int], some .int⟩ := by decide +kernel
theorem own_d_prog_13_6_11 : decode prog_13_method_6_code 11 = .ok (.istore_n 2, 1) := by decide +kernel
theorem own_d_prog_13_6_12 : decode prog_13_method_6_code 12 = .ok (.iconst 0, 1) := by decide +kernel
theorem own_d_prog_13_6_13 : decode prog_13_method_6_code 13 = .ok (.istore_n 3, 1) := by decide +kernel
theorem own_d_prog_13_6_14 : decode prog_13_method_6_code 14 = .ok (.iload_n 3, 1) := by decide +kernel
theorem own_d_prog_13_6_15 : decode prog_13_method_6_code 15 = .ok (.iload_n 2, 1) := by decide +kernel
theorem own_d_prog_13_6_16 : decode prog_13_method_6_code 16 = .ok (.if_icmp .ge 82, 3) := by decide +kernel
theorem own_d_prog_13_6_98 : decode prog_13_method_6_code 98 = .ok (.aload_n 0, 1) := by decide +kernel
theorem own_d_prog_13_6_99 : decode prog_13_method_6_code 99 = .ok (.invokevirtual 88, 3) := by decide +kernel
theorem own_d_prog_13_6_102 : decode prog_13_method_6_code 102 = .ok (.aload_n 1, 1) := by decide +kernel
theorem own_d_prog_13_6_103 : decode prog_13_method_6_code 103 = .ok (.invokevirtual 88, 3) := by decide +kernel
theorem own_d_prog_13_6_106 : decode prog_13_method_6_code 106 = .ok (.invokestatic 112, 3) := by decide +kernel
theorem own_d_prog_13_6_109 : decode prog_13_method_6_code 109 = .ok (.ireturn, 1) := by decide +kernel
theorem own_d_prog_13_6_19 : decode prog_13_method_6_code 19 = .ok (.aload_n 0, 1) := by decide +kernel
theorem own_d_prog_13_6_20 : decode prog_13_method_6_code 20 = .ok (.iload_n 3, 1) := by decide +kernel
theorem own_d_prog_13_6_21 : decode prog_13_method_6_code 21 = .ok (.invokevirtual 98, 3) := by decide +kernel
theorem own_pd20 : parseMethodDescriptor "(I)C" = some ⟨[.int], some .char⟩ := by decide +kernel
theorem own_d_prog_13_6_24 : decode prog_13_method_6_code 24 = .ok (.istore 4, 2) := by decide +kernel
theorem own_os_cmpF_24 {z0 : Value} {z1 : Value} {z2 : Value} {z3 : Value} {s4 : Slot} {s5 : Slot} {v : Int32} (h : One s4) : storeLocals #[.val z0, .val z1, .val z2, .val z3, s4, s5, .unset] 4 (.int v) = some #[.val z0, .val z1, .val z2, .val z3, .val (.int v), s5, .unset] := by
  rcases h with rfl | ⟨w, rfl, hw⟩
  · rfl
  · cases w <;> first | rfl | (simp [Value.category] at hw)
theorem own_d_prog_13_6_26 : decode prog_13_method_6_code 26 = .ok (.aload_n 1, 1) := by decide +kernel
theorem own_d_prog_13_6_27 : decode prog_13_method_6_code 27 = .ok (.iload_n 3, 1) := by decide +kernel
theorem own_d_prog_13_6_28 : decode prog_13_method_6_code 28 = .ok (.invokevirtual 98, 3) := by decide +kernel
theorem own_d_prog_13_6_31 : decode prog_13_method_6_code 31 = .ok (.istore 5, 2) := by decide +kernel
theorem own_os_cmpF_31 {z0 : Value} {z1 : Value} {z2 : Value} {z3 : Value} {z4 : Value} {s5 : Slot} {v : Int32} (h : One s5) : storeLocals #[.val z0, .val z1, .val z2, .val z3, .val z4, s5, .unset] 5 (.int v) = some #[.val z0, .val z1, .val z2, .val z3, .val z4, .val (.int v), .unset] := by
  rcases h with rfl | ⟨w, rfl, hw⟩
  · rfl
  · cases w <;> first | rfl | (simp [Value.category] at hw)
theorem own_d_prog_13_6_33 : decode prog_13_method_6_code 33 = .ok (.iload 4, 2) := by decide +kernel
theorem own_d_prog_13_6_35 : decode prog_13_method_6_code 35 = .ok (.iload 5, 2) := by decide +kernel
theorem own_d_prog_13_6_37 : decode prog_13_method_6_code 37 = .ok (.if_icmp .eq 55, 3) := by decide +kernel
theorem own_d_prog_13_6_92 : decode prog_13_method_6_code 92 = .ok (.iinc 3 1, 3) := by decide +kernel
theorem own_d_prog_13_6_95 : decode prog_13_method_6_code 95 = .ok (.goto (-81), 3) := by decide +kernel
theorem own_d_prog_13_6_40 : decode prog_13_method_6_code 40 = .ok (.iload 4, 2) := by decide +kernel
theorem own_d_prog_13_6_42 : decode prog_13_method_6_code 42 = .ok (.invokestatic 102, 3) := by decide +kernel
theorem own_d_prog_13_6_45 : decode prog_13_method_6_code 45 = .ok (.ifCond .ne 11, 3) := by decide +kernel
theorem own_d_prog_13_6_56 : decode prog_13_method_6_code 56 = .ok (.iconst 1, 1) := by decide +kernel
theorem own_d_prog_13_6_57 : decode prog_13_method_6_code 57 = .ok (.goto 4, 3) := by decide +kernel
theorem own_d_prog_13_6_61 : decode prog_13_method_6_code 61 = .ok (.istore 6, 2) := by decide +kernel
theorem own_d_prog_13_6_63 : decode prog_13_method_6_code 63 = .ok (.iload 6, 2) := by decide +kernel
theorem own_d_prog_13_6_65 : decode prog_13_method_6_code 65 = .ok (.ifCond .eq 19, 3) := by decide +kernel
theorem own_d_prog_13_6_68 : decode prog_13_method_6_code 68 = .ok (.aload_n 0, 1) := by decide +kernel
theorem own_d_prog_13_6_69 : decode prog_13_method_6_code 69 = .ok (.iload_n 3, 1) := by decide +kernel
theorem own_d_prog_13_6_70 : decode prog_13_method_6_code 70 = .ok (.invokevirtual 108, 3) := by decide +kernel
theorem own_d_prog_13_6_73 : decode prog_13_method_6_code 73 = .ok (.aload_n 1, 1) := by decide +kernel
theorem own_d_prog_13_6_74 : decode prog_13_method_6_code 74 = .ok (.iload_n 3, 1) := by decide +kernel
theorem own_d_prog_13_6_75 : decode prog_13_method_6_code 75 = .ok (.invokevirtual 108, 3) := by decide +kernel
theorem own_d_prog_13_6_78 : decode prog_13_method_6_code 78 = .ok (.invokestatic 112, 3) := by decide +kernel
theorem own_d_prog_13_6_81 : decode prog_13_method_6_code 81 = .ok (.goto 10, 3) := by decide +kernel
theorem own_d_prog_13_6_91 : decode prog_13_method_6_code 91 = .ok (.ireturn, 1) := by decide +kernel
theorem own_d_prog_13_6_48 : decode prog_13_method_6_code 48 = .ok (.iload 5, 2) := by decide +kernel
theorem own_d_prog_13_6_50 : decode prog_13_method_6_code 50 = .ok (.invokestatic 102, 3) := by decide +kernel
theorem own_d_prog_13_6_53 : decode prog_13_method_6_code 53 = .ok (.ifCond .eq 7, 3) := by decide +kernel
theorem own_d_prog_13_6_60 : decode prog_13_method_6_code 60 = .ok (.iconst 0, 1) := by decide +kernel
theorem own_d_prog_13_6_84 : decode prog_13_method_6_code 84 = .ok (.iload 4, 2) := by decide +kernel
theorem own_d_prog_13_6_86 : decode prog_13_method_6_code 86 = .ok (.iload 5, 2) := by decide +kernel
theorem own_d_prog_13_6_88 : decode prog_13_method_6_code 88 = .ok (.invokestatic 117, 3) := by decide +kernel
theorem own_pn7 : plainName "com/example/co_occurrence_ranking/cooccurrenceranking/io/LineReader" = true := by first | (simp [plainName, overriddenIn]; done) | decide +kernel
theorem own_ef_cmpF (m : MethodId) (a1 : Addr) (a2 : Addr) : entryFrame m #[(.ref a1), (.ref a2)] 7 = mkF m 0 #[.val (.ref a1), .val (.ref a2), .unset, .unset, .unset, .unset, .unset] [] := by (first | (simp [entryFrame, mkF, argsToLocals, Value.category]; done) | rfl)
def own_Q_cmpF (Z : State) (a1 : Addr) (cz : Int32) (t : Addr) (kt : ClassId) (cd : Int32) (N2 : Int32) (vs : List Value) (cs : List Int32) (fm : Value) (a2 : Addr) (t2 : Addr) (kt2 : ClassId) (cd2 : Int32) (M2 : Int32) (vs2 : List Value) (ds : List Int32) (h0 : Heap) (n0 : Nat) (vq : Option Value) (h : Heap) (Lq : List Loc) : Prop := ∃ (r : Int32), (vq = some (.int r)) ∧ (Fr n0 Lq) ∧ (h = h0) ∧ (own_cf cs ds r)
set_option maxRecDepth 65536 in
set_option maxHeartbeats 40000000 in
theorem own_rm_cmpF (l : Launch) (Z : State) (a0 : Array Value) (hw : ∀ d ∈ tables_1, d.before a0 Z = true) (wsq : List Jvm.Cond) (a1 : Addr) (cz : Int32) (t : Addr) (kt : ClassId) (cd : Int32) (N2 : Int32) (vs : List Value) (cs : List Int32) (fm : Value) (a2 : Addr) (t2 : Addr) (kt2 : ClassId) (cd2 : Int32) (M2 : Int32) (vs2 : List Value) (ds : List Int32) (h0 : Heap) (n0 : Nat) (Z0 : n0 ≤ h0.size) (O0 : Old Z n0 h0) (S1 : Sta Z Z.heap "java/lang/String" "COMPACT_STRINGS" "Z" (.int cz)) (P5 : ¬ cz = (0 : Int32)) (S2 : Sta Z Z.heap "jdk/internal/util/Preconditions" "SIOOBE_FORMATTER" "Ljava/util/function/BiFunction;" fm) (r_fm : fm.isRef = true) (S3 : Sta Z Z.heap "java/lang/StringUTF16" "$assertionsDisabled" "Z" (.int (1 : Int32))) (S4 : Sta Z Z.heap "java/lang/StringUTF16" "HI_BYTE_SHIFT" "I" (.int (0 : Int32))) (S5 : Sta Z Z.heap "java/lang/StringUTF16" "LO_BYTE_SHIFT" "I" (.int (8 : Int32))) (E1 : Exa Z h0 a1 "java/lang/String") (F1 : Fld Z h0 a1 "java/lang/String" "coder" "B" (.int cd)) (F2 : Fld Z h0 a1 "java/lang/String" "value" "[B" (.ref t)) (Va : Arv Z h0 t kt .byte N2 vs (.int 0)) (hc : own_cod cs cd N2 vs) (hlen : cs.length ≤ 4000) (hr : own_chs cs) (E2 : Exa Z h0 a2 "java/lang/String") (F3 : Fld Z h0 a2 "java/lang/String" "coder" "B" (.int cd2)) (F4 : Fld Z h0 a2 "java/lang/String" "value" "[B" (.ref t2)) (Vb : Arv Z h0 t2 kt2 .byte M2 vs2 (.int 0)) (hc2 : own_cod ds cd2 M2 vs2) (hl2 : ds.length ≤ 4000) (hr2 : own_chs ds) :
    MetFree l (⟨"com/example/co_occurrence_ranking/cooccurrenceranking/io/LineReader", "compareFields", "(Ljava/lang/String;Ljava/lang/String;)I"⟩ : MethodName) (head1 (Jvm.Cond.code (⟨"com/example/co_occurrence_ranking/cooccurrenceranking/io/LineReader", "compareFields", "(Ljava/lang/String;Ljava/lang/String;)I"⟩ : MethodName) prog_13_method_6_code 7 (some .int) :: wsq) ({ frames := 5, cells := 0, slots := 0, locals := 66 } : Room)) (fun aq Uq => aq = #[(.ref a1), (.ref a2)] ∧ Z.Warmed39 Uq.vm ∧ Uq.heap = h0) (fun _ _ _ _ _ => True) (fun _ Uq oq Uq' => ∃ vq Lq, oq = .returned vq ∧ own_Q_cmpF Z a1 cz t kt cd N2 vs cs fm a2 t2 kt2 cd2 M2 vs2 ds h0 n0 vq Uq'.heap Lq ∧ FrameEnd Uq oq Uq' Lq ({ frames := 5, cells := 0, slots := 0, locals := 66 } : Room).cells ({ frames := 5, cells := 0, slots := 0, locals := 66 } : Room).slots) := by
  refine MetFree.of_bodySF (plainFor_of_name own_pn7) hisR ?_
  intro p e s m args below meth cde s₁ Bd hml0 hP hK
  obtain ⟨rfl, hZ, hh⟩ := hP
  have hx := Bd.exec
  have hby := Bd.bytes
  have hml : cde.maxLocals = 7 := hml0
  have hown : s.vm.findClass "com/example/co_occurrence_ranking/cooccurrenceranking/io/LineReader" = some m.cls := findClass_of_methodNamed Bd.named
  have hnm := (name_of_methodNamed Bd.named Bd.method).1
  have X0 : Stand p l e ({ frames := 5, cells := 0, slots := 0, locals := 66 } : Room) s m #[(.ref a1), (.ref a2)] below meth cde s₁ [] 0 0 := Stand.of_body Bd
  have e0 : s₁.heap = h0 := by rw [← hh, Bd.state]; rfl
  have N0 := Fr.nil n0
  show own_Fin p e s below (own_Q_cmpF Z a1 cz t kt cd N2 vs cs fm a2 t2 kt2 cd2 M2 vs2 ds h0 n0) ({ frames := 5, cells := 0, slots := 0, locals := 66 } : Room).cells ({ frames := 5, cells := 0, slots := 0, locals := 66 } : Room).slots s₁ (entryFrame m #[(.ref a1), (.ref a2)] 7)
  rw [own_ef_cmpF m a1 a2]
  refine own_via (fun _ k => XS.aloadN X0.here hx rfl (hb hby own_d_prog_13_6_0) rfl rfl k) ?_
  show own_Fin _ _ _ _ _ _ _ s₁ (mkF m 1 #[.val (.ref a1), .val (.ref a2), .unset, .unset, .unset, .unset, .unset] [(.ref a1)])
  obtain ⟨cq1_, kq1_, q1_a, q1_b, q1_c⟩ := isOf hZ e0 E1
  obtain ⟨_, _, ⟨T1_, L1_, k1_, n1_⟩, -, X1_, ⟨Lc1_, hQ1_, l1_, y1_, z1_⟩, st1_⟩ := X0.virtualBack hx (y := (⟨"java/lang/String", "length", "()I"⟩ : MethodName)) (z := (⟨"java/lang/String", "length", "()I"⟩ : MethodName)) hown (mvT hZ (hw _ (List.mem_of_getElem? (i := 43) rfl))) (mvT hZ (hw _ (List.mem_of_getElem? (i := 44) rfl))) (notFace_of_selects (args := #[]) (mvT hZ (hw _ (List.mem_of_getElem? (i := 46) rfl)))) (mvT hZ (hw _ (List.mem_of_getElem? (i := 46) rfl))) (mvT hZ (hw _ (List.mem_of_getElem? (i := 45) rfl))) (by decide) (backOf (W := 0) (own_rm_len l Z a0 hw [] a1 cz t kt cd N2 vs cs h0 n0 Z0 O0 S1 (by first | assumption | decide) E1 F1 F2 Va hc hlen hr) hZ (hw _ (List.mem_of_getElem? (i := 47) rfl)) (hw _ (List.mem_of_getElem? (i := 14) rfl)) (by decide) (by decide)) q1_a q1_c (g := (mkF m 1 #[.val (.ref a1), .val (.ref a2), .unset, .unset, .unset, .unset, .unset] [(.ref a1)])) rfl (by rw [hml]; rfl) (Steps.refl _) (argsL := []) (rest := []) (lenOf own_pd18 rfl) rfl (by show 2 * 0 + _ ≤ _; exact Nat.le_of_eq rfl) (hb hby own_d_prog_13_6_1) (fun _ _ => ⟨rfl, e0, (by decide : 0 + 0 ≤ _), (by decide : 0 + 0 ≤ _)⟩)
  dsimp only [Pt.U, Pt.locs, Pt.cells, Pt.slots] at X1_ l1_ y1_ z1_ st1_ hQ1_
  subst l1_ y1_ z1_
  obtain ⟨rfl, Nq1_, hh1_⟩ := hQ1_
  have N1_ := Fr.app N0 Nq1_
  refine own_via (fun _ k => st1_.trans k) ?_
  show own_Fin _ _ _ _ _ _ _ T1_ (mkF m 4 #[.val (.ref a1), .val (.ref a2), .unset, .unset, .unset, .unset, .unset] [(.int (Int32.ofNat cs.length))])
  refine own_via (fun _ k => XS.aloadN X1_.here hx rfl (hb hby own_d_prog_13_6_4) rfl rfl k) ?_
  show own_Fin _ _ _ _ _ _ _ T1_ (mkF m 5 #[.val (.ref a1), .val (.ref a2), .unset, .unset, .unset, .unset, .unset] [(.ref a2), (.int (Int32.ofNat cs.length))])
  obtain ⟨cq2_, kq2_, q2_a, q2_b, q2_c⟩ := isOf hZ hh1_ E2
  obtain ⟨_, _, ⟨T2_, L2_, k2_, n2_⟩, -, X2_, ⟨Lc2_, hQ2_, l2_, y2_, z2_⟩, st2_⟩ := X1_.virtualBack hx (y := (⟨"java/lang/String", "length", "()I"⟩ : MethodName)) (z := (⟨"java/lang/String", "length", "()I"⟩ : MethodName)) hown (mvT hZ (hw _ (List.mem_of_getElem? (i := 43) rfl))) (mvT hZ (hw _ (List.mem_of_getElem? (i := 44) rfl))) (notFace_of_selects (args := #[]) (mvT hZ (hw _ (List.mem_of_getElem? (i := 46) rfl)))) (mvT hZ (hw _ (List.mem_of_getElem? (i := 46) rfl))) (mvT hZ (hw _ (List.mem_of_getElem? (i := 45) rfl))) (by decide) (backOf (W := 1) (own_rm_len l Z a0 hw [] a2 cz t2 kt2 cd2 M2 vs2 ds h0 n0 Z0 O0 S1 (by first | assumption | decide) E2 F3 F4 Vb hc2 hl2 hr2) hZ (hw _ (List.mem_of_getElem? (i := 47) rfl)) (hw _ (List.mem_of_getElem? (i := 14) rfl)) (by decide) (by decide)) q2_a q2_c (g := (mkF m 5 #[.val (.ref a1), .val (.ref a2), .unset, .unset, .unset, .unset, .unset] [(.ref a2), (.int (Int32.ofNat cs.length))])) rfl (by rw [hml]; rfl) (Steps.refl _) (argsL := []) (rest := [(.int (Int32.ofNat cs.length))]) (lenOf own_pd18 rfl) rfl (by show 2 * 0 + _ ≤ _; exact Nat.le_of_eq rfl) (hb hby own_d_prog_13_6_5) (fun _ _ => ⟨rfl, hh1_, (by decide : 0 + 0 + 0 ≤ _), (by decide : 0 + 0 + 0 ≤ _)⟩)
  dsimp only [Pt.U, Pt.locs, Pt.cells, Pt.slots] at X2_ l2_ y2_ z2_ st2_ hQ2_
  subst l2_ y2_ z2_
  obtain ⟨rfl, Nq2_, hh2_⟩ := hQ2_
  have N2_ := Fr.app N1_ Nq2_
  refine own_via (fun _ k => st2_.trans k) ?_
  show own_Fin _ _ _ _ _ _ _ T2_ (mkF m 8 #[.val (.ref a1), .val (.ref a2), .unset, .unset, .unset, .unset, .unset] [(.int (Int32.ofNat ds.length)), (.int (Int32.ofNat cs.length))])
  obtain ⟨_, _, ⟨T3_, L3_, k3_, n3_⟩, -, X3_, ⟨Lc3_, hQ3_, l3_, y3_, z3_⟩, st3_⟩ := Jvm.LawKit.callS X2_ hx (y := (⟨"java/lang/Math", "min", "(II)I"⟩ : MethodName)) hown (mvT hZ (hw _ (List.mem_of_getElem? (i := 54) rfl))) (mvT hZ (hw _ (List.mem_of_getElem? (i := 55) rfl))) (mvT hZ (hw _ (List.mem_of_getElem? (i := 56) rfl))) (mvT hZ (hw _ (List.mem_of_getElem? (i := 57) rfl))) (by decide) (backOf (W := 0) (own_rm_minI l Z a0 hw [] (Int32.ofNat cs.length) (Int32.ofNat ds.length) cs.length ds.length h0 n0 Z0 rfl rfl hlen hl2) hZ (hw _ (List.mem_of_getElem? (i := 57) rfl)) (hw _ (List.mem_of_getElem? (i := 56) rfl)) (by decide) (by decide)) (g := (mkF m 8 #[.val (.ref a1), .val (.ref a2), .unset, .unset, .unset, .unset, .unset] [(.int (Int32.ofNat ds.length)), (.int (Int32.ofNat cs.length))])) rfl (by rw [hml]; rfl) (argsL := [(.int (Int32.ofNat cs.length)), (.int (Int32.ofNat ds.length))]) (rest := []) (lenOf own_pd19 rfl) rfl (by show 2 * 0 + _ ≤ _; exact Nat.le_of_eq rfl) (hb hby own_d_prog_13_6_8) (fun _ _ => ⟨rfl, hh2_, (by decide : 0 + 0 + 0 + 0 ≤ _), (by decide : 0 + 0 + 0 + 0 ≤ _)⟩)
  dsimp only [Pt.U, Pt.locs, Pt.cells, Pt.slots] at X3_ l3_ y3_ z3_ st3_ hQ3_
  subst l3_ y3_ z3_
  obtain ⟨rfl, Nq3_, hh3_⟩ := hQ3_
  have N3_ := Fr.app N2_ Nq3_
  refine own_via (fun _ k => st3_ _ k) ?_
  show own_Fin _ _ _ _ _ _ _ T3_ (mkF m 11 #[.val (.ref a1), .val (.ref a2), .unset, .unset, .unset, .unset, .unset] [(.int (Int32.ofNat (min cs.length ds.length)))])
  refine own_via (fun _ k => XS.istoreN X3_.here hx rfl (hb hby own_d_prog_13_6_11) rfl (l' := #[.val (.ref a1), .val (.ref a2), .val (.int (Int32.ofNat (min cs.length ds.length))), .unset, .unset, .unset, .unset]) rfl k) ?_
  show own_Fin _ _ _ _ _ _ _ T3_ (mkF m 12 #[.val (.ref a1), .val (.ref a2), .val (.int (Int32.ofNat (min cs.length ds.length))), .unset, .unset, .unset, .unset] [])
  refine own_via (fun _ k => XS.iconst X3_.here hx rfl (hb hby own_d_prog_13_6_12) k) ?_
  show own_Fin _ _ _ _ _ _ _ T3_ (mkF m 13 #[.val (.ref a1), .val (.ref a2), .val (.int (Int32.ofNat (min cs.length ds.length))), .unset, .unset, .unset, .unset] [(.int (0 : Int32))])
  refine own_via (fun _ k => XS.istoreN X3_.here hx rfl (hb hby own_d_prog_13_6_13) rfl (l' := #[.val (.ref a1), .val (.ref a2), .val (.int (Int32.ofNat (min cs.length ds.length))), .val (.int (0 : Int32)), .unset, .unset, .unset]) rfl k) ?_
  show own_Fin _ _ _ _ _ _ _ T3_ (mkF m 14 #[.val (.ref a1), .val (.ref a2), .val (.int (Int32.ofNat (min cs.length ds.length))), .val (.int (0 : Int32)), .unset, .unset, .unset] [])
  have lp : ∀ (k : Nat) (i : Nat) (j : Int32) (s4 : Slot) (s5 : Slot) (Tl : State) (locl : List Loc) (Xl : Stand p l e ({ frames := 5, cells := 0, slots := 0, locals := 66 } : Room) s m #[(.ref a1), (.ref a2)] below meth cde Tl locl (0 + 0 + 0 + 0) (0 + 0 + 0 + 0)) (Nl : Fr n0 locl) (hl : Heap) (el : Tl.heap = hl) (Kl : hl = h0) (Ol : Old Z n0 hl) (E1l : Exa Z hl a1 "java/lang/String") (F1l : Fld Z hl a1 "java/lang/String" "coder" "B" (.int cd)) (F2l : Fld Z hl a1 "java/lang/String" "value" "[B" (.ref t)) (Val : Arv Z hl t kt .byte N2 vs (.int 0)) (E2l : Exa Z hl a2 "java/lang/String") (F3l : Fld Z hl a2 "java/lang/String" "coder" "B" (.int cd2)) (F4l : Fld Z hl a2 "java/lang/String" "value" "[B" (.ref t2)) (Vbl : Arv Z hl t2 kt2 .byte M2 vs2 (.int 0)) (hs4 : One s4) (hs5 : One s5) (hj : j = Int32.ofNat i) (hi : i ≤ min cs.length ds.length) (hk : min cs.length ds.length ≤ i + k) (hh_ : ∀ q, q < i → cs.getD q 0 = ds.getD q 0), own_Fin p e s below (own_Q_cmpF Z a1 cz t kt cd N2 vs cs fm a2 t2 kt2 cd2 M2 vs2 ds h0 n0) ({ frames := 5, cells := 0, slots := 0, locals := 66 } : Room).cells ({ frames := 5, cells := 0, slots := 0, locals := 66 } : Room).slots Tl (mkF m 14 #[.val (.ref a1), .val (.ref a2), .val (.int (Int32.ofNat (min cs.length ds.length))), .val (.int j), s4, s5, .unset] []) := by
    intro k
    induction k with
    | zero =>
      intro i j s4 s5 Tl locl Xl Nl hl el Kl Ol E1l F1l F2l Val E2l F3l F4l Vbl hs4 hs5 hj hi hk hh_
      have Zl : n0 ≤ hl.size := by rw [Kl]; exact Z0
      refine own_via (fun _ k => XS.iloadN Xl.here hx rfl (hb hby own_d_prog_13_6_14) rfl k) ?_
      show own_Fin _ _ _ _ _ _ _ Tl (mkF m 15 #[.val (.ref a1), .val (.ref a2), .val (.int (Int32.ofNat (min cs.length ds.length))), .val (.int j), s4, s5, .unset] [(.int j)])
      refine own_via (fun _ k => XS.iloadN Xl.here hx rfl (hb hby own_d_prog_13_6_15) rfl k) ?_
      show own_Fin _ _ _ _ _ _ _ Tl (mkF m 16 #[.val (.ref a1), .val (.ref a2), .val (.int (Int32.ofNat (min cs.length ds.length))), .val (.int j), s4, s5, .unset] [(.int (Int32.ofNat (min cs.length ds.length))), (.int j)])
      refine own_via (fun _ k => XS.icmpYes Xl.here hx rfl (pc0 := 16) (pc' := 98) rfl (hb hby own_d_prog_13_6_16) rfl (flt (fun q => absurd ((own_ltN hj rfl (by omega) (by omega)).mp q) (by omega))).2.1 (by decide) (by decide) k) ?_
      show own_Fin _ _ _ _ _ _ _ Tl (mkF m 98 #[.val (.ref a1), .val (.ref a2), .val (.int (Int32.ofNat (min cs.length ds.length))), .val (.int j), s4, s5, .unset] [])
      refine own_via (fun _ k => XS.aloadN Xl.here hx rfl (hb hby own_d_prog_13_6_98) rfl rfl k) ?_
      show own_Fin _ _ _ _ _ _ _ Tl (mkF m 99 #[.val (.ref a1), .val (.ref a2), .val (.int (Int32.ofNat (min cs.length ds.length))), .val (.int j), s4, s5, .unset] [(.ref a1)])
      obtain ⟨cq4_, kq4_, q4_a, q4_b, q4_c⟩ := isOf hZ el E1l
      obtain ⟨_, _, ⟨T4_, L4_, k4_, n4_⟩, -, X4_, ⟨Lc4_, hQ4_, l4_, y4_, z4_⟩, st4_⟩ := Xl.virtualBack hx (y := (⟨"java/lang/String", "length", "()I"⟩ : MethodName)) (z := (⟨"java/lang/String", "length", "()I"⟩ : MethodName)) hown (mvT hZ (hw _ (List.mem_of_getElem? (i := 43) rfl))) (mvT hZ (hw _ (List.mem_of_getElem? (i := 44) rfl))) (notFace_of_selects (args := #[]) (mvT hZ (hw _ (List.mem_of_getElem? (i := 46) rfl)))) (mvT hZ (hw _ (List.mem_of_getElem? (i := 46) rfl))) (mvT hZ (hw _ (List.mem_of_getElem? (i := 45) rfl))) (by decide) (backOf (W := 0) (own_rm_len l Z a0 hw [] a1 cz t kt cd N2 vs cs hl n0 Zl Ol S1 (by first | assumption | decide) E1l F1l F2l Val hc hlen hr) hZ (hw _ (List.mem_of_getElem? (i := 47) rfl)) (hw _ (List.mem_of_getElem? (i := 14) rfl)) (by decide) (by decide)) q4_a q4_c (g := (mkF m 99 #[.val (.ref a1), .val (.ref a2), .val (.int (Int32.ofNat (min cs.length ds.length))), .val (.int j), s4, s5, .unset] [(.ref a1)])) rfl (by rw [hml]; rfl) (Steps.refl _) (argsL := []) (rest := []) (lenOf own_pd18 rfl) rfl (by show 2 * 0 + _ ≤ _; exact Nat.le_of_eq rfl) (hb hby own_d_prog_13_6_99) (fun _ _ => ⟨rfl, el, (by decide : (0 + 0 + 0 + 0) + 0 ≤ _), (by decide : (0 + 0 + 0 + 0) + 0 ≤ _)⟩)
      dsimp only [Pt.U, Pt.locs, Pt.cells, Pt.slots] at X4_ l4_ y4_ z4_ st4_ hQ4_
      subst l4_ y4_ z4_
      obtain ⟨rfl, Nq4_, hh4_⟩ := hQ4_
      have N4_ := Fr.app Nl Nq4_
      refine own_via (fun _ k => st4_.trans k) ?_
      show own_Fin _ _ _ _ _ _ _ T4_ (mkF m 102 #[.val (.ref a1), .val (.ref a2), .val (.int (Int32.ofNat (min cs.length ds.length))), .val (.int j), s4, s5, .unset] [(.int (Int32.ofNat cs.length))])
      refine own_via (fun _ k => XS.aloadN X4_.here hx rfl (hb hby own_d_prog_13_6_102) rfl rfl k) ?_
      show own_Fin _ _ _ _ _ _ _ T4_ (mkF m 103 #[.val (.ref a1), .val (.ref a2), .val (.int (Int32.ofNat (min cs.length ds.length))), .val (.int j), s4, s5, .unset] [(.ref a2), (.int (Int32.ofNat cs.length))])
      obtain ⟨cq5_, kq5_, q5_a, q5_b, q5_c⟩ := isOf hZ hh4_ E2l
      obtain ⟨_, _, ⟨T5_, L5_, k5_, n5_⟩, -, X5_, ⟨Lc5_, hQ5_, l5_, y5_, z5_⟩, st5_⟩ := X4_.virtualBack hx (y := (⟨"java/lang/String", "length", "()I"⟩ : MethodName)) (z := (⟨"java/lang/String", "length", "()I"⟩ : MethodName)) hown (mvT hZ (hw _ (List.mem_of_getElem? (i := 43) rfl))) (mvT hZ (hw _ (List.mem_of_getElem? (i := 44) rfl))) (notFace_of_selects (args := #[]) (mvT hZ (hw _ (List.mem_of_getElem? (i := 46) rfl)))) (mvT hZ (hw _ (List.mem_of_getElem? (i := 46) rfl))) (mvT hZ (hw _ (List.mem_of_getElem? (i := 45) rfl))) (by decide) (backOf (W := 1) (own_rm_len l Z a0 hw [] a2 cz t2 kt2 cd2 M2 vs2 ds hl n0 Zl Ol S1 (by first | assumption | decide) E2l F3l F4l Vbl hc2 hl2 hr2) hZ (hw _ (List.mem_of_getElem? (i := 47) rfl)) (hw _ (List.mem_of_getElem? (i := 14) rfl)) (by decide) (by decide)) q5_a q5_c (g := (mkF m 103 #[.val (.ref a1), .val (.ref a2), .val (.int (Int32.ofNat (min cs.length ds.length))), .val (.int j), s4, s5, .unset] [(.ref a2), (.int (Int32.ofNat cs.length))])) rfl (by rw [hml]; rfl) (Steps.refl _) (argsL := []) (rest := [(.int (Int32.ofNat cs.length))]) (lenOf own_pd18 rfl) rfl (by show 2 * 0 + _ ≤ _; exact Nat.le_of_eq rfl) (hb hby own_d_prog_13_6_103) (fun _ _ => ⟨rfl, hh4_, (by decide : (0 + 0 + 0 + 0) + 0 + 0 ≤ _), (by decide : (0 + 0 + 0 + 0) + 0 + 0 ≤ _)⟩)
      dsimp only [Pt.U, Pt.locs, Pt.cells, Pt.slots] at X5_ l5_ y5_ z5_ st5_ hQ5_
      subst l5_ y5_ z5_
      obtain ⟨rfl, Nq5_, hh5_⟩ := hQ5_
      have N5_ := Fr.app N4_ Nq5_
      refine own_via (fun _ k => st5_.trans k) ?_
      show own_Fin _ _ _ _ _ _ _ T5_ (mkF m 106 #[.val (.ref a1), .val (.ref a2), .val (.int (Int32.ofNat (min cs.length ds.length))), .val (.int j), s4, s5, .unset] [(.int (Int32.ofNat ds.length)), (.int (Int32.ofNat cs.length))])
      obtain ⟨_, _, ⟨T6_, L6_, k6_, n6_⟩, -, X6_, ⟨Lc6_, hQ6_, l6_, y6_, z6_⟩, st6_⟩ := Jvm.LawKit.callS X5_ hx (y := (⟨"java/lang/Integer", "compare", "(II)I"⟩ : MethodName)) hown (mvT hZ (hw _ (List.mem_of_getElem? (i := 58) rfl))) (mvT hZ (hw _ (List.mem_of_getElem? (i := 59) rfl))) (mvT hZ (hw _ (List.mem_of_getElem? (i := 60) rfl))) (mvT hZ (hw _ (List.mem_of_getElem? (i := 61) rfl))) (by decide) (backOf (W := 0) (own_rm_intCmp l Z a0 hw [] (Int32.ofNat cs.length) (Int32.ofNat ds.length) hl n0 Zl ) hZ (hw _ (List.mem_of_getElem? (i := 61) rfl)) (hw _ (List.mem_of_getElem? (i := 60) rfl)) (by decide) (by decide)) (g := (mkF m 106 #[.val (.ref a1), .val (.ref a2), .val (.int (Int32.ofNat (min cs.length ds.length))), .val (.int j), s4, s5, .unset] [(.int (Int32.ofNat ds.length)), (.int (Int32.ofNat cs.length))])) rfl (by rw [hml]; rfl) (argsL := [(.int (Int32.ofNat cs.length)), (.int (Int32.ofNat ds.length))]) (rest := []) (lenOf own_pd19 rfl) rfl (by show 2 * 0 + _ ≤ _; exact Nat.le_of_eq rfl) (hb hby own_d_prog_13_6_106) (fun _ _ => ⟨rfl, hh5_, (by decide : (0 + 0 + 0 + 0) + 0 + 0 + 0 ≤ _), (by decide : (0 + 0 + 0 + 0) + 0 + 0 + 0 ≤ _)⟩)
      dsimp only [Pt.U, Pt.locs, Pt.cells, Pt.slots] at X6_ l6_ y6_ z6_ st6_ hQ6_
      subst l6_ y6_ z6_
      obtain ⟨rc, rfl, Nq6_, hh6_, hqc⟩ := hQ6_
      have N6_ := Fr.app N5_ Nq6_
      refine own_via (fun _ k => st6_ _ k) ?_
      show own_Fin _ _ _ _ _ _ _ T6_ (mkF m 109 #[.val (.ref a1), .val (.ref a2), .val (.int (Int32.ofNat (min cs.length ds.length))), .val (.int j), s4, s5, .unset] [(.int rc)])
      exact own_retI X6_ hx Bd.returns Bd.notSynchronized (hb hby own_d_prog_13_6_109) hh6_ rfl ⟨rc, rfl, N6_, Kl, (own_cf_end hh_ (by omega) hlen hl2 hqc)⟩ (by decide) (by decide)
    | succ k ih =>
      intro i j s4 s5 Tl locl Xl Nl hl el Kl Ol E1l F1l F2l Val E2l F3l F4l Vbl hs4 hs5 hj hi hk hh_
      have Zl : n0 ≤ hl.size := by rw [Kl]; exact Z0
      refine own_via (fun _ k => XS.iloadN Xl.here hx rfl (hb hby own_d_prog_13_6_14) rfl k) ?_
      show own_Fin _ _ _ _ _ _ _ Tl (mkF m 15 #[.val (.ref a1), .val (.ref a2), .val (.int (Int32.ofNat (min cs.length ds.length))), .val (.int j), s4, s5, .unset] [(.int j)])
      refine own_via (fun _ k => XS.iloadN Xl.here hx rfl (hb hby own_d_prog_13_6_15) rfl k) ?_
      show own_Fin _ _ _ _ _ _ _ Tl (mkF m 16 #[.val (.ref a1), .val (.ref a2), .val (.int (Int32.ofNat (min cs.length ds.length))), .val (.int j), s4, s5, .unset] [(.int (Int32.ofNat (min cs.length ds.length))), (.int j)])
      rcases Classical.em (j < (Int32.ofNat (min cs.length ds.length))) with hg | hg
      · refine own_via (fun _ k => XS.icmpNo Xl.here hx rfl (hb hby own_d_prog_13_6_16) rfl (tlt hg).2.1 k) ?_
        show own_Fin _ _ _ _ _ _ _ Tl (mkF m 19 #[.val (.ref a1), .val (.ref a2), .val (.int (Int32.ofNat (min cs.length ds.length))), .val (.int j), s4, s5, .unset] [])
        have hlt : i < min cs.length ds.length := (own_ltN hj rfl (by omega) (by omega)).mp hg
        have hi1 : i < cs.length := by omega
        have hi2 : i < ds.length := by omega
        refine own_via (fun _ k => XS.aloadN Xl.here hx rfl (hb hby own_d_prog_13_6_19) rfl rfl k) ?_
        show own_Fin _ _ _ _ _ _ _ Tl (mkF m 20 #[.val (.ref a1), .val (.ref a2), .val (.int (Int32.ofNat (min cs.length ds.length))), .val (.int j), s4, s5, .unset] [(.ref a1)])
        refine own_via (fun _ k => XS.iloadN Xl.here hx rfl (hb hby own_d_prog_13_6_20) rfl k) ?_
        show own_Fin _ _ _ _ _ _ _ Tl (mkF m 21 #[.val (.ref a1), .val (.ref a2), .val (.int (Int32.ofNat (min cs.length ds.length))), .val (.int j), s4, s5, .unset] [(.int j), (.ref a1)])
        obtain ⟨cq10_, kq10_, q10_a, q10_b, q10_c⟩ := isOf hZ el E1l
        obtain ⟨_, _, ⟨T10_, L10_, k10_, n10_⟩, -, X10_, ⟨Lc10_, hQ10_, l10_, y10_, z10_⟩, st10_⟩ := Xl.virtualBack hx (y := (⟨"java/lang/String", "charAt", "(I)C"⟩ : MethodName)) (z := (⟨"java/lang/String", "charAt", "(I)C"⟩ : MethodName)) hown (mvT hZ (hw _ (List.mem_of_getElem? (i := 99) rfl))) (mvT hZ (hw _ (List.mem_of_getElem? (i := 100) rfl))) (notFace_of_selects (args := #[]) (mvT hZ (hw _ (List.mem_of_getElem? (i := 102) rfl)))) (mvT hZ (hw _ (List.mem_of_getElem? (i := 102) rfl))) (mvT hZ (hw _ (List.mem_of_getElem? (i := 101) rfl))) (by decide) (backOf (W := 0) (own_rm_chAt l Z a0 hw [] a1 cz t kt cd N2 vs cs fm j i hl n0 Zl Ol S1 (by first | assumption | decide) S2 r_fm S3 S4 S5 E1l F1l F2l Val hc hlen hr hj hi1) hZ (hw _ (List.mem_of_getElem? (i := 103) rfl)) (hw _ (List.mem_of_getElem? (i := 14) rfl)) (by decide) (by decide)) q10_a q10_c (g := (mkF m 21 #[.val (.ref a1), .val (.ref a2), .val (.int (Int32.ofNat (min cs.length ds.length))), .val (.int j), s4, s5, .unset] [(.int j), (.ref a1)])) rfl (by rw [hml]; rfl) (Steps.refl _) (argsL := [(.int j)]) (rest := []) (lenOf own_pd20 rfl) rfl (by show 2 * 0 + _ ≤ _; exact Nat.le_of_eq rfl) (hb hby own_d_prog_13_6_21) (fun _ _ => ⟨rfl, el, (by decide : (0 + 0 + 0 + 0) + 0 ≤ _), (by decide : (0 + 0 + 0 + 0) + 0 ≤ _)⟩)
        dsimp only [Pt.U, Pt.locs, Pt.cells, Pt.slots] at X10_ l10_ y10_ z10_ st10_ hQ10_
        subst l10_ y10_ z10_
        obtain ⟨rfl, Nq10_, hh10_⟩ := hQ10_
        have N10_ := Fr.app Nl Nq10_
        refine own_via (fun _ k => st10_.trans k) ?_
        show own_Fin _ _ _ _ _ _ _ T10_ (mkF m 24 #[.val (.ref a1), .val (.ref a2), .val (.int (Int32.ofNat (min cs.length ds.length))), .val (.int j), s4, s5, .unset] [(.int (cs.getD i 0))])
        refine own_via (fun _ k => XS.istore X10_.here hx rfl (hb hby own_d_prog_13_6_24) rfl (l' := #[.val (.ref a1), .val (.ref a2), .val (.int (Int32.ofNat (min cs.length ds.length))), .val (.int j), .val (.int (cs.getD i 0)), s5, .unset]) (own_os_cmpF_24 hs4) k) ?_
        show own_Fin _ _ _ _ _ _ _ T10_ (mkF m 26 #[.val (.ref a1), .val (.ref a2), .val (.int (Int32.ofNat (min cs.length ds.length))), .val (.int j), .val (.int (cs.getD i 0)), s5, .unset] [])
        refine own_via (fun _ k => XS.aloadN X10_.here hx rfl (hb hby own_d_prog_13_6_26) rfl rfl k) ?_
        show own_Fin _ _ _ _ _ _ _ T10_ (mkF m 27 #[.val (.ref a1), .val (.ref a2), .val (.int (Int32.ofNat (min cs.length ds.length))), .val (.int j), .val (.int (cs.getD i 0)), s5, .unset] [(.ref a2)])
        refine own_via (fun _ k => XS.iloadN X10_.here hx rfl (hb hby own_d_prog_13_6_27) rfl k) ?_
        show own_Fin _ _ _ _ _ _ _ T10_ (mkF m 28 #[.val (.ref a1), .val (.ref a2), .val (.int (Int32.ofNat (min cs.length ds.length))), .val (.int j), .val (.int (cs.getD i 0)), s5, .unset] [(.int j), (.ref a2)])
        obtain ⟨cq11_, kq11_, q11_a, q11_b, q11_c⟩ := isOf hZ hh10_ E2l
        obtain ⟨_, _, ⟨T11_, L11_, k11_, n11_⟩, -, X11_, ⟨Lc11_, hQ11_, l11_, y11_, z11_⟩, st11_⟩ := X10_.virtualBack hx (y := (⟨"java/lang/String", "charAt", "(I)C"⟩ : MethodName)) (z := (⟨"java/lang/String", "charAt", "(I)C"⟩ : MethodName)) hown (mvT hZ (hw _ (List.mem_of_getElem? (i := 99) rfl))) (mvT hZ (hw _ (List.mem_of_getElem? (i := 100) rfl))) (notFace_of_selects (args := #[]) (mvT hZ (hw _ (List.mem_of_getElem? (i := 102) rfl)))) (mvT hZ (hw _ (List.mem_of_getElem? (i := 102) rfl))) (mvT hZ (hw _ (List.mem_of_getElem? (i := 101) rfl))) (by decide) (backOf (W := 0) (own_rm_chAt l Z a0 hw [] a2 cz t2 kt2 cd2 M2 vs2 ds fm j i hl n0 Zl Ol S1 (by first | assumption | decide) S2 r_fm S3 S4 S5 E2l F3l F4l Vbl hc2 hl2 hr2 hj hi2) hZ (hw _ (List.mem_of_getElem? (i := 103) rfl)) (hw _ (List.mem_of_getElem? (i := 14) rfl)) (by decide) (by decide)) q11_a q11_c (g := (mkF m 28 #[.val (.ref a1), .val (.ref a2), .val (.int (Int32.ofNat (min cs.length ds.length))), .val (.int j), .val (.int (cs.getD i 0)), s5, .unset] [(.int j), (.ref a2)])) rfl (by rw [hml]; rfl) (Steps.refl _) (argsL := [(.int j)]) (rest := []) (lenOf own_pd20 rfl) rfl (by show 2 * 0 + _ ≤ _; exact Nat.le_of_eq rfl) (hb hby own_d_prog_13_6_28) (fun _ _ => ⟨rfl, hh10_, (by decide : (0 + 0 + 0 + 0) + 0 + 0 ≤ _), (by decide : (0 + 0 + 0 + 0) + 0 + 0 ≤ _)⟩)
        dsimp only [Pt.U, Pt.locs, Pt.cells, Pt.slots] at X11_ l11_ y11_ z11_ st11_ hQ11_
        subst l11_ y11_ z11_
        obtain ⟨rfl, Nq11_, hh11_⟩ := hQ11_
        have N11_ := Fr.app N10_ Nq11_
        refine own_via (fun _ k => st11_.trans k) ?_
        show own_Fin _ _ _ _ _ _ _ T11_ (mkF m 31 #[.val (.ref a1), .val (.ref a2), .val (.int (Int32.ofNat (min cs.length ds.length))), .val (.int j), .val (.int (cs.getD i 0)), s5, .unset] [(.int (ds.getD i 0))])
        refine own_via (fun _ k => XS.istore X11_.here hx rfl (hb hby own_d_prog_13_6_31) rfl (l' := #[.val (.ref a1), .val (.ref a2), .val (.int (Int32.ofNat (min cs.length ds.length))), .val (.int j), .val (.int (cs.getD i 0)), .val (.int (ds.getD i 0)), .unset]) (own_os_cmpF_31 hs5) k) ?_
        show own_Fin _ _ _ _ _ _ _ T11_ (mkF m 33 #[.val (.ref a1), .val (.ref a2), .val (.int (Int32.ofNat (min cs.length ds.length))), .val (.int j), .val (.int (cs.getD i 0)), .val (.int (ds.getD i 0)), .unset] [])
        refine own_via (fun _ k => XS.iload X11_.here hx rfl (hb hby own_d_prog_13_6_33) rfl k) ?_
        show own_Fin _ _ _ _ _ _ _ T11_ (mkF m 35 #[.val (.ref a1), .val (.ref a2), .val (.int (Int32.ofNat (min cs.length ds.length))), .val (.int j), .val (.int (cs.getD i 0)), .val (.int (ds.getD i 0)), .unset] [(.int (cs.getD i 0))])
        refine own_via (fun _ k => XS.iload X11_.here hx rfl (hb hby own_d_prog_13_6_35) rfl k) ?_
        show own_Fin _ _ _ _ _ _ _ T11_ (mkF m 37 #[.val (.ref a1), .val (.ref a2), .val (.int (Int32.ofNat (min cs.length ds.length))), .val (.int j), .val (.int (cs.getD i 0)), .val (.int (ds.getD i 0)), .unset] [(.int (ds.getD i 0)), (.int (cs.getD i 0))])
        rcases Classical.em ((cs.getD i 0) = (ds.getD i 0)) with he | he
        · refine own_via (fun _ k => XS.icmpYes X11_.here hx rfl (pc0 := 37) (pc' := 92) rfl (hb hby own_d_prog_13_6_37) rfl (teq he).1 (by decide) (by decide) k) ?_
          show own_Fin _ _ _ _ _ _ _ T11_ (mkF m 92 #[.val (.ref a1), .val (.ref a2), .val (.int (Int32.ofNat (min cs.length ds.length))), .val (.int j), .val (.int (cs.getD i 0)), .val (.int (ds.getD i 0)), .unset] [])
          refine own_via (fun _ k => XS.iinc X11_.here hx rfl (hb hby own_d_prog_13_6_92) rfl (l' := #[.val (.ref a1), .val (.ref a2), .val (.int (Int32.ofNat (min cs.length ds.length))), .val (.int (j + (1 : Int32))), .val (.int (cs.getD i 0)), .val (.int (ds.getD i 0)), .unset]) rfl k) ?_
          show own_Fin _ _ _ _ _ _ _ T11_ (mkF m 95 #[.val (.ref a1), .val (.ref a2), .val (.int (Int32.ofNat (min cs.length ds.length))), .val (.int (j + (1 : Int32))), .val (.int (cs.getD i 0)), .val (.int (ds.getD i 0)), .unset] [])
          refine own_via (fun _ k => XS.goto X11_.here hx rfl (pc0 := 95) (pc' := 14) rfl (hb hby own_d_prog_13_6_95) (by decide) (by decide) k) ?_
          show own_Fin _ _ _ _ _ _ _ T11_ (mkF m 14 #[.val (.ref a1), .val (.ref a2), .val (.int (Int32.ofNat (min cs.length ds.length))), .val (.int (j + (1 : Int32))), .val (.int (cs.getD i 0)), .val (.int (ds.getD i 0)), .unset] [])
          exact ih (i + 1) (j + (1 : Int32)) _ _ T11_ _ X11_ N11_ _ hh11_ Kl Ol E1l F1l F2l Val E2l F3l F4l Vbl own_one own_one (own_succ hj) (by omega) (by omega) (own_nextE hh_ he)
        · refine own_via (fun _ k => XS.icmpNo X11_.here hx rfl (hb hby own_d_prog_13_6_37) rfl (feq he).1 k) ?_
          show own_Fin _ _ _ _ _ _ _ T11_ (mkF m 40 #[.val (.ref a1), .val (.ref a2), .val (.int (Int32.ofNat (min cs.length ds.length))), .val (.int j), .val (.int (cs.getD i 0)), .val (.int (ds.getD i 0)), .unset] [])
          refine own_via (fun _ k => XS.iload X11_.here hx rfl (hb hby own_d_prog_13_6_40) rfl k) ?_
          show own_Fin _ _ _ _ _ _ _ T11_ (mkF m 42 #[.val (.ref a1), .val (.ref a2), .val (.int (Int32.ofNat (min cs.length ds.length))), .val (.int j), .val (.int (cs.getD i 0)), .val (.int (ds.getD i 0)), .unset] [(.int (cs.getD i 0))])
          obtain ⟨_, _, ⟨T12_, L12_, k12_, n12_⟩, -, X12_, ⟨Lc12_, hQ12_, l12_, y12_, z12_⟩, st12_⟩ := Jvm.LawKit.callS X11_ hx (y := (⟨"java/lang/Character", "isSurrogate", "(C)Z"⟩ : MethodName)) hown (mvT hZ (hw _ (List.mem_of_getElem? (i := 126) rfl))) (mvT hZ (hw _ (List.mem_of_getElem? (i := 127) rfl))) (mvT hZ (hw _ (List.mem_of_getElem? (i := 128) rfl))) (mvT hZ (hw _ (List.mem_of_getElem? (i := 129) rfl))) (by decide) (backOf (W := 0) (own_rm_isSur l Z a0 hw [] (cs.getD i 0) hl n0 Zl ) hZ (hw _ (List.mem_of_getElem? (i := 129) rfl)) (hw _ (List.mem_of_getElem? (i := 128) rfl)) (by decide) (by decide)) (g := (mkF m 42 #[.val (.ref a1), .val (.ref a2), .val (.int (Int32.ofNat (min cs.length ds.length))), .val (.int j), .val (.int (cs.getD i 0)), .val (.int (ds.getD i 0)), .unset] [(.int (cs.getD i 0))])) rfl (by rw [hml]; rfl) (argsL := [(.int (cs.getD i 0))]) (rest := []) (lenOf own_pd14 rfl) rfl (by show 2 * 0 + _ ≤ _; exact Nat.le_of_eq rfl) (hb hby own_d_prog_13_6_42) (fun _ _ => ⟨rfl, hh11_, (by decide : (0 + 0 + 0 + 0) + 0 + 0 + 0 ≤ _), (by decide : (0 + 0 + 0 + 0) + 0 + 0 + 0 ≤ _)⟩)
          dsimp only [Pt.U, Pt.locs, Pt.cells, Pt.slots] at X12_ l12_ y12_ z12_ st12_ hQ12_
          subst l12_ y12_ z12_
          obtain ⟨r1, rfl, Nq12_, hh12_, hq1⟩ := hQ12_
          have N12_ := Fr.app N11_ Nq12_
          refine own_via (fun _ k => st12_ _ k) ?_
          show own_Fin _ _ _ _ _ _ _ T12_ (mkF m 45 #[.val (.ref a1), .val (.ref a2), .val (.int (Int32.ofNat (min cs.length ds.length))), .val (.int j), .val (.int (cs.getD i 0)), .val (.int (ds.getD i 0)), .unset] [(.int r1)])
          rcases Classical.em (r1 = (0 : Int32)) with h1 | h1
          · refine own_via (fun _ k => XS.ifNo X12_.here hx rfl (hb hby own_d_prog_13_6_45) rfl ((if0 _ _).trans (teq h1).2) k) ?_
            show own_Fin _ _ _ _ _ _ _ T12_ (mkF m 48 #[.val (.ref a1), .val (.ref a2), .val (.int (Int32.ofNat (min cs.length ds.length))), .val (.int j), .val (.int (cs.getD i 0)), .val (.int (ds.getD i 0)), .unset] [])
            refine own_via (fun _ k => XS.iload X12_.here hx rfl (hb hby own_d_prog_13_6_48) rfl k) ?_
            show own_Fin _ _ _ _ _ _ _ T12_ (mkF m 50 #[.val (.ref a1), .val (.ref a2), .val (.int (Int32.ofNat (min cs.length ds.length))), .val (.int j), .val (.int (cs.getD i 0)), .val (.int (ds.getD i 0)), .unset] [(.int (ds.getD i 0))])
            obtain ⟨_, _, ⟨T16_, L16_, k16_, n16_⟩, -, X16_, ⟨Lc16_, hQ16_, l16_, y16_, z16_⟩, st16_⟩ := Jvm.LawKit.callS X12_ hx (y := (⟨"java/lang/Character", "isSurrogate", "(C)Z"⟩ : MethodName)) hown (mvT hZ (hw _ (List.mem_of_getElem? (i := 126) rfl))) (mvT hZ (hw _ (List.mem_of_getElem? (i := 127) rfl))) (mvT hZ (hw _ (List.mem_of_getElem? (i := 128) rfl))) (mvT hZ (hw _ (List.mem_of_getElem? (i := 129) rfl))) (by decide) (backOf (W := 0) (own_rm_isSur l Z a0 hw [] (ds.getD i 0) hl n0 Zl ) hZ (hw _ (List.mem_of_getElem? (i := 129) rfl)) (hw _ (List.mem_of_getElem? (i := 128) rfl)) (by decide) (by decide)) (g := (mkF m 50 #[.val (.ref a1), .val (.ref a2), .val (.int (Int32.ofNat (min cs.length ds.length))), .val (.int j), .val (.int (cs.getD i 0)), .val (.int (ds.getD i 0)), .unset] [(.int (ds.getD i 0))])) rfl (by rw [hml]; rfl) (argsL := [(.int (ds.getD i 0))]) (rest := []) (lenOf own_pd14 rfl) rfl (by show 2 * 0 + _ ≤ _; exact Nat.le_of_eq rfl) (hb hby own_d_prog_13_6_50) (fun _ _ => ⟨rfl, hh12_, (by decide : (0 + 0 + 0 + 0) + 0 + 0 + 0 + 0 ≤ _), (by decide : (0 + 0 + 0 + 0) + 0 + 0 + 0 + 0 ≤ _)⟩)
            dsimp only [Pt.U, Pt.locs, Pt.cells, Pt.slots] at X16_ l16_ y16_ z16_ st16_ hQ16_
            subst l16_ y16_ z16_
            obtain ⟨r2, rfl, Nq16_, hh16_, hq2⟩ := hQ16_
            have N16_ := Fr.app N12_ Nq16_
            refine own_via (fun _ k => st16_ _ k) ?_
            show own_Fin _ _ _ _ _ _ _ T16_ (mkF m 53 #[.val (.ref a1), .val (.ref a2), .val (.int (Int32.ofNat (min cs.length ds.length))), .val (.int j), .val (.int (cs.getD i 0)), .val (.int (ds.getD i 0)), .unset] [(.int r2)])
            rcases Classical.em (r2 = (0 : Int32)) with h2 | h2
            · refine own_via (fun _ k => XS.ifYes X16_.here hx rfl (pc0 := 53) (pc' := 60) rfl (hb hby own_d_prog_13_6_53) rfl ((if0 _ _).trans (teq h2).1) (by decide) (by decide) k) ?_
              show own_Fin _ _ _ _ _ _ _ T16_ (mkF m 60 #[.val (.ref a1), .val (.ref a2), .val (.int (Int32.ofNat (min cs.length ds.length))), .val (.int j), .val (.int (cs.getD i 0)), .val (.int (ds.getD i 0)), .unset] [])
              refine own_via (fun _ k => XS.iconst X16_.here hx rfl (hb hby own_d_prog_13_6_60) k) ?_
              show own_Fin _ _ _ _ _ _ _ T16_ (mkF m 61 #[.val (.ref a1), .val (.ref a2), .val (.int (Int32.ofNat (min cs.length ds.length))), .val (.int j), .val (.int (cs.getD i 0)), .val (.int (ds.getD i 0)), .unset] [(.int (0 : Int32))])
              refine own_via (fun _ k => XS.istore X16_.here hx rfl (hb hby own_d_prog_13_6_61) rfl (l' := #[.val (.ref a1), .val (.ref a2), .val (.int (Int32.ofNat (min cs.length ds.length))), .val (.int j), .val (.int (cs.getD i 0)), .val (.int (ds.getD i 0)), .val (.int (0 : Int32))]) rfl k) ?_
              show own_Fin _ _ _ _ _ _ _ T16_ (mkF m 63 #[.val (.ref a1), .val (.ref a2), .val (.int (Int32.ofNat (min cs.length ds.length))), .val (.int j), .val (.int (cs.getD i 0)), .val (.int (ds.getD i 0)), .val (.int (0 : Int32))] [])
              refine own_via (fun _ k => XS.iload X16_.here hx rfl (hb hby own_d_prog_13_6_63) rfl k) ?_
              show own_Fin _ _ _ _ _ _ _ T16_ (mkF m 65 #[.val (.ref a1), .val (.ref a2), .val (.int (Int32.ofNat (min cs.length ds.length))), .val (.int j), .val (.int (cs.getD i 0)), .val (.int (ds.getD i 0)), .val (.int (0 : Int32))] [(.int (0 : Int32))])
              refine own_via (fun _ k => XS.ifYes X16_.here hx rfl (pc0 := 65) (pc' := 84) rfl (hb hby own_d_prog_13_6_65) rfl ((if0 _ _).trans (teq rfl).1) (by decide) (by decide) k) ?_
              show own_Fin _ _ _ _ _ _ _ T16_ (mkF m 84 #[.val (.ref a1), .val (.ref a2), .val (.int (Int32.ofNat (min cs.length ds.length))), .val (.int j), .val (.int (cs.getD i 0)), .val (.int (ds.getD i 0)), .val (.int (0 : Int32))] [])
              refine own_via (fun _ k => XS.iload X16_.here hx rfl (hb hby own_d_prog_13_6_84) rfl k) ?_
              show own_Fin _ _ _ _ _ _ _ T16_ (mkF m 86 #[.val (.ref a1), .val (.ref a2), .val (.int (Int32.ofNat (min cs.length ds.length))), .val (.int j), .val (.int (cs.getD i 0)), .val (.int (ds.getD i 0)), .val (.int (0 : Int32))] [(.int (cs.getD i 0))])
              refine own_via (fun _ k => XS.iload X16_.here hx rfl (hb hby own_d_prog_13_6_86) rfl k) ?_
              show own_Fin _ _ _ _ _ _ _ T16_ (mkF m 88 #[.val (.ref a1), .val (.ref a2), .val (.int (Int32.ofNat (min cs.length ds.length))), .val (.int j), .val (.int (cs.getD i 0)), .val (.int (ds.getD i 0)), .val (.int (0 : Int32))] [(.int (ds.getD i 0)), (.int (cs.getD i 0))])
              obtain ⟨_, _, ⟨T20_, L20_, k20_, n20_⟩, -, X20_, ⟨Lc20_, hQ20_, l20_, y20_, z20_⟩, st20_⟩ := Jvm.LawKit.callS X16_ hx (y := (⟨"java/lang/Character", "compare", "(CC)I"⟩ : MethodName)) hown (mvT hZ (hw _ (List.mem_of_getElem? (i := 160) rfl))) (mvT hZ (hw _ (List.mem_of_getElem? (i := 161) rfl))) (mvT hZ (hw _ (List.mem_of_getElem? (i := 128) rfl))) (mvT hZ (hw _ (List.mem_of_getElem? (i := 162) rfl))) (by decide) (backOf (W := 0) (own_rm_chCmp l Z a0 hw [] (cs.getD i 0) (ds.getD i 0) hl n0 Zl ) hZ (hw _ (List.mem_of_getElem? (i := 162) rfl)) (hw _ (List.mem_of_getElem? (i := 128) rfl)) (by decide) (by decide)) (g := (mkF m 88 #[.val (.ref a1), .val (.ref a2), .val (.int (Int32.ofNat (min cs.length ds.length))), .val (.int j), .val (.int (cs.getD i 0)), .val (.int (ds.getD i 0)), .val (.int (0 : Int32))] [(.int (ds.getD i 0)), (.int (cs.getD i 0))])) rfl (by rw [hml]; rfl) (argsL := [(.int (cs.getD i 0)), (.int (ds.getD i 0))]) (rest := []) (lenOf own_pd15 rfl) rfl (by show 2 * 0 + _ ≤ _; exact Nat.le_of_eq rfl) (hb hby own_d_prog_13_6_88) (fun _ _ => ⟨rfl, hh16_, (by decide : (0 + 0 + 0 + 0) + 0 + 0 + 0 + 0 + 0 ≤ _), (by decide : (0 + 0 + 0 + 0) + 0 + 0 + 0 + 0 + 0 ≤ _)⟩)
              dsimp only [Pt.U, Pt.locs, Pt.cells, Pt.slots] at X20_ l20_ y20_ z20_ st20_ hQ20_
              subst l20_ y20_ z20_
              obtain ⟨rfl, Nq20_, hh20_⟩ := hQ20_
              have N20_ := Fr.app N16_ Nq20_
              refine own_via (fun _ k => st20_ _ k) ?_
              show own_Fin _ _ _ _ _ _ _ T20_ (mkF m 91 #[.val (.ref a1), .val (.ref a2), .val (.int (Int32.ofNat (min cs.length ds.length))), .val (.int j), .val (.int (cs.getD i 0)), .val (.int (ds.getD i 0)), .val (.int (0 : Int32))] [(.int ((cs.getD i 0) - (ds.getD i 0)))])
              exact own_retI X20_ hx Bd.returns Bd.notSynchronized (hb hby own_d_prog_13_6_91) hh20_ rfl ⟨(cs.getD i 0 - ds.getD i 0), rfl, N20_, Kl, (own_cf_ch hh_ hi1 hi2 he (hq1.resolve_left fun z => absurd (z.1.symm.trans h1) (by decide)).2 (hq2.resolve_left fun z => absurd (z.1.symm.trans h2) (by decide)).2)⟩ (by decide) (by decide)
            · refine own_via (fun _ k => XS.ifNo X16_.here hx rfl (hb hby own_d_prog_13_6_53) rfl ((if0 _ _).trans (feq h2).1) k) ?_
              show own_Fin _ _ _ _ _ _ _ T16_ (mkF m 56 #[.val (.ref a1), .val (.ref a2), .val (.int (Int32.ofNat (min cs.length ds.length))), .val (.int j), .val (.int (cs.getD i 0)), .val (.int (ds.getD i 0)), .unset] [])
              refine own_via (fun _ k => XS.iconst X16_.here hx rfl (hb hby own_d_prog_13_6_56) k) ?_
              show own_Fin _ _ _ _ _ _ _ T16_ (mkF m 57 #[.val (.ref a1), .val (.ref a2), .val (.int (Int32.ofNat (min cs.length ds.length))), .val (.int j), .val (.int (cs.getD i 0)), .val (.int (ds.getD i 0)), .unset] [(.int (1 : Int32))])
              refine own_via (fun _ k => XS.goto X16_.here hx rfl (pc0 := 57) (pc' := 61) rfl (hb hby own_d_prog_13_6_57) (by decide) (by decide) k) ?_
              show own_Fin _ _ _ _ _ _ _ T16_ (mkF m 61 #[.val (.ref a1), .val (.ref a2), .val (.int (Int32.ofNat (min cs.length ds.length))), .val (.int j), .val (.int (cs.getD i 0)), .val (.int (ds.getD i 0)), .unset] [(.int (1 : Int32))])
              refine own_via (fun _ k => XS.istore X16_.here hx rfl (hb hby own_d_prog_13_6_61) rfl (l' := #[.val (.ref a1), .val (.ref a2), .val (.int (Int32.ofNat (min cs.length ds.length))), .val (.int j), .val (.int (cs.getD i 0)), .val (.int (ds.getD i 0)), .val (.int (1 : Int32))]) rfl k) ?_
              show own_Fin _ _ _ _ _ _ _ T16_ (mkF m 63 #[.val (.ref a1), .val (.ref a2), .val (.int (Int32.ofNat (min cs.length ds.length))), .val (.int j), .val (.int (cs.getD i 0)), .val (.int (ds.getD i 0)), .val (.int (1 : Int32))] [])
              refine own_via (fun _ k => XS.iload X16_.here hx rfl (hb hby own_d_prog_13_6_63) rfl k) ?_
              show own_Fin _ _ _ _ _ _ _ T16_ (mkF m 65 #[.val (.ref a1), .val (.ref a2), .val (.int (Int32.ofNat (min cs.length ds.length))), .val (.int j), .val (.int (cs.getD i 0)), .val (.int (ds.getD i 0)), .val (.int (1 : Int32))] [(.int (1 : Int32))])
              refine own_via (fun _ k => XS.ifNo X16_.here hx rfl (hb hby own_d_prog_13_6_65) rfl ((if0 _ _).trans (feq (by decide)).1) k) ?_
              show own_Fin _ _ _ _ _ _ _ T16_ (mkF m 68 #[.val (.ref a1), .val (.ref a2), .val (.int (Int32.ofNat (min cs.length ds.length))), .val (.int j), .val (.int (cs.getD i 0)), .val (.int (ds.getD i 0)), .val (.int (1 : Int32))] [])
              refine own_via (fun _ k => XS.aloadN X16_.here hx rfl (hb hby own_d_prog_13_6_68) rfl rfl k) ?_
              show own_Fin _ _ _ _ _ _ _ T16_ (mkF m 69 #[.val (.ref a1), .val (.ref a2), .val (.int (Int32.ofNat (min cs.length ds.length))), .val (.int j), .val (.int (cs.getD i 0)), .val (.int (ds.getD i 0)), .val (.int (1 : Int32))] [(.ref a1)])
              refine own_via (fun _ k => XS.iloadN X16_.here hx rfl (hb hby own_d_prog_13_6_69) rfl k) ?_
              show own_Fin _ _ _ _ _ _ _ T16_ (mkF m 70 #[.val (.ref a1), .val (.ref a2), .val (.int (Int32.ofNat (min cs.length ds.length))), .val (.int j), .val (.int (cs.getD i 0)), .val (.int (ds.getD i 0)), .val (.int (1 : Int32))] [(.int j), (.ref a1)])
              obtain ⟨cq17_, kq17_, q17_a, q17_b, q17_c⟩ := isOf hZ hh16_ E1l
              obtain ⟨_, _, ⟨T17_, L17_, k17_, n17_⟩, -, X17_, ⟨Lc17_, hQ17_, l17_, y17_, z17_⟩, st17_⟩ := X16_.virtualBack hx (y := (⟨"java/lang/String", "codePointAt", "(I)I"⟩ : MethodName)) (z := (⟨"java/lang/String", "codePointAt", "(I)I"⟩ : MethodName)) hown (mvT hZ (hw _ (List.mem_of_getElem? (i := 132) rfl))) (mvT hZ (hw _ (List.mem_of_getElem? (i := 133) rfl))) (notFace_of_selects (args := #[]) (mvT hZ (hw _ (List.mem_of_getElem? (i := 135) rfl)))) (mvT hZ (hw _ (List.mem_of_getElem? (i := 135) rfl))) (mvT hZ (hw _ (List.mem_of_getElem? (i := 134) rfl))) (by decide) (backOf (W := 0) (own_rm_cpAt l Z a0 hw [] a1 cz t kt cd N2 vs cs fm j i hl n0 Zl Ol S1 (by first | assumption | decide) S2 r_fm S3 S4 S5 E1l F1l F2l Val hc hlen hr hj hi1) hZ (hw _ (List.mem_of_getElem? (i := 136) rfl)) (hw _ (List.mem_of_getElem? (i := 14) rfl)) (by decide) (by decide)) q17_a q17_c (g := (mkF m 70 #[.val (.ref a1), .val (.ref a2), .val (.int (Int32.ofNat (min cs.length ds.length))), .val (.int j), .val (.int (cs.getD i 0)), .val (.int (ds.getD i 0)), .val (.int (1 : Int32))] [(.int j), (.ref a1)])) rfl (by rw [hml]; rfl) (Steps.refl _) (argsL := [(.int j)]) (rest := []) (lenOf own_pd7 rfl) rfl (by show 2 * 0 + _ ≤ _; exact Nat.le_of_eq rfl) (hb hby own_d_prog_13_6_70) (fun _ _ => ⟨rfl, hh16_, (by decide : (0 + 0 + 0 + 0) + 0 + 0 + 0 + 0 + 0 ≤ _), (by decide : (0 + 0 + 0 + 0) + 0 + 0 + 0 + 0 + 0 ≤ _)⟩)
              dsimp only [Pt.U, Pt.locs, Pt.cells, Pt.slots] at X17_ l17_ y17_ z17_ st17_ hQ17_
              subst l17_ y17_ z17_
              obtain ⟨rx, rfl, Nq17_, hh17_, hqx⟩ := hQ17_
              have N17_ := Fr.app N16_ Nq17_
              refine own_via (fun _ k => st17_.trans k) ?_
              show own_Fin _ _ _ _ _ _ _ T17_ (mkF m 73 #[.val (.ref a1), .val (.ref a2), .val (.int (Int32.ofNat (min cs.length ds.length))), .val (.int j), .val (.int (cs.getD i 0)), .val (.int (ds.getD i 0)), .val (.int (1 : Int32))] [(.int rx)])
              refine own_via (fun _ k => XS.aloadN X17_.here hx rfl (hb hby own_d_prog_13_6_73) rfl rfl k) ?_
              show own_Fin _ _ _ _ _ _ _ T17_ (mkF m 74 #[.val (.ref a1), .val (.ref a2), .val (.int (Int32.ofNat (min cs.length ds.length))), .val (.int j), .val (.int (cs.getD i 0)), .val (.int (ds.getD i 0)), .val (.int (1 : Int32))] [(.ref a2), (.int rx)])
              refine own_via (fun _ k => XS.iloadN X17_.here hx rfl (hb hby own_d_prog_13_6_74) rfl k) ?_
              show own_Fin _ _ _ _ _ _ _ T17_ (mkF m 75 #[.val (.ref a1), .val (.ref a2), .val (.int (Int32.ofNat (min cs.length ds.length))), .val (.int j), .val (.int (cs.getD i 0)), .val (.int (ds.getD i 0)), .val (.int (1 : Int32))] [(.int j), (.ref a2), (.int rx)])
              obtain ⟨cq18_, kq18_, q18_a, q18_b, q18_c⟩ := isOf hZ hh17_ E2l
              obtain ⟨_, _, ⟨T18_, L18_, k18_, n18_⟩, -, X18_, ⟨Lc18_, hQ18_, l18_, y18_, z18_⟩, st18_⟩ := X17_.virtualBack hx (y := (⟨"java/lang/String", "codePointAt", "(I)I"⟩ : MethodName)) (z := (⟨"java/lang/String", "codePointAt", "(I)I"⟩ : MethodName)) hown (mvT hZ (hw _ (List.mem_of_getElem? (i := 132) rfl))) (mvT hZ (hw _ (List.mem_of_getElem? (i := 133) rfl))) (notFace_of_selects (args := #[]) (mvT hZ (hw _ (List.mem_of_getElem? (i := 135) rfl)))) (mvT hZ (hw _ (List.mem_of_getElem? (i := 135) rfl))) (mvT hZ (hw _ (List.mem_of_getElem? (i := 134) rfl))) (by decide) (backOf (W := 1) (own_rm_cpAt l Z a0 hw [] a2 cz t2 kt2 cd2 M2 vs2 ds fm j i hl n0 Zl Ol S1 (by first | assumption | decide) S2 r_fm S3 S4 S5 E2l F3l F4l Vbl hc2 hl2 hr2 hj hi2) hZ (hw _ (List.mem_of_getElem? (i := 136) rfl)) (hw _ (List.mem_of_getElem? (i := 14) rfl)) (by decide) (by decide)) q18_a q18_c (g := (mkF m 75 #[.val (.ref a1), .val (.ref a2), .val (.int (Int32.ofNat (min cs.length ds.length))), .val (.int j), .val (.int (cs.getD i 0)), .val (.int (ds.getD i 0)), .val (.int (1 : Int32))] [(.int j), (.ref a2), (.int rx)])) rfl (by rw [hml]; rfl) (Steps.refl _) (argsL := [(.int j)]) (rest := [(.int rx)]) (lenOf own_pd7 rfl) rfl (by show 2 * 0 + _ ≤ _; exact Nat.le_of_eq rfl) (hb hby own_d_prog_13_6_75) (fun _ _ => ⟨rfl, hh17_, (by decide : (0 + 0 + 0 + 0) + 0 + 0 + 0 + 0 + 0 + 0 ≤ _), (by decide : (0 + 0 + 0 + 0) + 0 + 0 + 0 + 0 + 0 + 0 ≤ _)⟩)
              dsimp only [Pt.U, Pt.locs, Pt.cells, Pt.slots] at X18_ l18_ y18_ z18_ st18_ hQ18_
              subst l18_ y18_ z18_
              obtain ⟨ry, rfl, Nq18_, hh18_, hqy⟩ := hQ18_
              have N18_ := Fr.app N17_ Nq18_
              refine own_via (fun _ k => st18_.trans k) ?_
              show own_Fin _ _ _ _ _ _ _ T18_ (mkF m 78 #[.val (.ref a1), .val (.ref a2), .val (.int (Int32.ofNat (min cs.length ds.length))), .val (.int j), .val (.int (cs.getD i 0)), .val (.int (ds.getD i 0)), .val (.int (1 : Int32))] [(.int ry), (.int rx)])
              obtain ⟨_, _, ⟨T19_, L19_, k19_, n19_⟩, -, X19_, ⟨Lc19_, hQ19_, l19_, y19_, z19_⟩, st19_⟩ := Jvm.LawKit.callS X18_ hx (y := (⟨"java/lang/Integer", "compare", "(II)I"⟩ : MethodName)) hown (mvT hZ (hw _ (List.mem_of_getElem? (i := 58) rfl))) (mvT hZ (hw _ (List.mem_of_getElem? (i := 59) rfl))) (mvT hZ (hw _ (List.mem_of_getElem? (i := 60) rfl))) (mvT hZ (hw _ (List.mem_of_getElem? (i := 61) rfl))) (by decide) (backOf (W := 0) (own_rm_intCmp l Z a0 hw [] rx ry hl n0 Zl ) hZ (hw _ (List.mem_of_getElem? (i := 61) rfl)) (hw _ (List.mem_of_getElem? (i := 60) rfl)) (by decide) (by decide)) (g := (mkF m 78 #[.val (.ref a1), .val (.ref a2), .val (.int (Int32.ofNat (min cs.length ds.length))), .val (.int j), .val (.int (cs.getD i 0)), .val (.int (ds.getD i 0)), .val (.int (1 : Int32))] [(.int ry), (.int rx)])) rfl (by rw [hml]; rfl) (argsL := [(.int rx), (.int ry)]) (rest := []) (lenOf own_pd19 rfl) rfl (by show 2 * 0 + _ ≤ _; exact Nat.le_of_eq rfl) (hb hby own_d_prog_13_6_78) (fun _ _ => ⟨rfl, hh18_, (by decide : (0 + 0 + 0 + 0) + 0 + 0 + 0 + 0 + 0 + 0 + 0 ≤ _), (by decide : (0 + 0 + 0 + 0) + 0 + 0 + 0 + 0 + 0 + 0 + 0 ≤ _)⟩)
              dsimp only [Pt.U, Pt.locs, Pt.cells, Pt.slots] at X19_ l19_ y19_ z19_ st19_ hQ19_
              subst l19_ y19_ z19_
              obtain ⟨rc, rfl, Nq19_, hh19_, hqc⟩ := hQ19_
              have N19_ := Fr.app N18_ Nq19_
              refine own_via (fun _ k => st19_ _ k) ?_
              show own_Fin _ _ _ _ _ _ _ T19_ (mkF m 81 #[.val (.ref a1), .val (.ref a2), .val (.int (Int32.ofNat (min cs.length ds.length))), .val (.int j), .val (.int (cs.getD i 0)), .val (.int (ds.getD i 0)), .val (.int (1 : Int32))] [(.int rc)])
              refine own_via (fun _ k => XS.goto X19_.here hx rfl (pc0 := 81) (pc' := 91) rfl (hb hby own_d_prog_13_6_81) (by decide) (by decide) k) ?_
              show own_Fin _ _ _ _ _ _ _ T19_ (mkF m 91 #[.val (.ref a1), .val (.ref a2), .val (.int (Int32.ofNat (min cs.length ds.length))), .val (.int j), .val (.int (cs.getD i 0)), .val (.int (ds.getD i 0)), .val (.int (1 : Int32))] [(.int rc)])
              exact own_retI X19_ hx Bd.returns Bd.notSynchronized (hb hby own_d_prog_13_6_91) hh19_ rfl ⟨rc, rfl, N19_, Kl, (own_cf_sur hh_ hi1 hi2 he (Or.inr (hq2.resolve_right fun z => h2 z.1).2) hqx hqy hqc)⟩ (by decide) (by decide)
          · refine own_via (fun _ k => XS.ifYes X12_.here hx rfl (pc0 := 45) (pc' := 56) rfl (hb hby own_d_prog_13_6_45) rfl ((if0 _ _).trans (feq h1).2) (by decide) (by decide) k) ?_
            show own_Fin _ _ _ _ _ _ _ T12_ (mkF m 56 #[.val (.ref a1), .val (.ref a2), .val (.int (Int32.ofNat (min cs.length ds.length))), .val (.int j), .val (.int (cs.getD i 0)), .val (.int (ds.getD i 0)), .unset] [])
            refine own_via (fun _ k => XS.iconst X12_.here hx rfl (hb hby own_d_prog_13_6_56) k) ?_
            show own_Fin _ _ _ _ _ _ _ T12_ (mkF m 57 #[.val (.ref a1), .val (.ref a2), .val (.int (Int32.ofNat (min cs.length ds.length))), .val (.int j), .val (.int (cs.getD i 0)), .val (.int (ds.getD i 0)), .unset] [(.int (1 : Int32))])
            refine own_via (fun _ k => XS.goto X12_.here hx rfl (pc0 := 57) (pc' := 61) rfl (hb hby own_d_prog_13_6_57) (by decide) (by decide) k) ?_
            show own_Fin _ _ _ _ _ _ _ T12_ (mkF m 61 #[.val (.ref a1), .val (.ref a2), .val (.int (Int32.ofNat (min cs.length ds.length))), .val (.int j), .val (.int (cs.getD i 0)), .val (.int (ds.getD i 0)), .unset] [(.int (1 : Int32))])
            refine own_via (fun _ k => XS.istore X12_.here hx rfl (hb hby own_d_prog_13_6_61) rfl (l' := #[.val (.ref a1), .val (.ref a2), .val (.int (Int32.ofNat (min cs.length ds.length))), .val (.int j), .val (.int (cs.getD i 0)), .val (.int (ds.getD i 0)), .val (.int (1 : Int32))]) rfl k) ?_
            show own_Fin _ _ _ _ _ _ _ T12_ (mkF m 63 #[.val (.ref a1), .val (.ref a2), .val (.int (Int32.ofNat (min cs.length ds.length))), .val (.int j), .val (.int (cs.getD i 0)), .val (.int (ds.getD i 0)), .val (.int (1 : Int32))] [])
            refine own_via (fun _ k => XS.iload X12_.here hx rfl (hb hby own_d_prog_13_6_63) rfl k) ?_
            show own_Fin _ _ _ _ _ _ _ T12_ (mkF m 65 #[.val (.ref a1), .val (.ref a2), .val (.int (Int32.ofNat (min cs.length ds.length))), .val (.int j), .val (.int (cs.getD i 0)), .val (.int (ds.getD i 0)), .val (.int (1 : Int32))] [(.int (1 : Int32))])
            refine own_via (fun _ k => XS.ifNo X12_.here hx rfl (hb hby own_d_prog_13_6_65) rfl ((if0 _ _).trans (feq (by decide)).1) k) ?_
            show own_Fin _ _ _ _ _ _ _ T12_ (mkF m 68 #[.val (.ref a1), .val (.ref a2), .val (.int (Int32.ofNat (min cs.length ds.length))), .val (.int j), .val (.int (cs.getD i 0)), .val (.int (ds.getD i 0)), .val (.int (1 : Int32))] [])
            refine own_via (fun _ k => XS.aloadN X12_.here hx rfl (hb hby own_d_prog_13_6_68) rfl rfl k) ?_
            show own_Fin _ _ _ _ _ _ _ T12_ (mkF m 69 #[.val (.ref a1), .val (.ref a2), .val (.int (Int32.ofNat (min cs.length ds.length))), .val (.int j), .val (.int (cs.getD i 0)), .val (.int (ds.getD i 0)), .val (.int (1 : Int32))] [(.ref a1)])
            refine own_via (fun _ k => XS.iloadN X12_.here hx rfl (hb hby own_d_prog_13_6_69) rfl k) ?_
            show own_Fin _ _ _ _ _ _ _ T12_ (mkF m 70 #[.val (.ref a1), .val (.ref a2), .val (.int (Int32.ofNat (min cs.length ds.length))), .val (.int j), .val (.int (cs.getD i 0)), .val (.int (ds.getD i 0)), .val (.int (1 : Int32))] [(.int j), (.ref a1)])
            obtain ⟨cq13_, kq13_, q13_a, q13_b, q13_c⟩ := isOf hZ hh12_ E1l
            obtain ⟨_, _, ⟨T13_, L13_, k13_, n13_⟩, -, X13_, ⟨Lc13_, hQ13_, l13_, y13_, z13_⟩, st13_⟩ := X12_.virtualBack hx (y := (⟨"java/lang/String", "codePointAt", "(I)I"⟩ : MethodName)) (z := (⟨"java/lang/String", "codePointAt", "(I)I"⟩ : MethodName)) hown (mvT hZ (hw _ (List.mem_of_getElem? (i := 132) rfl))) (mvT hZ (hw _ (List.mem_of_getElem? (i := 133) rfl))) (notFace_of_selects (args := #[]) (mvT hZ (hw _ (List.mem_of_getElem? (i := 135) rfl)))) (mvT hZ (hw _ (List.mem_of_getElem? (i := 135) rfl))) (mvT hZ (hw _ (List.mem_of_getElem? (i := 134) rfl))) (by decide) (backOf (W := 0) (own_rm_cpAt l Z a0 hw [] a1 cz t kt cd N2 vs cs fm j i hl n0 Zl Ol S1 (by first | assumption | decide) S2 r_fm S3 S4 S5 E1l F1l F2l Val hc hlen hr hj hi1) hZ (hw _ (List.mem_of_getElem? (i := 136) rfl)) (hw _ (List.mem_of_getElem? (i := 14) rfl)) (by decide) (by decide)) q13_a q13_c (g := (mkF m 70 #[.val (.ref a1), .val (.ref a2), .val (.int (Int32.ofNat (min cs.length ds.length))), .val (.int j), .val (.int (cs.getD i 0)), .val (.int (ds.getD i 0)), .val (.int (1 : Int32))] [(.int j), (.ref a1)])) rfl (by rw [hml]; rfl) (Steps.refl _) (argsL := [(.int j)]) (rest := []) (lenOf own_pd7 rfl) rfl (by show 2 * 0 + _ ≤ _; exact Nat.le_of_eq rfl) (hb hby own_d_prog_13_6_70) (fun _ _ => ⟨rfl, hh12_, (by decide : (0 + 0 + 0 + 0) + 0 + 0 + 0 + 0 ≤ _), (by decide : (0 + 0 + 0 + 0) + 0 + 0 + 0 + 0 ≤ _)⟩)
            dsimp only [Pt.U, Pt.locs, Pt.cells, Pt.slots] at X13_ l13_ y13_ z13_ st13_ hQ13_
            subst l13_ y13_ z13_
            obtain ⟨rx, rfl, Nq13_, hh13_, hqx⟩ := hQ13_
            have N13_ := Fr.app N12_ Nq13_
            refine own_via (fun _ k => st13_.trans k) ?_
            show own_Fin _ _ _ _ _ _ _ T13_ (mkF m 73 #[.val (.ref a1), .val (.ref a2), .val (.int (Int32.ofNat (min cs.length ds.length))), .val (.int j), .val (.int (cs.getD i 0)), .val (.int (ds.getD i 0)), .val (.int (1 : Int32))] [(.int rx)])
            refine own_via (fun _ k => XS.aloadN X13_.here hx rfl (hb hby own_d_prog_13_6_73) rfl rfl k) ?_
            show own_Fin _ _ _ _ _ _ _ T13_ (mkF m 74 #[.val (.ref a1), .val (.ref a2), .val (.int (Int32.ofNat (min cs.length ds.length))), .val (.int j), .val (.int (cs.getD i 0)), .val (.int (ds.getD i 0)), .val (.int (1 : Int32))] [(.ref a2), (.int rx)])
            refine own_via (fun _ k => XS.iloadN X13_.here hx rfl (hb hby own_d_prog_13_6_74) rfl k) ?_
            show own_Fin _ _ _ _ _ _ _ T13_ (mkF m 75 #[.val (.ref a1), .val (.ref a2), .val (.int (Int32.ofNat (min cs.length ds.length))), .val (.int j), .val (.int (cs.getD i 0)), .val (.int (ds.getD i 0)), .val (.int (1 : Int32))] [(.int j), (.ref a2), (.int rx)])
            obtain ⟨cq14_, kq14_, q14_a, q14_b, q14_c⟩ := isOf hZ hh13_ E2l
            obtain ⟨_, _, ⟨T14_, L14_, k14_, n14_⟩, -, X14_, ⟨Lc14_, hQ14_, l14_, y14_, z14_⟩, st14_⟩ := X13_.virtualBack hx (y := (⟨"java/lang/String", "codePointAt", "(I)I"⟩ : MethodName)) (z := (⟨"java/lang/String", "codePointAt", "(I)I"⟩ : MethodName)) hown (mvT hZ (hw _ (List.mem_of_getElem? (i := 132) rfl))) (mvT hZ (hw _ (List.mem_of_getElem? (i := 133) rfl))) (notFace_of_selects (args := #[]) (mvT hZ (hw _ (List.mem_of_getElem? (i := 135) rfl)))) (mvT hZ (hw _ (List.mem_of_getElem? (i := 135) rfl))) (mvT hZ (hw _ (List.mem_of_getElem? (i := 134) rfl))) (by decide) (backOf (W := 1) (own_rm_cpAt l Z a0 hw [] a2 cz t2 kt2 cd2 M2 vs2 ds fm j i hl n0 Zl Ol S1 (by first | assumption | decide) S2 r_fm S3 S4 S5 E2l F3l F4l Vbl hc2 hl2 hr2 hj hi2) hZ (hw _ (List.mem_of_getElem? (i := 136) rfl)) (hw _ (List.mem_of_getElem? (i := 14) rfl)) (by decide) (by decide)) q14_a q14_c (g := (mkF m 75 #[.val (.ref a1), .val (.ref a2), .val (.int (Int32.ofNat (min cs.length ds.length))), .val (.int j), .val (.int (cs.getD i 0)), .val (.int (ds.getD i 0)), .val (.int (1 : Int32))] [(.int j), (.ref a2), (.int rx)])) rfl (by rw [hml]; rfl) (Steps.refl _) (argsL := [(.int j)]) (rest := [(.int rx)]) (lenOf own_pd7 rfl) rfl (by show 2 * 0 + _ ≤ _; exact Nat.le_of_eq rfl) (hb hby own_d_prog_13_6_75) (fun _ _ => ⟨rfl, hh13_, (by decide : (0 + 0 + 0 + 0) + 0 + 0 + 0 + 0 + 0 ≤ _), (by decide : (0 + 0 + 0 + 0) + 0 + 0 + 0 + 0 + 0 ≤ _)⟩)
            dsimp only [Pt.U, Pt.locs, Pt.cells, Pt.slots] at X14_ l14_ y14_ z14_ st14_ hQ14_
            subst l14_ y14_ z14_
            obtain ⟨ry, rfl, Nq14_, hh14_, hqy⟩ := hQ14_
            have N14_ := Fr.app N13_ Nq14_
            refine own_via (fun _ k => st14_.trans k) ?_
            show own_Fin _ _ _ _ _ _ _ T14_ (mkF m 78 #[.val (.ref a1), .val (.ref a2), .val (.int (Int32.ofNat (min cs.length ds.length))), .val (.int j), .val (.int (cs.getD i 0)), .val (.int (ds.getD i 0)), .val (.int (1 : Int32))] [(.int ry), (.int rx)])
            obtain ⟨_, _, ⟨T15_, L15_, k15_, n15_⟩, -, X15_, ⟨Lc15_, hQ15_, l15_, y15_, z15_⟩, st15_⟩ := Jvm.LawKit.callS X14_ hx (y := (⟨"java/lang/Integer", "compare", "(II)I"⟩ : MethodName)) hown (mvT hZ (hw _ (List.mem_of_getElem? (i := 58) rfl))) (mvT hZ (hw _ (List.mem_of_getElem? (i := 59) rfl))) (mvT hZ (hw _ (List.mem_of_getElem? (i := 60) rfl))) (mvT hZ (hw _ (List.mem_of_getElem? (i := 61) rfl))) (by decide) (backOf (W := 0) (own_rm_intCmp l Z a0 hw [] rx ry hl n0 Zl ) hZ (hw _ (List.mem_of_getElem? (i := 61) rfl)) (hw _ (List.mem_of_getElem? (i := 60) rfl)) (by decide) (by decide)) (g := (mkF m 78 #[.val (.ref a1), .val (.ref a2), .val (.int (Int32.ofNat (min cs.length ds.length))), .val (.int j), .val (.int (cs.getD i 0)), .val (.int (ds.getD i 0)), .val (.int (1 : Int32))] [(.int ry), (.int rx)])) rfl (by rw [hml]; rfl) (argsL := [(.int rx), (.int ry)]) (rest := []) (lenOf own_pd19 rfl) rfl (by show 2 * 0 + _ ≤ _; exact Nat.le_of_eq rfl) (hb hby own_d_prog_13_6_78) (fun _ _ => ⟨rfl, hh14_, (by decide : (0 + 0 + 0 + 0) + 0 + 0 + 0 + 0 + 0 + 0 ≤ _), (by decide : (0 + 0 + 0 + 0) + 0 + 0 + 0 + 0 + 0 + 0 ≤ _)⟩)
            dsimp only [Pt.U, Pt.locs, Pt.cells, Pt.slots] at X15_ l15_ y15_ z15_ st15_ hQ15_
            subst l15_ y15_ z15_
            obtain ⟨rc, rfl, Nq15_, hh15_, hqc⟩ := hQ15_
            have N15_ := Fr.app N14_ Nq15_
            refine own_via (fun _ k => st15_ _ k) ?_
            show own_Fin _ _ _ _ _ _ _ T15_ (mkF m 81 #[.val (.ref a1), .val (.ref a2), .val (.int (Int32.ofNat (min cs.length ds.length))), .val (.int j), .val (.int (cs.getD i 0)), .val (.int (ds.getD i 0)), .val (.int (1 : Int32))] [(.int rc)])
            refine own_via (fun _ k => XS.goto X15_.here hx rfl (pc0 := 81) (pc' := 91) rfl (hb hby own_d_prog_13_6_81) (by decide) (by decide) k) ?_
            show own_Fin _ _ _ _ _ _ _ T15_ (mkF m 91 #[.val (.ref a1), .val (.ref a2), .val (.int (Int32.ofNat (min cs.length ds.length))), .val (.int j), .val (.int (cs.getD i 0)), .val (.int (ds.getD i 0)), .val (.int (1 : Int32))] [(.int rc)])
            exact own_retI X15_ hx Bd.returns Bd.notSynchronized (hb hby own_d_prog_13_6_91) hh15_ rfl ⟨rc, rfl, N15_, Kl, (own_cf_sur hh_ hi1 hi2 he (Or.inl (hq1.resolve_right fun z => h1 z.1).2) hqx hqy hqc)⟩ (by decide) (by decide)
      · refine own_via (fun _ k => XS.icmpYes Xl.here hx rfl (pc0 := 16) (pc' := 98) rfl (hb hby own_d_prog_13_6_16) rfl (flt hg).2.1 (by decide) (by decide) k) ?_
        show own_Fin _ _ _ _ _ _ _ Tl (mkF m 98 #[.val (.ref a1), .val (.ref a2), .val (.int (Int32.ofNat (min cs.length ds.length))), .val (.int j), s4, s5, .unset] [])
        have hge : min cs.length ds.length ≤ i := Nat.le_of_not_lt fun q => hg ((own_ltN hj rfl (by omega) (by omega)).mpr q)
        refine own_via (fun _ k => XS.aloadN Xl.here hx rfl (hb hby own_d_prog_13_6_98) rfl rfl k) ?_
        show own_Fin _ _ _ _ _ _ _ Tl (mkF m 99 #[.val (.ref a1), .val (.ref a2), .val (.int (Int32.ofNat (min cs.length ds.length))), .val (.int j), s4, s5, .unset] [(.ref a1)])
        obtain ⟨cq7_, kq7_, q7_a, q7_b, q7_c⟩ := isOf hZ el E1l
        obtain ⟨_, _, ⟨T7_, L7_, k7_, n7_⟩, -, X7_, ⟨Lc7_, hQ7_, l7_, y7_, z7_⟩, st7_⟩ := Xl.virtualBack hx (y := (⟨"java/lang/String", "length", "()I"⟩ : MethodName)) (z := (⟨"java/lang/String", "length", "()I"⟩ : MethodName)) hown (mvT hZ (hw _ (List.mem_of_getElem? (i := 43) rfl))) (mvT hZ (hw _ (List.mem_of_getElem? (i := 44) rfl))) (notFace_of_selects (args := #[]) (mvT hZ (hw _ (List.mem_of_getElem? (i := 46) rfl)))) (mvT hZ (hw _ (List.mem_of_getElem? (i := 46) rfl))) (mvT hZ (hw _ (List.mem_of_getElem? (i := 45) rfl))) (by decide) (backOf (W := 0) (own_rm_len l Z a0 hw [] a1 cz t kt cd N2 vs cs hl n0 Zl Ol S1 (by first | assumption | decide) E1l F1l F2l Val hc hlen hr) hZ (hw _ (List.mem_of_getElem? (i := 47) rfl)) (hw _ (List.mem_of_getElem? (i := 14) rfl)) (by decide) (by decide)) q7_a q7_c (g := (mkF m 99 #[.val (.ref a1), .val (.ref a2), .val (.int (Int32.ofNat (min cs.length ds.length))), .val (.int j), s4, s5, .unset] [(.ref a1)])) rfl (by rw [hml]; rfl) (Steps.refl _) (argsL := []) (rest := []) (lenOf own_pd18 rfl) rfl (by show 2 * 0 + _ ≤ _; exact Nat.le_of_eq rfl) (hb hby own_d_prog_13_6_99) (fun _ _ => ⟨rfl, el, (by decide : (0 + 0 + 0 + 0) + 0 ≤ _), (by decide : (0 + 0 + 0 + 0) + 0 ≤ _)⟩)
        dsimp only [Pt.U, Pt.locs, Pt.cells, Pt.slots] at X7_ l7_ y7_ z7_ st7_ hQ7_
        subst l7_ y7_ z7_
        obtain ⟨rfl, Nq7_, hh7_⟩ := hQ7_
        have N7_ := Fr.app Nl Nq7_
        refine own_via (fun _ k => st7_.trans k) ?_
        show own_Fin _ _ _ _ _ _ _ T7_ (mkF m 102 #[.val (.ref a1), .val (.ref a2), .val (.int (Int32.ofNat (min cs.length ds.length))), .val (.int j), s4, s5, .unset] [(.int (Int32.ofNat cs.length))])
        refine own_via (fun _ k => XS.aloadN X7_.here hx rfl (hb hby own_d_prog_13_6_102) rfl rfl k) ?_
        show own_Fin _ _ _ _ _ _ _ T7_ (mkF m 103 #[.val (.ref a1), .val (.ref a2), .val (.int (Int32.ofNat (min cs.length ds.length))), .val (.int j), s4, s5, .unset] [(.ref a2), (.int (Int32.ofNat cs.length))])
        obtain ⟨cq8_, kq8_, q8_a, q8_b, q8_c⟩ := isOf hZ hh7_ E2l
        obtain ⟨_, _, ⟨T8_, L8_, k8_, n8_⟩, -, X8_, ⟨Lc8_, hQ8_, l8_, y8_, z8_⟩, st8_⟩ := X7_.virtualBack hx (y := (⟨"java/lang/String", "length", "()I"⟩ : MethodName)) (z := (⟨"java/lang/String", "length", "()I"⟩ : MethodName)) hown (mvT hZ (hw _ (List.mem_of_getElem? (i := 43) rfl))) (mvT hZ (hw _ (List.mem_of_getElem? (i := 44) rfl))) (notFace_of_selects (args := #[]) (mvT hZ (hw _ (List.mem_of_getElem? (i := 46) rfl)))) (mvT hZ (hw _ (List.mem_of_getElem? (i := 46) rfl))) (mvT hZ (hw _ (List.mem_of_getElem? (i := 45) rfl))) (by decide) (backOf (W := 1) (own_rm_len l Z a0 hw [] a2 cz t2 kt2 cd2 M2 vs2 ds hl n0 Zl Ol S1 (by first | assumption | decide) E2l F3l F4l Vbl hc2 hl2 hr2) hZ (hw _ (List.mem_of_getElem? (i := 47) rfl)) (hw _ (List.mem_of_getElem? (i := 14) rfl)) (by decide) (by decide)) q8_a q8_c (g := (mkF m 103 #[.val (.ref a1), .val (.ref a2), .val (.int (Int32.ofNat (min cs.length ds.length))), .val (.int j), s4, s5, .unset] [(.ref a2), (.int (Int32.ofNat cs.length))])) rfl (by rw [hml]; rfl) (Steps.refl _) (argsL := []) (rest := [(.int (Int32.ofNat cs.length))]) (lenOf own_pd18 rfl) rfl (by show 2 * 0 + _ ≤ _; exact Nat.le_of_eq rfl) (hb hby own_d_prog_13_6_103) (fun _ _ => ⟨rfl, hh7_, (by decide : (0 + 0 + 0 + 0) + 0 + 0 ≤ _), (by decide : (0 + 0 + 0 + 0) + 0 + 0 ≤ _)⟩)
        dsimp only [Pt.U, Pt.locs, Pt.cells, Pt.slots] at X8_ l8_ y8_ z8_ st8_ hQ8_
        subst l8_ y8_ z8_
        obtain ⟨rfl, Nq8_, hh8_⟩ := hQ8_
        have N8_ := Fr.app N7_ Nq8_
        refine own_via (fun _ k => st8_.trans k) ?_
        show own_Fin _ _ _ _ _ _ _ T8_ (mkF m 106 #[.val (.ref a1), .val (.ref a2), .val (.int (Int32.ofNat (min cs.length ds.length))), .val (.int j), s4, s5, .unset] [(.int (Int32.ofNat ds.length)), (.int (Int32.ofNat cs.length))])
        obtain ⟨_, _, ⟨T9_, L9_, k9_, n9_⟩, -, X9_, ⟨Lc9_, hQ9_, l9_, y9_, z9_⟩, st9_⟩ := Jvm.LawKit.callS X8_ hx (y := (⟨"java/lang/Integer", "compare", "(II)I"⟩ : MethodName)) hown (mvT hZ (hw _ (List.mem_of_getElem? (i := 58) rfl))) (mvT hZ (hw _ (List.mem_of_getElem? (i := 59) rfl))) (mvT hZ (hw _ (List.mem_of_getElem? (i := 60) rfl))) (mvT hZ (hw _ (List.mem_of_getElem? (i := 61) rfl))) (by decide) (backOf (W := 0) (own_rm_intCmp l Z a0 hw [] (Int32.ofNat cs.length) (Int32.ofNat ds.length) hl n0 Zl ) hZ (hw _ (List.mem_of_getElem? (i := 61) rfl)) (hw _ (List.mem_of_getElem? (i := 60) rfl)) (by decide) (by decide)) (g := (mkF m 106 #[.val (.ref a1), .val (.ref a2), .val (.int (Int32.ofNat (min cs.length ds.length))), .val (.int j), s4, s5, .unset] [(.int (Int32.ofNat ds.length)), (.int (Int32.ofNat cs.length))])) rfl (by rw [hml]; rfl) (argsL := [(.int (Int32.ofNat cs.length)), (.int (Int32.ofNat ds.length))]) (rest := []) (lenOf own_pd19 rfl) rfl (by show 2 * 0 + _ ≤ _; exact Nat.le_of_eq rfl) (hb hby own_d_prog_13_6_106) (fun _ _ => ⟨rfl, hh8_, (by decide : (0 + 0 + 0 + 0) + 0 + 0 + 0 ≤ _), (by decide : (0 + 0 + 0 + 0) + 0 + 0 + 0 ≤ _)⟩)
        dsimp only [Pt.U, Pt.locs, Pt.cells, Pt.slots] at X9_ l9_ y9_ z9_ st9_ hQ9_
        subst l9_ y9_ z9_
        obtain ⟨rc, rfl, Nq9_, hh9_, hqc⟩ := hQ9_
        have N9_ := Fr.app N8_ Nq9_
        refine own_via (fun _ k => st9_ _ k) ?_
        show own_Fin _ _ _ _ _ _ _ T9_ (mkF m 109 #[.val (.ref a1), .val (.ref a2), .val (.int (Int32.ofNat (min cs.length ds.length))), .val (.int j), s4, s5, .unset] [(.int rc)])
        exact own_retI X9_ hx Bd.returns Bd.notSynchronized (hb hby own_d_prog_13_6_109) hh9_ rfl ⟨rc, rfl, N9_, Kl, (own_cf_end hh_ (by omega) hlen hl2 hqc)⟩ (by decide) (by decide)
  exact lp (min cs.length ds.length) 0 (0 : Int32) .unset .unset T3_ _ X3_ N3_ _ hh3_ rfl O0 E1 F1 F2 Va E2 F3 F4 Vb (Or.inl rfl) (Or.inl rfl) rfl (by omega) (by omega) (fun q hq => absurd hq (Nat.not_lt_zero q))
theorem own_d_3_0 : decode method_3_code 0 = .ok (.iload_n 0, 1) := by decide +kernel
theorem own_d_3_1 : decode method_3_code 1 = .ok (.iconst 1, 1) := by decide +kernel
theorem own_d_3_2 : decode method_3_code 2 = .ok (.iand, 1) := by decide +kernel
theorem own_d_3_3 : decode method_3_code 3 = .ok (.ifCond .ne 30, 3) := by decide +kernel
theorem own_d_3_33 : decode method_3_code 33 = .ok (.ldc 33, 2) := by decide +kernel
theorem own_d_3_35 : decode method_3_code 35 = .ok (.iload_n 0, 1) := by decide +kernel
theorem own_d_3_36 : decode method_3_code 36 = .ok (.iconst 1, 1) := by decide +kernel
theorem own_d_3_37 : decode method_3_code 37 = .ok (.iushr, 1) := by decide +kernel
theorem own_d_3_38 : decode method_3_code 38 = .ok (.ldc 34, 2) := by decide +kernel
theorem own_d_3_40 : decode method_3_code 40 = .ok (.iand, 1) := by decide +kernel
theorem own_d_3_41 : decode method_3_code 41 = .ok (.iadd, 1) := by decide +kernel
theorem own_d_3_42 : decode method_3_code 42 = .ok (.ireturn, 1) := by decide +kernel
theorem own_d_3_6 : decode method_3_code 6 = .ok (.iload_n 0, 1) := by decide +kernel
theorem own_d_3_7 : decode method_3_code 7 = .ok (.iconst 1, 1) := by decide +kernel
theorem own_d_3_8 : decode method_3_code 8 = .ok (.iushr, 1) := by decide +kernel
theorem own_d_3_9 : decode method_3_code 9 = .ok (.ldc 30, 2) := by decide +kernel
theorem own_d_3_11 : decode method_3_code 11 = .ok (.iand, 1) := by decide +kernel
theorem own_d_3_12 : decode method_3_code 12 = .ok (.istore_n 1, 1) := by decide +kernel
theorem own_d_3_13 : decode method_3_code 13 = .ok (.iload_n 1, 1) := by decide +kernel
theorem own_d_3_14 : decode method_3_code 14 = .ok (.ldc 31, 2) := by decide +kernel
theorem own_d_3_16 : decode method_3_code 16 = .ok (.if_icmp .lt 15, 3) := by decide +kernel
theorem own_d_3_31 : decode method_3_code 31 = .ok (.iload_n 1, 1) := by decide +kernel
theorem own_d_3_32 : decode method_3_code 32 = .ok (.ireturn, 1) := by decide +kernel
theorem own_d_3_19 : decode method_3_code 19 = .ok (.iload_n 1, 1) := by decide +kernel
theorem own_d_3_20 : decode method_3_code 20 = .ok (.ldc 32, 2) := by decide +kernel
theorem own_d_3_22 : decode method_3_code 22 = .ok (.if_icmp .gt 9, 3) := by decide +kernel
theorem own_d_3_25 : decode method_3_code 25 = .ok (.iload_n 1, 1) := by decide +kernel
theorem own_d_3_26 : decode method_3_code 26 = .ok (.sipush 16384, 3) := by decide +kernel
theorem own_d_3_29 : decode method_3_code 29 = .ok (.ixor, 1) := by decide +kernel
theorem own_d_3_30 : decode method_3_code 30 = .ok (.istore_n 1, 1) := by decide +kernel
theorem own_ef_cp (m : MethodId) (x : Int32) : entryFrame m #[(.int x)] 2 = mkF m 0 #[.val (.int x), .unset] [] := by (first | (simp [entryFrame, mkF, argsToLocals, Value.category]; done) | rfl)
def own_Q_cp (Z : State) (x : Int32) (h0 : Heap) (n0 : Nat) (vq : Option Value) (h : Heap) (Lq : List Loc) : Prop := ∃ (r : Int32), (vq = some (.int r)) ∧ (Fr n0 Lq) ∧ (h = h0) ∧ (own_cp r)
set_option maxRecDepth 65536 in
set_option maxHeartbeats 40000000 in
theorem own_rm_cp (l : Launch) (Z : State) (a0 : Array Value) (hw : ∀ d ∈ tables_1, d.before a0 Z = true) (wsq : List Jvm.Cond) (x : Int32) (h0 : Heap) (n0 : Nat) (Z0 : n0 ≤ h0.size) :
    MetFree l (⟨"com/example/co_occurrence_ranking/cooccurrenceranking/io/LineReaderCompareFieldsPinLaw", "cp", "(I)I"⟩ : MethodName) (head1 (Jvm.Cond.code (⟨"com/example/co_occurrence_ranking/cooccurrenceranking/io/LineReaderCompareFieldsPinLaw", "cp", "(I)I"⟩ : MethodName) method_3_code 2 (some .int) :: wsq) ({ frames := 0, cells := 0, slots := 0, locals := 0 } : Room)) (fun aq Uq => aq = #[(.int x)] ∧ Z.Warmed39 Uq.vm ∧ Uq.heap = h0) (fun _ _ _ _ _ => True) (fun _ Uq oq Uq' => ∃ vq Lq, oq = .returned vq ∧ own_Q_cp Z x h0 n0 vq Uq'.heap Lq ∧ FrameEnd Uq oq Uq' Lq ({ frames := 0, cells := 0, slots := 0, locals := 0 } : Room).cells ({ frames := 0, cells := 0, slots := 0, locals := 0 } : Room).slots) := by
  refine MetFree.of_bodySF (plainFor_of_name own_pn6) hisR ?_
  intro p e s m args below meth cde s₁ Bd hml0 hP hK
  obtain ⟨rfl, hZ, hh⟩ := hP
  have hx := Bd.exec
  have hby := Bd.bytes
  have hml : cde.maxLocals = 2 := hml0
  have hown : s.vm.findClass "com/example/co_occurrence_ranking/cooccurrenceranking/io/LineReaderCompareFieldsPinLaw" = some m.cls := findClass_of_methodNamed Bd.named
  have hnm := (name_of_methodNamed Bd.named Bd.method).1
  have X0 : Stand p l e ({ frames := 0, cells := 0, slots := 0, locals := 0 } : Room) s m #[(.int x)] below meth cde s₁ [] 0 0 := Stand.of_body Bd
  have e0 : s₁.heap = h0 := by rw [← hh, Bd.state]; rfl
  have N0 := Fr.nil n0
  show own_Fin p e s below (own_Q_cp Z x h0 n0) ({ frames := 0, cells := 0, slots := 0, locals := 0 } : Room).cells ({ frames := 0, cells := 0, slots := 0, locals := 0 } : Room).slots s₁ (entryFrame m #[(.int x)] 2)
  rw [own_ef_cp m x]
  refine own_via (fun _ k => XS.iloadN X0.here hx rfl (hb hby own_d_3_0) rfl k) ?_
  show own_Fin _ _ _ _ _ _ _ s₁ (mkF m 1 #[.val (.int x), .unset] [(.int x)])
  refine own_via (fun _ k => XS.iconst X0.here hx rfl (hb hby own_d_3_1) k) ?_
  show own_Fin _ _ _ _ _ _ _ s₁ (mkF m 2 #[.val (.int x), .unset] [(.int (1 : Int32)), (.int x)])
  refine own_via (fun _ k => XS.iand X0.here hx rfl (hb hby own_d_3_2) rfl k) ?_
  show own_Fin _ _ _ _ _ _ _ s₁ (mkF m 3 #[.val (.int x), .unset] [(.int (x &&& (1 : Int32)))])
  rcases Classical.em ((x &&& (1 : Int32)) = (0 : Int32)) with h1 | h1
  · refine own_via (fun _ k => XS.ifNo X0.here hx rfl (hb hby own_d_3_3) rfl ((if0 _ _).trans (teq h1).2) k) ?_
    show own_Fin _ _ _ _ _ _ _ s₁ (mkF m 6 #[.val (.int x), .unset] [])
    refine own_via (fun _ k => XS.iloadN X0.here hx rfl (hb hby own_d_3_6) rfl k) ?_
    show own_Fin _ _ _ _ _ _ _ s₁ (mkF m 7 #[.val (.int x), .unset] [(.int x)])
    refine own_via (fun _ k => XS.iconst X0.here hx rfl (hb hby own_d_3_7) k) ?_
    show own_Fin _ _ _ _ _ _ _ s₁ (mkF m 8 #[.val (.int x), .unset] [(.int (1 : Int32)), (.int x)])
    refine own_via (fun _ k => XS.iushr X0.here hx rfl (hb hby own_d_3_8) rfl k) ?_
    show own_Fin _ _ _ _ _ _ _ s₁ (mkF m 9 #[.val (.int x), .unset] [(.int ((x.toUInt32 >>> ((1 : Int32) &&& 31).toUInt32).toInt32))])
    refine own_via (fun _ k => X0.ldcInt hx hown (mvT hZ (hw _ (List.mem_of_getElem? (i := 4) rfl))) (g := (mkF m 9 #[.val (.int x), .unset] [(.int ((x.toUInt32 >>> ((1 : Int32) &&& 31).toUInt32).toInt32))])) rfl (hb hby own_d_3_9) _ k) ?_
    show own_Fin _ _ _ _ _ _ _ s₁ (mkF m 11 #[.val (.int x), .unset] [(.int (65535 : Int32)), (.int ((x.toUInt32 >>> ((1 : Int32) &&& 31).toUInt32).toInt32))])
    refine own_via (fun _ k => XS.iand X0.here hx rfl (hb hby own_d_3_11) rfl k) ?_
    show own_Fin _ _ _ _ _ _ _ s₁ (mkF m 12 #[.val (.int x), .unset] [(.int (((x.toUInt32 >>> ((1 : Int32) &&& 31).toUInt32).toInt32) &&& (65535 : Int32)))])
    refine own_via (fun _ k => XS.istoreN X0.here hx rfl (hb hby own_d_3_12) rfl (l' := #[.val (.int x), .val (.int (((x.toUInt32 >>> ((1 : Int32) &&& 31).toUInt32).toInt32) &&& (65535 : Int32)))]) rfl k) ?_
    show own_Fin _ _ _ _ _ _ _ s₁ (mkF m 13 #[.val (.int x), .val (.int (((x.toUInt32 >>> ((1 : Int32) &&& 31).toUInt32).toInt32) &&& (65535 : Int32)))] [])
    refine own_via (fun _ k => XS.iloadN X0.here hx rfl (hb hby own_d_3_13) rfl k) ?_
    show own_Fin _ _ _ _ _ _ _ s₁ (mkF m 14 #[.val (.int x), .val (.int (((x.toUInt32 >>> ((1 : Int32) &&& 31).toUInt32).toInt32) &&& (65535 : Int32)))] [(.int (((x.toUInt32 >>> ((1 : Int32) &&& 31).toUInt32).toInt32) &&& (65535 : Int32)))])
    refine own_via (fun _ k => X0.ldcInt hx hown (mvT hZ (hw _ (List.mem_of_getElem? (i := 5) rfl))) (g := (mkF m 14 #[.val (.int x), .val (.int (((x.toUInt32 >>> ((1 : Int32) &&& 31).toUInt32).toInt32) &&& (65535 : Int32)))] [(.int (((x.toUInt32 >>> ((1 : Int32) &&& 31).toUInt32).toInt32) &&& (65535 : Int32)))])) rfl (hb hby own_d_3_14) _ k) ?_
    show own_Fin _ _ _ _ _ _ _ s₁ (mkF m 16 #[.val (.int x), .val (.int (((x.toUInt32 >>> ((1 : Int32) &&& 31).toUInt32).toInt32) &&& (65535 : Int32)))] [(.int (55296 : Int32)), (.int (((x.toUInt32 >>> ((1 : Int32) &&& 31).toUInt32).toInt32) &&& (65535 : Int32)))])
    rcases Classical.em ((((x.toUInt32 >>> ((1 : Int32) &&& 31).toUInt32).toInt32) &&& (65535 : Int32)) < (55296 : Int32)) with h2 | h2
    · refine own_via (fun _ k => XS.icmpYes X0.here hx rfl (pc0 := 16) (pc' := 31) rfl (hb hby own_d_3_16) rfl (tlt h2).1 (by decide) (by decide) k) ?_
      show own_Fin _ _ _ _ _ _ _ s₁ (mkF m 31 #[.val (.int x), .val (.int (((x.toUInt32 >>> ((1 : Int32) &&& 31).toUInt32).toInt32) &&& (65535 : Int32)))] [])
      refine own_via (fun _ k => XS.iloadN X0.here hx rfl (hb hby own_d_3_31) rfl k) ?_
      show own_Fin _ _ _ _ _ _ _ s₁ (mkF m 32 #[.val (.int x), .val (.int (((x.toUInt32 >>> ((1 : Int32) &&& 31).toUInt32).toInt32) &&& (65535 : Int32)))] [(.int (((x.toUInt32 >>> ((1 : Int32) &&& 31).toUInt32).toInt32) &&& (65535 : Int32)))])
      exact own_retI X0 hx Bd.returns Bd.notSynchronized (hb hby own_d_3_32) e0 rfl ⟨(((x.toUInt32 >>> ((1 : Int32) &&& 31).toUInt32).toInt32) &&& (65535 : Int32)), rfl, N0, rfl, (own_cp_lt x h2)⟩ (by decide) (by decide)
    · refine own_via (fun _ k => XS.icmpNo X0.here hx rfl (hb hby own_d_3_16) rfl (flt h2).1 k) ?_
      show own_Fin _ _ _ _ _ _ _ s₁ (mkF m 19 #[.val (.int x), .val (.int (((x.toUInt32 >>> ((1 : Int32) &&& 31).toUInt32).toInt32) &&& (65535 : Int32)))] [])
      refine own_via (fun _ k => XS.iloadN X0.here hx rfl (hb hby own_d_3_19) rfl k) ?_
      show own_Fin _ _ _ _ _ _ _ s₁ (mkF m 20 #[.val (.int x), .val (.int (((x.toUInt32 >>> ((1 : Int32) &&& 31).toUInt32).toInt32) &&& (65535 : Int32)))] [(.int (((x.toUInt32 >>> ((1 : Int32) &&& 31).toUInt32).toInt32) &&& (65535 : Int32)))])
      refine own_via (fun _ k => X0.ldcInt hx hown (mvT hZ (hw _ (List.mem_of_getElem? (i := 98) rfl))) (g := (mkF m 20 #[.val (.int x), .val (.int (((x.toUInt32 >>> ((1 : Int32) &&& 31).toUInt32).toInt32) &&& (65535 : Int32)))] [(.int (((x.toUInt32 >>> ((1 : Int32) &&& 31).toUInt32).toInt32) &&& (65535 : Int32)))])) rfl (hb hby own_d_3_20) _ k) ?_
      show own_Fin _ _ _ _ _ _ _ s₁ (mkF m 22 #[.val (.int x), .val (.int (((x.toUInt32 >>> ((1 : Int32) &&& 31).toUInt32).toInt32) &&& (65535 : Int32)))] [(.int (57343 : Int32)), (.int (((x.toUInt32 >>> ((1 : Int32) &&& 31).toUInt32).toInt32) &&& (65535 : Int32)))])
      rcases Classical.em ((57343 : Int32) < (((x.toUInt32 >>> ((1 : Int32) &&& 31).toUInt32).toInt32) &&& (65535 : Int32))) with h3 | h3
      · refine own_via (fun _ k => XS.icmpYes X0.here hx rfl (pc0 := 22) (pc' := 31) rfl (hb hby own_d_3_22) rfl (tlt h3).2.2.1 (by decide) (by decide) k) ?_
        show own_Fin _ _ _ _ _ _ _ s₁ (mkF m 31 #[.val (.int x), .val (.int (((x.toUInt32 >>> ((1 : Int32) &&& 31).toUInt32).toInt32) &&& (65535 : Int32)))] [])
        refine own_via (fun _ k => XS.iloadN X0.here hx rfl (hb hby own_d_3_31) rfl k) ?_
        show own_Fin _ _ _ _ _ _ _ s₁ (mkF m 32 #[.val (.int x), .val (.int (((x.toUInt32 >>> ((1 : Int32) &&& 31).toUInt32).toInt32) &&& (65535 : Int32)))] [(.int (((x.toUInt32 >>> ((1 : Int32) &&& 31).toUInt32).toInt32) &&& (65535 : Int32)))])
        exact own_retI X0 hx Bd.returns Bd.notSynchronized (hb hby own_d_3_32) e0 rfl ⟨(((x.toUInt32 >>> ((1 : Int32) &&& 31).toUInt32).toInt32) &&& (65535 : Int32)), rfl, N0, rfl, (own_cp_gt x h3)⟩ (by decide) (by decide)
      · refine own_via (fun _ k => XS.icmpNo X0.here hx rfl (hb hby own_d_3_22) rfl (flt h3).2.2.1 k) ?_
        show own_Fin _ _ _ _ _ _ _ s₁ (mkF m 25 #[.val (.int x), .val (.int (((x.toUInt32 >>> ((1 : Int32) &&& 31).toUInt32).toInt32) &&& (65535 : Int32)))] [])
        refine own_via (fun _ k => XS.iloadN X0.here hx rfl (hb hby own_d_3_25) rfl k) ?_
        show own_Fin _ _ _ _ _ _ _ s₁ (mkF m 26 #[.val (.int x), .val (.int (((x.toUInt32 >>> ((1 : Int32) &&& 31).toUInt32).toInt32) &&& (65535 : Int32)))] [(.int (((x.toUInt32 >>> ((1 : Int32) &&& 31).toUInt32).toInt32) &&& (65535 : Int32)))])
        refine own_via (fun _ k => XS.sipush X0.here hx rfl (hb hby own_d_3_26) k) ?_
        show own_Fin _ _ _ _ _ _ _ s₁ (mkF m 29 #[.val (.int x), .val (.int (((x.toUInt32 >>> ((1 : Int32) &&& 31).toUInt32).toInt32) &&& (65535 : Int32)))] [(.int (16384 : Int32)), (.int (((x.toUInt32 >>> ((1 : Int32) &&& 31).toUInt32).toInt32) &&& (65535 : Int32)))])
        refine own_via (fun _ k => XS.ixor X0.here hx rfl (hb hby own_d_3_29) rfl k) ?_
        show own_Fin _ _ _ _ _ _ _ s₁ (mkF m 30 #[.val (.int x), .val (.int (((x.toUInt32 >>> ((1 : Int32) &&& 31).toUInt32).toInt32) &&& (65535 : Int32)))] [(.int ((((x.toUInt32 >>> ((1 : Int32) &&& 31).toUInt32).toInt32) &&& (65535 : Int32)) ^^^ (16384 : Int32)))])
        refine own_via (fun _ k => XS.istoreN X0.here hx rfl (hb hby own_d_3_30) rfl (l' := #[.val (.int x), .val (.int ((((x.toUInt32 >>> ((1 : Int32) &&& 31).toUInt32).toInt32) &&& (65535 : Int32)) ^^^ (16384 : Int32)))]) rfl k) ?_
        show own_Fin _ _ _ _ _ _ _ s₁ (mkF m 31 #[.val (.int x), .val (.int ((((x.toUInt32 >>> ((1 : Int32) &&& 31).toUInt32).toInt32) &&& (65535 : Int32)) ^^^ (16384 : Int32)))] [])
        refine own_via (fun _ k => XS.iloadN X0.here hx rfl (hb hby own_d_3_31) rfl k) ?_
        show own_Fin _ _ _ _ _ _ _ s₁ (mkF m 32 #[.val (.int x), .val (.int ((((x.toUInt32 >>> ((1 : Int32) &&& 31).toUInt32).toInt32) &&& (65535 : Int32)) ^^^ (16384 : Int32)))] [(.int ((((x.toUInt32 >>> ((1 : Int32) &&& 31).toUInt32).toInt32) &&& (65535 : Int32)) ^^^ (16384 : Int32)))])
        exact own_retI X0 hx Bd.returns Bd.notSynchronized (hb hby own_d_3_32) e0 rfl ⟨((((x.toUInt32 >>> ((1 : Int32) &&& 31).toUInt32).toInt32) &&& (65535 : Int32)) ^^^ (16384 : Int32)), rfl, N0, rfl, (own_cp_xr x h2 h3)⟩ (by decide) (by decide)
  · refine own_via (fun _ k => XS.ifYes X0.here hx rfl (pc0 := 3) (pc' := 33) rfl (hb hby own_d_3_3) rfl ((if0 _ _).trans (feq h1).2) (by decide) (by decide) k) ?_
    show own_Fin _ _ _ _ _ _ _ s₁ (mkF m 33 #[.val (.int x), .unset] [])
    refine own_via (fun _ k => X0.ldcInt hx hown (mvT hZ (hw _ (List.mem_of_getElem? (i := 6) rfl))) (g := (mkF m 33 #[.val (.int x), .unset] [])) rfl (hb hby own_d_3_33) _ k) ?_
    show own_Fin _ _ _ _ _ _ _ s₁ (mkF m 35 #[.val (.int x), .unset] [(.int (65536 : Int32))])
    refine own_via (fun _ k => XS.iloadN X0.here hx rfl (hb hby own_d_3_35) rfl k) ?_
    show own_Fin _ _ _ _ _ _ _ s₁ (mkF m 36 #[.val (.int x), .unset] [(.int x), (.int (65536 : Int32))])
    refine own_via (fun _ k => XS.iconst X0.here hx rfl (hb hby own_d_3_36) k) ?_
    show own_Fin _ _ _ _ _ _ _ s₁ (mkF m 37 #[.val (.int x), .unset] [(.int (1 : Int32)), (.int x), (.int (65536 : Int32))])
    refine own_via (fun _ k => XS.iushr X0.here hx rfl (hb hby own_d_3_37) rfl k) ?_
    show own_Fin _ _ _ _ _ _ _ s₁ (mkF m 38 #[.val (.int x), .unset] [(.int ((x.toUInt32 >>> ((1 : Int32) &&& 31).toUInt32).toInt32)), (.int (65536 : Int32))])
    refine own_via (fun _ k => X0.ldcInt hx hown (mvT hZ (hw _ (List.mem_of_getElem? (i := 7) rfl))) (g := (mkF m 38 #[.val (.int x), .unset] [(.int ((x.toUInt32 >>> ((1 : Int32) &&& 31).toUInt32).toInt32)), (.int (65536 : Int32))])) rfl (hb hby own_d_3_38) _ k) ?_
    show own_Fin _ _ _ _ _ _ _ s₁ (mkF m 40 #[.val (.int x), .unset] [(.int (1048575 : Int32)), (.int ((x.toUInt32 >>> ((1 : Int32) &&& 31).toUInt32).toInt32)), (.int (65536 : Int32))])
    refine own_via (fun _ k => XS.iand X0.here hx rfl (hb hby own_d_3_40) rfl k) ?_
    show own_Fin _ _ _ _ _ _ _ s₁ (mkF m 41 #[.val (.int x), .unset] [(.int (((x.toUInt32 >>> ((1 : Int32) &&& 31).toUInt32).toInt32) &&& (1048575 : Int32))), (.int (65536 : Int32))])
    refine own_via (fun _ k => XS.iadd X0.here hx rfl (hb hby own_d_3_41) rfl k) ?_
    show own_Fin _ _ _ _ _ _ _ s₁ (mkF m 42 #[.val (.int x), .unset] [(.int ((65536 : Int32) + (((x.toUInt32 >>> ((1 : Int32) &&& 31).toUInt32).toInt32) &&& (1048575 : Int32))))])
    exact own_retI X0 hx Bd.returns Bd.notSynchronized (hb hby own_d_3_42) e0 rfl ⟨((65536 : Int32) + (((x.toUInt32 >>> ((1 : Int32) &&& 31).toUInt32).toInt32) &&& (1048575 : Int32))), rfl, N0, rfl, (own_cp_sup x)⟩ (by decide) (by decide)
theorem own_d_4_0 : decode method_4_code 0 = .ok (.iload_n 2, 1) := by decide +kernel
theorem own_d_4_1 : decode method_4_code 1 = .ok (.ldc 33, 2) := by decide +kernel
theorem own_d_4_3 : decode method_4_code 3 = .ok (.if_icmp .lt 37, 3) := by decide +kernel
theorem own_d_4_40 : decode method_4_code 40 = .ok (.aload_n 0, 1) := by decide +kernel
theorem own_d_4_41 : decode method_4_code 41 = .ok (.iload_n 1, 1) := by decide +kernel
theorem own_d_4_42 : decode method_4_code 42 = .ok (.iload_n 2, 1) := by decide +kernel
theorem own_d_4_43 : decode method_4_code 43 = .ok (.i2c, 1) := by decide +kernel
theorem own_d_4_44 : decode method_4_code 44 = .ok (.castore, 1) := by decide +kernel
theorem own_d_4_45 : decode method_4_code 45 = .ok (.iload_n 1, 1) := by decide +kernel
theorem own_d_4_46 : decode method_4_code 46 = .ok (.iconst 1, 1) := by decide +kernel
theorem own_d_4_47 : decode method_4_code 47 = .ok (.iadd, 1) := by decide +kernel
theorem own_d_4_48 : decode method_4_code 48 = .ok (.ireturn, 1) := by decide +kernel
theorem own_ef_put00 (m : MethodId) (a : Addr) (x : Int32) : entryFrame m #[(.ref a), (.int (0 : Int32)), (.int x)] 4 = mkF m 0 #[.val (.ref a), .val (.int (0 : Int32)), .val (.int x), .unset] [] := by (first | (simp [entryFrame, mkF, argsToLocals, Value.category]; done) | rfl)
def own_Q_put00 (Z : State) (a : Addr) (ka : ClassId) (x : Int32) (el0 : Int32) (el1 : Int32) (el2 : Int32) (el3 : Int32) (h0 : Heap) (n0 : Nat) (vq : Option Value) (h : Heap) (Lq : List Loc) : Prop := (vq = some (.int (1 : Int32))) ∧ (Fr n0 Lq) ∧ (Keep h0 h [a]) ∧ (Arv Z h a ka .char (4 : Int32) [(.int x), (.int el1), (.int el2), (.int el3)] (.int 0))
set_option maxRecDepth 65536 in
set_option maxHeartbeats 40000000 in
theorem own_rm_put00 (l : Launch) (Z : State) (a0 : Array Value) (hw : ∀ d ∈ tables_1, d.before a0 Z = true) (wsq : List Jvm.Cond) (a : Addr) (ka : ClassId) (x : Int32) (el0 : Int32) (el1 : Int32) (el2 : Int32) (el3 : Int32) (h0 : Heap) (n0 : Nat) (Z0 : n0 ≤ h0.size) (Va : Arv Z h0 a ka .char (4 : Int32) [(.int el0), (.int el1), (.int el2), (.int el3)] (.int 0)) (ga : n0 ≤ a) (hx_ : own_bmp x) :
    MetFree l (⟨"com/example/co_occurrence_ranking/cooccurrenceranking/io/LineReaderCompareFieldsPinLaw", "put", "([CII)I"⟩ : MethodName) (head1 (Jvm.Cond.code (⟨"com/example/co_occurrence_ranking/cooccurrenceranking/io/LineReaderCompareFieldsPinLaw", "put", "([CII)I"⟩ : MethodName) method_4_code 4 (some .int) :: wsq) ({ frames := 0, cells := 0, slots := 0, locals := 0 } : Room)) (fun aq Uq => aq = #[(.ref a), (.int (0 : Int32)), (.int x)] ∧ Z.Warmed39 Uq.vm ∧ Uq.heap = h0) (fun _ _ _ _ _ => True) (fun _ Uq oq Uq' => ∃ vq Lq, oq = .returned vq ∧ own_Q_put00 Z a ka x el0 el1 el2 el3 h0 n0 vq Uq'.heap Lq ∧ FrameEnd Uq oq Uq' Lq ({ frames := 0, cells := 0, slots := 0, locals := 0 } : Room).cells ({ frames := 0, cells := 0, slots := 0, locals := 0 } : Room).slots) := by
  refine MetFree.of_bodySF (plainFor_of_name own_pn6) hisR ?_
  intro p e s m args below meth cde s₁ Bd hml0 hP hK
  obtain ⟨rfl, hZ, hh⟩ := hP
  have hx := Bd.exec
  have hby := Bd.bytes
  have hml : cde.maxLocals = 4 := hml0
  have hown : s.vm.findClass "com/example/co_occurrence_ranking/cooccurrenceranking/io/LineReaderCompareFieldsPinLaw" = some m.cls := findClass_of_methodNamed Bd.named
  have hnm := (name_of_methodNamed Bd.named Bd.method).1
  have X0 : Stand p l e ({ frames := 0, cells := 0, slots := 0, locals := 0 } : Room) s m #[(.ref a), (.int (0 : Int32)), (.int x)] below meth cde s₁ [] 0 0 := Stand.of_body Bd
  have e0 : s₁.heap = h0 := by rw [← hh, Bd.state]; rfl
  have N0 := Fr.nil n0
  show own_Fin p e s below (own_Q_put00 Z a ka x el0 el1 el2 el3 h0 n0) ({ frames := 0, cells := 0, slots := 0, locals := 0 } : Room).cells ({ frames := 0, cells := 0, slots := 0, locals := 0 } : Room).slots s₁ (entryFrame m #[(.ref a), (.int (0 : Int32)), (.int x)] 4)
  rw [own_ef_put00 m a x]
  refine own_via (fun _ k => XS.iloadN X0.here hx rfl (hb hby own_d_4_0) rfl k) ?_
  show own_Fin _ _ _ _ _ _ _ s₁ (mkF m 1 #[.val (.ref a), .val (.int (0 : Int32)), .val (.int x), .unset] [(.int x)])
  refine own_via (fun _ k => X0.ldcInt hx hown (mvT hZ (hw _ (List.mem_of_getElem? (i := 6) rfl))) (g := (mkF m 1 #[.val (.ref a), .val (.int (0 : Int32)), .val (.int x), .unset] [(.int x)])) rfl (hb hby own_d_4_1) _ k) ?_
  show own_Fin _ _ _ _ _ _ _ s₁ (mkF m 3 #[.val (.ref a), .val (.int (0 : Int32)), .val (.int x), .unset] [(.int (65536 : Int32)), (.int x)])
  refine own_via (fun _ k => XS.icmpYes X0.here hx rfl (pc0 := 3) (pc' := 40) rfl (hb hby own_d_4_3) rfl (tlt (own_bmp_lt hx_)).1 (by decide) (by decide) k) ?_
  show own_Fin _ _ _ _ _ _ _ s₁ (mkF m 40 #[.val (.ref a), .val (.int (0 : Int32)), .val (.int x), .unset] [])
  refine own_via (fun _ k => XS.aloadN X0.here hx rfl (hb hby own_d_4_40) rfl rfl k) ?_
  show own_Fin _ _ _ _ _ _ _ s₁ (mkF m 41 #[.val (.ref a), .val (.int (0 : Int32)), .val (.int x), .unset] [(.ref a)])
  refine own_via (fun _ k => XS.iloadN X0.here hx rfl (hb hby own_d_4_41) rfl k) ?_
  show own_Fin _ _ _ _ _ _ _ s₁ (mkF m 42 #[.val (.ref a), .val (.int (0 : Int32)), .val (.int x), .unset] [(.int (0 : Int32)), (.ref a)])
  refine own_via (fun _ k => XS.iloadN X0.here hx rfl (hb hby own_d_4_42) rfl k) ?_
  show own_Fin _ _ _ _ _ _ _ s₁ (mkF m 43 #[.val (.ref a), .val (.int (0 : Int32)), .val (.int x), .unset] [(.int x), (.int (0 : Int32)), (.ref a)])
  refine own_via (fun _ k => XS.i2c X0.here hx rfl (hb hby own_d_4_43) rfl k) ?_
  show own_Fin _ _ _ _ _ _ _ s₁ (mkF m 44 #[.val (.ref a), .val (.int (0 : Int32)), .val (.int x), .unset] [(.int (x.toUInt32.toUInt16.toUInt32.toInt32)), (.int (0 : Int32)), (.ref a)])
  obtain ⟨c1_, Ar1_, q1_, S1_, M1_, H1_, G1_⟩ := (id Va)
  have hin1_ : ¬ ((0 : Int32) < 0 ∨ c1_.slots.size ≤ ((0 : Int32)).toNatClampNeg) := inb_of S1_ ⟨by decide, by decide⟩
  obtain ⟨T1_, h1_, X1_, e1_, W1_, st1_⟩ := stC X0 hx hZ e0 Ar1_ (j := (0 : Int32)) hin1_ (g := (mkF m 44 #[.val (.ref a), .val (.int (0 : Int32)), .val (.int x), .unset] [(.int (x.toUInt32.toUInt16.toUInt32.toInt32)), (.int (0 : Int32)), (.ref a)])) rfl rfl (hb hby own_d_4_44)
  have V1_ := Arv.set Ar1_ q1_ S1_ M1_ H1_ G1_ (fits_nar_char _) W1_ 0 rfl (Nat.le_of_ble_eq_true rfl)
  have U1_ : Arv Z h1_ a ka .char (4 : Int32) [(.int x), (.int el1), (.int el2), (.int el3)] (.int 0) := by
    have hq := V1_
    rw [show nar .char (x.toUInt32.toUInt16.toUInt32.toInt32) = x from (own_x_nar hx_)] at hq
    exact hq
  have N1_ := Fr.snoc X1_ N0 ga
  refine own_via (fun _ k => st1_ _ k) ?_
  show own_Fin _ _ _ _ _ _ _ T1_ (mkF m 45 #[.val (.ref a), .val (.int (0 : Int32)), .val (.int x), .unset] [])
  refine own_via (fun _ k => XS.iloadN X1_.here hx rfl (hb hby own_d_4_45) rfl k) ?_
  show own_Fin _ _ _ _ _ _ _ T1_ (mkF m 46 #[.val (.ref a), .val (.int (0 : Int32)), .val (.int x), .unset] [(.int (0 : Int32))])
  refine own_via (fun _ k => XS.iconst X1_.here hx rfl (hb hby own_d_4_46) k) ?_
  show own_Fin _ _ _ _ _ _ _ T1_ (mkF m 47 #[.val (.ref a), .val (.int (0 : Int32)), .val (.int x), .unset] [(.int (1 : Int32)), (.int (0 : Int32))])
  refine own_via (fun _ k => XS.iadd X1_.here hx rfl (hb hby own_d_4_47) rfl k) ?_
  show own_Fin _ _ _ _ _ _ _ T1_ (mkF m 48 #[.val (.ref a), .val (.int (0 : Int32)), .val (.int x), .unset] [(.int ((0 : Int32) + (1 : Int32)))])
  exact own_retI X1_ hx Bd.returns Bd.notSynchronized (hb hby own_d_4_48) e1_ (by decide) ⟨rfl, N1_, ((Keep.refl h0 [a]).wr W1_ (Or.inl (List.mem_of_getElem? (i := 0) rfl))), U1_⟩ (by decide) (by decide)
theorem own_d_4_6 : decode method_4_code 6 = .ok (.iload_n 2, 1) := by decide +kernel
theorem own_d_4_7 : decode method_4_code 7 = .ok (.ldc 33, 2) := by decide +kernel
theorem own_d_4_9 : decode method_4_code 9 = .ok (.isub, 1) := by decide +kernel
theorem own_d_4_10 : decode method_4_code 10 = .ok (.istore_n 3, 1) := by decide +kernel
theorem own_d_4_11 : decode method_4_code 11 = .ok (.aload_n 0, 1) := by decide +kernel
theorem own_d_4_12 : decode method_4_code 12 = .ok (.iload_n 1, 1) := by decide +kernel
theorem own_d_4_13 : decode method_4_code 13 = .ok (.ldc 31, 2) := by decide +kernel
theorem own_d_4_15 : decode method_4_code 15 = .ok (.iload_n 3, 1) := by decide +kernel
theorem own_d_4_16 : decode method_4_code 16 = .ok (.bipush 10, 2) := by decide +kernel
theorem own_d_4_18 : decode method_4_code 18 = .ok (.iushr, 1) := by decide +kernel
theorem own_d_4_19 : decode method_4_code 19 = .ok (.iadd, 1) := by decide +kernel
theorem own_d_4_20 : decode method_4_code 20 = .ok (.i2c, 1) := by decide +kernel
theorem own_d_4_21 : decode method_4_code 21 = .ok (.castore, 1) := by decide +kernel
theorem own_d_4_22 : decode method_4_code 22 = .ok (.aload_n 0, 1) := by decide +kernel
theorem own_d_4_23 : decode method_4_code 23 = .ok (.iload_n 1, 1) := by decide +kernel
theorem own_d_4_24 : decode method_4_code 24 = .ok (.iconst 1, 1) := by decide +kernel
theorem own_d_4_25 : decode method_4_code 25 = .ok (.iadd, 1) := by decide +kernel
theorem own_d_4_26 : decode method_4_code 26 = .ok (.ldc 35, 2) := by decide +kernel
theorem own_d_4_28 : decode method_4_code 28 = .ok (.iload_n 3, 1) := by decide +kernel
theorem own_d_4_29 : decode method_4_code 29 = .ok (.sipush 1023, 3) := by decide +kernel
theorem own_d_4_32 : decode method_4_code 32 = .ok (.iand, 1) := by decide +kernel
theorem own_d_4_33 : decode method_4_code 33 = .ok (.iadd, 1) := by decide +kernel
theorem own_d_4_34 : decode method_4_code 34 = .ok (.i2c, 1) := by decide +kernel
theorem own_d_4_35 : decode method_4_code 35 = .ok (.castore, 1) := by decide +kernel
theorem own_d_4_36 : decode method_4_code 36 = .ok (.iload_n 1, 1) := by decide +kernel
theorem own_d_4_37 : decode method_4_code 37 = .ok (.iconst 2, 1) := by decide +kernel
theorem own_d_4_38 : decode method_4_code 38 = .ok (.iadd, 1) := by decide +kernel
theorem own_d_4_39 : decode method_4_code 39 = .ok (.ireturn, 1) := by decide +kernel
theorem own_ef_put01 (m : MethodId) (a : Addr) (x : Int32) : entryFrame m #[(.ref a), (.int (0 : Int32)), (.int x)] 4 = mkF m 0 #[.val (.ref a), .val (.int (0 : Int32)), .val (.int x), .unset] [] := by (first | (simp [entryFrame, mkF, argsToLocals, Value.category]; done) | rfl)
def own_Q_put01 (Z : State) (a : Addr) (ka : ClassId) (x : Int32) (el0 : Int32) (el1 : Int32) (el2 : Int32) (el3 : Int32) (h0 : Heap) (n0 : Nat) (vq : Option Value) (h : Heap) (Lq : List Loc) : Prop := (vq = some (.int (2 : Int32))) ∧ (Fr n0 Lq) ∧ (Keep h0 h [a]) ∧ (Arv Z h a ka .char (4 : Int32) [(.int (own_hs x)), (.int (own_ls x)), (.int el2), (.int el3)] (.int 0))
set_option maxRecDepth 65536 in
set_option maxHeartbeats 40000000 in
theorem own_rm_put01 (l : Launch) (Z : State) (a0 : Array Value) (hw : ∀ d ∈ tables_1, d.before a0 Z = true) (wsq : List Jvm.Cond) (a : Addr) (ka : ClassId) (x : Int32) (el0 : Int32) (el1 : Int32) (el2 : Int32) (el3 : Int32) (h0 : Heap) (n0 : Nat) (Z0 : n0 ≤ h0.size) (Va : Arv Z h0 a ka .char (4 : Int32) [(.int el0), (.int el1), (.int el2), (.int el3)] (.int 0)) (ga : n0 ≤ a) (hx_ : own_sup x) :
    MetFree l (⟨"com/example/co_occurrence_ranking/cooccurrenceranking/io/LineReaderCompareFieldsPinLaw", "put", "([CII)I"⟩ : MethodName) (head1 (Jvm.Cond.code (⟨"com/example/co_occurrence_ranking/cooccurrenceranking/io/LineReaderCompareFieldsPinLaw", "put", "([CII)I"⟩ : MethodName) method_4_code 4 (some .int) :: wsq) ({ frames := 0, cells := 0, slots := 0, locals := 0 } : Room)) (fun aq Uq => aq = #[(.ref a), (.int (0 : Int32)), (.int x)] ∧ Z.Warmed39 Uq.vm ∧ Uq.heap = h0) (fun _ _ _ _ _ => True) (fun _ Uq oq Uq' => ∃ vq Lq, oq = .returned vq ∧ own_Q_put01 Z a ka x el0 el1 el2 el3 h0 n0 vq Uq'.heap Lq ∧ FrameEnd Uq oq Uq' Lq ({ frames := 0, cells := 0, slots := 0, locals := 0 } : Room).cells ({ frames := 0, cells := 0, slots := 0, locals := 0 } : Room).slots) := by
  refine MetFree.of_bodySF (plainFor_of_name own_pn6) hisR ?_
  intro p e s m args below meth cde s₁ Bd hml0 hP hK
  obtain ⟨rfl, hZ, hh⟩ := hP
  have hx := Bd.exec
  have hby := Bd.bytes
  have hml : cde.maxLocals = 4 := hml0
  have hown : s.vm.findClass "com/example/co_occurrence_ranking/cooccurrenceranking/io/LineReaderCompareFieldsPinLaw" = some m.cls := findClass_of_methodNamed Bd.named
  have hnm := (name_of_methodNamed Bd.named Bd.method).1
  have X0 : Stand p l e ({ frames := 0, cells := 0, slots := 0, locals := 0 } : Room) s m #[(.ref a), (.int (0 : Int32)), (.int x)] below meth cde s₁ [] 0 0 := Stand.of_body Bd
  have e0 : s₁.heap = h0 := by rw [← hh, Bd.state]; rfl
  have N0 := Fr.nil n0
  show own_Fin p e s below (own_Q_put01 Z a ka x el0 el1 el2 el3 h0 n0) ({ frames := 0, cells := 0, slots := 0, locals := 0 } : Room).cells ({ frames := 0, cells := 0, slots := 0, locals := 0 } : Room).slots s₁ (entryFrame m #[(.ref a), (.int (0 : Int32)), (.int x)] 4)
  rw [own_ef_put01 m a x]
  refine own_via (fun _ k => XS.iloadN X0.here hx rfl (hb hby own_d_4_0) rfl k) ?_
  show own_Fin _ _ _ _ _ _ _ s₁ (mkF m 1 #[.val (.ref a), .val (.int (0 : Int32)), .val (.int x), .unset] [(.int x)])
  refine own_via (fun _ k => X0.ldcInt hx hown (mvT hZ (hw _ (List.mem_of_getElem? (i := 6) rfl))) (g := (mkF m 1 #[.val (.ref a), .val (.int (0 : Int32)), .val (.int x), .unset] [(.int x)])) rfl (hb hby own_d_4_1) _ k) ?_
  show own_Fin _ _ _ _ _ _ _ s₁ (mkF m 3 #[.val (.ref a), .val (.int (0 : Int32)), .val (.int x), .unset] [(.int (65536 : Int32)), (.int x)])
  refine own_via (fun _ k => XS.icmpNo X0.here hx rfl (hb hby own_d_4_3) rfl (flt (own_sup_nlt hx_)).1 k) ?_
  show own_Fin _ _ _ _ _ _ _ s₁ (mkF m 6 #[.val (.ref a), .val (.int (0 : Int32)), .val (.int x), .unset] [])
  refine own_via (fun _ k => XS.iloadN X0.here hx rfl (hb hby own_d_4_6) rfl k) ?_
  show own_Fin _ _ _ _ _ _ _ s₁ (mkF m 7 #[.val (.ref a), .val (.int (0 : Int32)), .val (.int x), .unset] [(.int x)])
  refine own_via (fun _ k => X0.ldcInt hx hown (mvT hZ (hw _ (List.mem_of_getElem? (i := 6) rfl))) (g := (mkF m 7 #[.val (.ref a), .val (.int (0 : Int32)), .val (.int x), .unset] [(.int x)])) rfl (hb hby own_d_4_7) _ k) ?_
  show own_Fin _ _ _ _ _ _ _ s₁ (mkF m 9 #[.val (.ref a), .val (.int (0 : Int32)), .val (.int x), .unset] [(.int (65536 : Int32)), (.int x)])
  refine own_via (fun _ k => XS.isub X0.here hx rfl (hb hby own_d_4_9) rfl k) ?_
  show own_Fin _ _ _ _ _ _ _ s₁ (mkF m 10 #[.val (.ref a), .val (.int (0 : Int32)), .val (.int x), .unset] [(.int (x - (65536 : Int32)))])
  refine own_via (fun _ k => XS.istoreN X0.here hx rfl (hb hby own_d_4_10) rfl (l' := #[.val (.ref a), .val (.int (0 : Int32)), .val (.int x), .val (.int (x - (65536 : Int32)))]) rfl k) ?_
  show own_Fin _ _ _ _ _ _ _ s₁ (mkF m 11 #[.val (.ref a), .val (.int (0 : Int32)), .val (.int x), .val (.int (x - (65536 : Int32)))] [])
  refine own_via (fun _ k => XS.aloadN X0.here hx rfl (hb hby own_d_4_11) rfl rfl k) ?_
  show own_Fin _ _ _ _ _ _ _ s₁ (mkF m 12 #[.val (.ref a), .val (.int (0 : Int32)), .val (.int x), .val (.int (x - (65536 : Int32)))] [(.ref a)])
  refine own_via (fun _ k => XS.iloadN X0.here hx rfl (hb hby own_d_4_12) rfl k) ?_
  show own_Fin _ _ _ _ _ _ _ s₁ (mkF m 13 #[.val (.ref a), .val (.int (0 : Int32)), .val (.int x), .val (.int (x - (65536 : Int32)))] [(.int (0 : Int32)), (.ref a)])
  refine own_via (fun _ k => X0.ldcInt hx hown (mvT hZ (hw _ (List.mem_of_getElem? (i := 5) rfl))) (g := (mkF m 13 #[.val (.ref a), .val (.int (0 : Int32)), .val (.int x), .val (.int (x - (65536 : Int32)))] [(.int (0 : Int32)), (.ref a)])) rfl (hb hby own_d_4_13) _ k) ?_
  show own_Fin _ _ _ _ _ _ _ s₁ (mkF m 15 #[.val (.ref a), .val (.int (0 : Int32)), .val (.int x), .val (.int (x - (65536 : Int32)))] [(.int (55296 : Int32)), (.int (0 : Int32)), (.ref a)])
  refine own_via (fun _ k => XS.iloadN X0.here hx rfl (hb hby own_d_4_15) rfl k) ?_
  show own_Fin _ _ _ _ _ _ _ s₁ (mkF m 16 #[.val (.ref a), .val (.int (0 : Int32)), .val (.int x), .val (.int (x - (65536 : Int32)))] [(.int (x - (65536 : Int32))), (.int (55296 : Int32)), (.int (0 : Int32)), (.ref a)])
  refine own_via (fun _ k => XS.bipush X0.here hx rfl (hb hby own_d_4_16) k) ?_
  show own_Fin _ _ _ _ _ _ _ s₁ (mkF m 18 #[.val (.ref a), .val (.int (0 : Int32)), .val (.int x), .val (.int (x - (65536 : Int32)))] [(.int (10 : Int32)), (.int (x - (65536 : Int32))), (.int (55296 : Int32)), (.int (0 : Int32)), (.ref a)])
  refine own_via (fun _ k => XS.iushr X0.here hx rfl (hb hby own_d_4_18) rfl k) ?_
  show own_Fin _ _ _ _ _ _ _ s₁ (mkF m 19 #[.val (.ref a), .val (.int (0 : Int32)), .val (.int x), .val (.int (x - (65536 : Int32)))] [(.int (((x - (65536 : Int32)).toUInt32 >>> ((10 : Int32) &&& 31).toUInt32).toInt32)), (.int (55296 : Int32)), (.int (0 : Int32)), (.ref a)])
  refine own_via (fun _ k => XS.iadd X0.here hx rfl (hb hby own_d_4_19) rfl k) ?_
  show own_Fin _ _ _ _ _ _ _ s₁ (mkF m 20 #[.val (.ref a), .val (.int (0 : Int32)), .val (.int x), .val (.int (x - (65536 : Int32)))] [(.int ((55296 : Int32) + (((x - (65536 : Int32)).toUInt32 >>> ((10 : Int32) &&& 31).toUInt32).toInt32))), (.int (0 : Int32)), (.ref a)])
  refine own_via (fun _ k => XS.i2c X0.here hx rfl (hb hby own_d_4_20) rfl k) ?_
  show own_Fin _ _ _ _ _ _ _ s₁ (mkF m 21 #[.val (.ref a), .val (.int (0 : Int32)), .val (.int x), .val (.int (x - (65536 : Int32)))] [(.int (((55296 : Int32) + (((x - (65536 : Int32)).toUInt32 >>> ((10 : Int32) &&& 31).toUInt32).toInt32)).toUInt32.toUInt16.toUInt32.toInt32)), (.int (0 : Int32)), (.ref a)])
  obtain ⟨c1_, Ar1_, q1_, S1_, M1_, H1_, G1_⟩ := (id Va)
  have hin1_ : ¬ ((0 : Int32) < 0 ∨ c1_.slots.size ≤ ((0 : Int32)).toNatClampNeg) := inb_of S1_ ⟨by decide, by decide⟩
  obtain ⟨T1_, h1_, X1_, e1_, W1_, st1_⟩ := stC X0 hx hZ e0 Ar1_ (j := (0 : Int32)) hin1_ (g := (mkF m 21 #[.val (.ref a), .val (.int (0 : Int32)), .val (.int x), .val (.int (x - (65536 : Int32)))] [(.int (((55296 : Int32) + (((x - (65536 : Int32)).toUInt32 >>> ((10 : Int32) &&& 31).toUInt32).toInt32)).toUInt32.toUInt16.toUInt32.toInt32)), (.int (0 : Int32)), (.ref a)])) rfl rfl (hb hby own_d_4_21)
  have V1_ := Arv.set Ar1_ q1_ S1_ M1_ H1_ G1_ (fits_nar_char _) W1_ 0 rfl (Nat.le_of_ble_eq_true rfl)
  have U1_ : Arv Z h1_ a ka .char (4 : Int32) [(.int (own_hs x)), (.int el1), (.int el2), (.int el3)] (.int 0) := by
    have hq := V1_
    rw [show nar .char (((55296 : Int32) + (((x - (65536 : Int32)).toUInt32 >>> ((10 : Int32) &&& 31).toUInt32).toInt32)).toUInt32.toUInt16.toUInt32.toInt32) = (own_hs x) from (own_hs_nar hx_)] at hq
    exact hq
  have N1_ := Fr.snoc X1_ N0 ga
  refine own_via (fun _ k => st1_ _ k) ?_
  show own_Fin _ _ _ _ _ _ _ T1_ (mkF m 22 #[.val (.ref a), .val (.int (0 : Int32)), .val (.int x), .val (.int (x - (65536 : Int32)))] [])
  refine own_via (fun _ k => XS.aloadN X1_.here hx rfl (hb hby own_d_4_22) rfl rfl k) ?_
  show own_Fin _ _ _ _ _ _ _ T1_ (mkF m 23 #[.val (.ref a), .val (.int (0 : Int32)), .val (.int x), .val (.int (x - (65536 : Int32)))] [(.ref a)])
  refine own_via (fun _ k => XS.iloadN X1_.here hx rfl (hb hby own_d_4_23) rfl k) ?_
  show own_Fin _ _ _ _ _ _ _ T1_ (mkF m 24 #[.val (.ref a), .val (.int (0 : Int32)), .val (.int x), .val (.int (x - (65536 : Int32)))] [(.int (0 : Int32)), (.ref a)])
  refine own_via (fun _ k => XS.iconst X1_.here hx rfl (hb hby own_d_4_24) k) ?_
  show own_Fin _ _ _ _ _ _ _ T1_ (mkF m 25 #[.val (.ref a), .val (.int (0 : Int32)), .val (.int x), .val (.int (x - (65536 : Int32)))] [(.int (1 : Int32)), (.int (0 : Int32)), (.ref a)])
  refine own_via (fun _ k => XS.iadd X1_.here hx rfl (hb hby own_d_4_25) rfl k) ?_
  show own_Fin _ _ _ _ _ _ _ T1_ (mkF m 26 #[.val (.ref a), .val (.int (0 : Int32)), .val (.int x), .val (.int (x - (65536 : Int32)))] [(.int ((0 : Int32) + (1 : Int32))), (.ref a)])
  refine own_via (fun _ k => X1_.ldcInt hx hown (mvT hZ (hw _ (List.mem_of_getElem? (i := 68) rfl))) (g := (mkF m 26 #[.val (.ref a), .val (.int (0 : Int32)), .val (.int x), .val (.int (x - (65536 : Int32)))] [(.int ((0 : Int32) + (1 : Int32))), (.ref a)])) rfl (hb hby own_d_4_26) _ k) ?_
  show own_Fin _ _ _ _ _ _ _ T1_ (mkF m 28 #[.val (.ref a), .val (.int (0 : Int32)), .val (.int x), .val (.int (x - (65536 : Int32)))] [(.int (56320 : Int32)), (.int ((0 : Int32) + (1 : Int32))), (.ref a)])
  refine own_via (fun _ k => XS.iloadN X1_.here hx rfl (hb hby own_d_4_28) rfl k) ?_
  show own_Fin _ _ _ _ _ _ _ T1_ (mkF m 29 #[.val (.ref a), .val (.int (0 : Int32)), .val (.int x), .val (.int (x - (65536 : Int32)))] [(.int (x - (65536 : Int32))), (.int (56320 : Int32)), (.int ((0 : Int32) + (1 : Int32))), (.ref a)])
  refine own_via (fun _ k => XS.sipush X1_.here hx rfl (hb hby own_d_4_29) k) ?_
  show own_Fin _ _ _ _ _ _ _ T1_ (mkF m 32 #[.val (.ref a), .val (.int (0 : Int32)), .val (.int x), .val (.int (x - (65536 : Int32)))] [(.int (1023 : Int32)), (.int (x - (65536 : Int32))), (.int (56320 : Int32)), (.int ((0 : Int32) + (1 : Int32))), (.ref a)])
  refine own_via (fun _ k => XS.iand X1_.here hx rfl (hb hby own_d_4_32) rfl k) ?_
  show own_Fin _ _ _ _ _ _ _ T1_ (mkF m 33 #[.val (.ref a), .val (.int (0 : Int32)), .val (.int x), .val (.int (x - (65536 : Int32)))] [(.int ((x - (65536 : Int32)) &&& (1023 : Int32))), (.int (56320 : Int32)), (.int ((0 : Int32) + (1 : Int32))), (.ref a)])
  refine own_via (fun _ k => XS.iadd X1_.here hx rfl (hb hby own_d_4_33) rfl k) ?_
  show own_Fin _ _ _ _ _ _ _ T1_ (mkF m 34 #[.val (.ref a), .val (.int (0 : Int32)), .val (.int x), .val (.int (x - (65536 : Int32)))] [(.int ((56320 : Int32) + ((x - (65536 : Int32)) &&& (1023 : Int32)))), (.int ((0 : Int32) + (1 : Int32))), (.ref a)])
  refine own_via (fun _ k => XS.i2c X1_.here hx rfl (hb hby own_d_4_34) rfl k) ?_
  show own_Fin _ _ _ _ _ _ _ T1_ (mkF m 35 #[.val (.ref a), .val (.int (0 : Int32)), .val (.int x), .val (.int (x - (65536 : Int32)))] [(.int (((56320 : Int32) + ((x - (65536 : Int32)) &&& (1023 : Int32))).toUInt32.toUInt16.toUInt32.toInt32)), (.int ((0 : Int32) + (1 : Int32))), (.ref a)])
  obtain ⟨c2_, Ar2_, q2_, S2_, M2_, H2_, G2_⟩ := (id U1_)
  have hin2_ : ¬ (((0 : Int32) + (1 : Int32)) < 0 ∨ c2_.slots.size ≤ (((0 : Int32) + (1 : Int32))).toNatClampNeg) := inb_of S2_ ⟨by decide, by decide⟩
  obtain ⟨T2_, h2_, X2_, e2_, W2_, st2_⟩ := stC X1_ hx hZ e1_ Ar2_ (j := ((0 : Int32) + (1 : Int32))) hin2_ (g := (mkF m 35 #[.val (.ref a), .val (.int (0 : Int32)), .val (.int x), .val (.int (x - (65536 : Int32)))] [(.int (((56320 : Int32) + ((x - (65536 : Int32)) &&& (1023 : Int32))).toUInt32.toUInt16.toUInt32.toInt32)), (.int ((0 : Int32) + (1 : Int32))), (.ref a)])) rfl rfl (hb hby own_d_4_35)
  have V2_ := Arv.set Ar2_ q2_ S2_ M2_ H2_ G2_ (fits_nar_char _) W2_ 1 rfl (Nat.le_of_ble_eq_true rfl)
  have U2_ : Arv Z h2_ a ka .char (4 : Int32) [(.int (own_hs x)), (.int (own_ls x)), (.int el2), (.int el3)] (.int 0) := by
    have hq := V2_
    rw [show nar .char (((56320 : Int32) + ((x - (65536 : Int32)) &&& (1023 : Int32))).toUInt32.toUInt16.toUInt32.toInt32) = (own_ls x) from (own_ls_nar hx_)] at hq
    exact hq
  have N2_ := Fr.snoc X2_ N1_ ga
  refine own_via (fun _ k => st2_ _ k) ?_
  show own_Fin _ _ _ _ _ _ _ T2_ (mkF m 36 #[.val (.ref a), .val (.int (0 : Int32)), .val (.int x), .val (.int (x - (65536 : Int32)))] [])
  refine own_via (fun _ k => XS.iloadN X2_.here hx rfl (hb hby own_d_4_36) rfl k) ?_
  show own_Fin _ _ _ _ _ _ _ T2_ (mkF m 37 #[.val (.ref a), .val (.int (0 : Int32)), .val (.int x), .val (.int (x - (65536 : Int32)))] [(.int (0 : Int32))])
  refine own_via (fun _ k => XS.iconst X2_.here hx rfl (hb hby own_d_4_37) k) ?_
  show own_Fin _ _ _ _ _ _ _ T2_ (mkF m 38 #[.val (.ref a), .val (.int (0 : Int32)), .val (.int x), .val (.int (x - (65536 : Int32)))] [(.int (2 : Int32)), (.int (0 : Int32))])
  refine own_via (fun _ k => XS.iadd X2_.here hx rfl (hb hby own_d_4_38) rfl k) ?_
  show own_Fin _ _ _ _ _ _ _ T2_ (mkF m 39 #[.val (.ref a), .val (.int (0 : Int32)), .val (.int x), .val (.int (x - (65536 : Int32)))] [(.int ((0 : Int32) + (2 : Int32)))])
  exact own_retI X2_ hx Bd.returns Bd.notSynchronized (hb hby own_d_4_39) e2_ (by decide) ⟨rfl, N2_, (((Keep.refl h0 [a]).wr W1_ (Or.inl (List.mem_of_getElem? (i := 0) rfl))).wr W2_ (Or.inl (List.mem_of_getElem? (i := 0) rfl))), U2_⟩ (by decide) (by decide)
theorem own_ef_put10 (m : MethodId) (a : Addr) (x : Int32) : entryFrame m #[(.ref a), (.int (1 : Int32)), (.int x)] 4 = mkF m 0 #[.val (.ref a), .val (.int (1 : Int32)), .val (.int x), .unset] [] := by (first | (simp [entryFrame, mkF, argsToLocals, Value.category]; done) | rfl)
def own_Q_put10 (Z : State) (a : Addr) (ka : ClassId) (x : Int32) (el0 : Int32) (el1 : Int32) (el2 : Int32) (el3 : Int32) (h0 : Heap) (n0 : Nat) (vq : Option Value) (h : Heap) (Lq : List Loc) : Prop := (vq = some (.int (2 : Int32))) ∧ (Fr n0 Lq) ∧ (Keep h0 h [a]) ∧ (Arv Z h a ka .char (4 : Int32) [(.int el0), (.int x), (.int el2), (.int el3)] (.int 0))
set_option maxRecDepth 65536 in
set_option maxHeartbeats 40000000 in
theorem own_rm_put10 (l : Launch) (Z : State) (a0 : Array Value) (hw : ∀ d ∈ tables_1, d.before a0 Z = true) (wsq : List Jvm.Cond) (a : Addr) (ka : ClassId) (x : Int32) (el0 : Int32) (el1 : Int32) (el2 : Int32) (el3 : Int32) (h0 : Heap) (n0 : Nat) (Z0 : n0 ≤ h0.size) (Va : Arv Z h0 a ka .char (4 : Int32) [(.int el0), (.int el1), (.int el2), (.int el3)] (.int 0)) (ga : n0 ≤ a) (hx_ : own_bmp x) :
    MetFree l (⟨"com/example/co_occurrence_ranking/cooccurrenceranking/io/LineReaderCompareFieldsPinLaw", "put", "([CII)I"⟩ : MethodName) (head1 (Jvm.Cond.code (⟨"com/example/co_occurrence_ranking/cooccurrenceranking/io/LineReaderCompareFieldsPinLaw", "put", "([CII)I"⟩ : MethodName) method_4_code 4 (some .int) :: wsq) ({ frames := 0, cells := 0, slots := 0, locals := 0 } : Room)) (fun aq Uq => aq = #[(.ref a), (.int (1 : Int32)), (.int x)] ∧ Z.Warmed39 Uq.vm ∧ Uq.heap = h0) (fun _ _ _ _ _ => True) (fun _ Uq oq Uq' => ∃ vq Lq, oq = .returned vq ∧ own_Q_put10 Z a ka x el0 el1 el2 el3 h0 n0 vq Uq'.heap Lq ∧ FrameEnd Uq oq Uq' Lq ({ frames := 0, cells := 0, slots := 0, locals := 0 } : Room).cells ({ frames := 0, cells := 0, slots := 0, locals := 0 } : Room).slots) := by
  refine MetFree.of_bodySF (plainFor_of_name own_pn6) hisR ?_
  intro p e s m args below meth cde s₁ Bd hml0 hP hK
  obtain ⟨rfl, hZ, hh⟩ := hP
  have hx := Bd.exec
  have hby := Bd.bytes
  have hml : cde.maxLocals = 4 := hml0
  have hown : s.vm.findClass "com/example/co_occurrence_ranking/cooccurrenceranking/io/LineReaderCompareFieldsPinLaw" = some m.cls := findClass_of_methodNamed Bd.named
  have hnm := (name_of_methodNamed Bd.named Bd.method).1
  have X0 : Stand p l e ({ frames := 0, cells := 0, slots := 0, locals := 0 } : Room) s m #[(.ref a), (.int (1 : Int32)), (.int x)] below meth cde s₁ [] 0 0 := Stand.of_body Bd
  have e0 : s₁.heap = h0 := by rw [← hh, Bd.state]; rfl
  have N0 := Fr.nil n0
  show own_Fin p e s below (own_Q_put10 Z a ka x el0 el1 el2 el3 h0 n0) ({ frames := 0, cells := 0, slots := 0, locals := 0 } : Room).cells ({ frames := 0, cells := 0, slots := 0, locals := 0 } : Room).slots s₁ (entryFrame m #[(.ref a), (.int (1 : Int32)), (.int x)] 4)
  rw [own_ef_put10 m a x]
  refine own_via (fun _ k => XS.iloadN X0.here hx rfl (hb hby own_d_4_0) rfl k) ?_
  show own_Fin _ _ _ _ _ _ _ s₁ (mkF m 1 #[.val (.ref a), .val (.int (1 : Int32)), .val (.int x), .unset] [(.int x)])
  refine own_via (fun _ k => X0.ldcInt hx hown (mvT hZ (hw _ (List.mem_of_getElem? (i := 6) rfl))) (g := (mkF m 1 #[.val (.ref a), .val (.int (1 : Int32)), .val (.int x), .unset] [(.int x)])) rfl (hb hby own_d_4_1) _ k) ?_
  show own_Fin _ _ _ _ _ _ _ s₁ (mkF m 3 #[.val (.ref a), .val (.int (1 : Int32)), .val (.int x), .unset] [(.int (65536 : Int32)), (.int x)])
  refine own_via (fun _ k => XS.icmpYes X0.here hx rfl (pc0 := 3) (pc' := 40) rfl (hb hby own_d_4_3) rfl (tlt (own_bmp_lt hx_)).1 (by decide) (by decide) k) ?_
  show own_Fin _ _ _ _ _ _ _ s₁ (mkF m 40 #[.val (.ref a), .val (.int (1 : Int32)), .val (.int x), .unset] [])
  refine own_via (fun _ k => XS.aloadN X0.here hx rfl (hb hby own_d_4_40) rfl rfl k) ?_
  show own_Fin _ _ _ _ _ _ _ s₁ (mkF m 41 #[.val (.ref a), .val (.int (1 : Int32)), .val (.int x), .unset] [(.ref a)])
  refine own_via (fun _ k => XS.iloadN X0.here hx rfl (hb hby own_d_4_41) rfl k) ?_
  show own_Fin _ _ _ _ _ _ _ s₁ (mkF m 42 #[.val (.ref a), .val (.int (1 : Int32)), .val (.int x), .unset] [(.int (1 : Int32)), (.ref a)])
  refine own_via (fun _ k => XS.iloadN X0.here hx rfl (hb hby own_d_4_42) rfl k) ?_
  show own_Fin _ _ _ _ _ _ _ s₁ (mkF m 43 #[.val (.ref a), .val (.int (1 : Int32)), .val (.int x), .unset] [(.int x), (.int (1 : Int32)), (.ref a)])
  refine own_via (fun _ k => XS.i2c X0.here hx rfl (hb hby own_d_4_43) rfl k) ?_
  show own_Fin _ _ _ _ _ _ _ s₁ (mkF m 44 #[.val (.ref a), .val (.int (1 : Int32)), .val (.int x), .unset] [(.int (x.toUInt32.toUInt16.toUInt32.toInt32)), (.int (1 : Int32)), (.ref a)])
  obtain ⟨c1_, Ar1_, q1_, S1_, M1_, H1_, G1_⟩ := (id Va)
  have hin1_ : ¬ ((1 : Int32) < 0 ∨ c1_.slots.size ≤ ((1 : Int32)).toNatClampNeg) := inb_of S1_ ⟨by decide, by decide⟩
  obtain ⟨T1_, h1_, X1_, e1_, W1_, st1_⟩ := stC X0 hx hZ e0 Ar1_ (j := (1 : Int32)) hin1_ (g := (mkF m 44 #[.val (.ref a), .val (.int (1 : Int32)), .val (.int x), .unset] [(.int (x.toUInt32.toUInt16.toUInt32.toInt32)), (.int (1 : Int32)), (.ref a)])) rfl rfl (hb hby own_d_4_44)
  have V1_ := Arv.set Ar1_ q1_ S1_ M1_ H1_ G1_ (fits_nar_char _) W1_ 1 rfl (Nat.le_of_ble_eq_true rfl)
  have U1_ : Arv Z h1_ a ka .char (4 : Int32) [(.int el0), (.int x), (.int el2), (.int el3)] (.int 0) := by
    have hq := V1_
    rw [show nar .char (x.toUInt32.toUInt16.toUInt32.toInt32) = x from (own_x_nar hx_)] at hq
    exact hq
  have N1_ := Fr.snoc X1_ N0 ga
  refine own_via (fun _ k => st1_ _ k) ?_
  show own_Fin _ _ _ _ _ _ _ T1_ (mkF m 45 #[.val (.ref a), .val (.int (1 : Int32)), .val (.int x), .unset] [])
  refine own_via (fun _ k => XS.iloadN X1_.here hx rfl (hb hby own_d_4_45) rfl k) ?_
  show own_Fin _ _ _ _ _ _ _ T1_ (mkF m 46 #[.val (.ref a), .val (.int (1 : Int32)), .val (.int x), .unset] [(.int (1 : Int32))])
  refine own_via (fun _ k => XS.iconst X1_.here hx rfl (hb hby own_d_4_46) k) ?_
  show own_Fin _ _ _ _ _ _ _ T1_ (mkF m 47 #[.val (.ref a), .val (.int (1 : Int32)), .val (.int x), .unset] [(.int (1 : Int32)), (.int (1 : Int32))])
  refine own_via (fun _ k => XS.iadd X1_.here hx rfl (hb hby own_d_4_47) rfl k) ?_
  show own_Fin _ _ _ _ _ _ _ T1_ (mkF m 48 #[.val (.ref a), .val (.int (1 : Int32)), .val (.int x), .unset] [(.int ((1 : Int32) + (1 : Int32)))])
  exact own_retI X1_ hx Bd.returns Bd.notSynchronized (hb hby own_d_4_48) e1_ (by decide) ⟨rfl, N1_, ((Keep.refl h0 [a]).wr W1_ (Or.inl (List.mem_of_getElem? (i := 0) rfl))), U1_⟩ (by decide) (by decide)
theorem own_ef_put11 (m : MethodId) (a : Addr) (x : Int32) : entryFrame m #[(.ref a), (.int (1 : Int32)), (.int x)] 4 = mkF m 0 #[.val (.ref a), .val (.int (1 : Int32)), .val (.int x), .unset] [] := by (first | (simp [entryFrame, mkF, argsToLocals, Value.category]; done) | rfl)
def own_Q_put11 (Z : State) (a : Addr) (ka : ClassId) (x : Int32) (el0 : Int32) (el1 : Int32) (el2 : Int32) (el3 : Int32) (h0 : Heap) (n0 : Nat) (vq : Option Value) (h : Heap) (Lq : List Loc) : Prop := (vq = some (.int (3 : Int32))) ∧ (Fr n0 Lq) ∧ (Keep h0 h [a]) ∧ (Arv Z h a ka .char (4 : Int32) [(.int el0), (.int (own_hs x)), (.int (own_ls x)), (.int el3)] (.int 0))
set_option maxRecDepth 65536 in
set_option maxHeartbeats 40000000 in
theorem own_rm_put11 (l : Launch) (Z : State) (a0 : Array Value) (hw : ∀ d ∈ tables_1, d.before a0 Z = true) (wsq : List Jvm.Cond) (a : Addr) (ka : ClassId) (x : Int32) (el0 : Int32) (el1 : Int32) (el2 : Int32) (el3 : Int32) (h0 : Heap) (n0 : Nat) (Z0 : n0 ≤ h0.size) (Va : Arv Z h0 a ka .char (4 : Int32) [(.int el0), (.int el1), (.int el2), (.int el3)] (.int 0)) (ga : n0 ≤ a) (hx_ : own_sup x) :
    MetFree l (⟨"com/example/co_occurrence_ranking/cooccurrenceranking/io/LineReaderCompareFieldsPinLaw", "put", "([CII)I"⟩ : MethodName) (head1 (Jvm.Cond.code (⟨"com/example/co_occurrence_ranking/cooccurrenceranking/io/LineReaderCompareFieldsPinLaw", "put", "([CII)I"⟩ : MethodName) method_4_code 4 (some .int) :: wsq) ({ frames := 0, cells := 0, slots := 0, locals := 0 } : Room)) (fun aq Uq => aq = #[(.ref a), (.int (1 : Int32)), (.int x)] ∧ Z.Warmed39 Uq.vm ∧ Uq.heap = h0) (fun _ _ _ _ _ => True) (fun _ Uq oq Uq' => ∃ vq Lq, oq = .returned vq ∧ own_Q_put11 Z a ka x el0 el1 el2 el3 h0 n0 vq Uq'.heap Lq ∧ FrameEnd Uq oq Uq' Lq ({ frames := 0, cells := 0, slots := 0, locals := 0 } : Room).cells ({ frames := 0, cells := 0, slots := 0, locals := 0 } : Room).slots) := by
  refine MetFree.of_bodySF (plainFor_of_name own_pn6) hisR ?_
  intro p e s m args below meth cde s₁ Bd hml0 hP hK
  obtain ⟨rfl, hZ, hh⟩ := hP
  have hx := Bd.exec
  have hby := Bd.bytes
  have hml : cde.maxLocals = 4 := hml0
  have hown : s.vm.findClass "com/example/co_occurrence_ranking/cooccurrenceranking/io/LineReaderCompareFieldsPinLaw" = some m.cls := findClass_of_methodNamed Bd.named
  have hnm := (name_of_methodNamed Bd.named Bd.method).1
  have X0 : Stand p l e ({ frames := 0, cells := 0, slots := 0, locals := 0 } : Room) s m #[(.ref a), (.int (1 : Int32)), (.int x)] below meth cde s₁ [] 0 0 := Stand.of_body Bd
  have e0 : s₁.heap = h0 := by rw [← hh, Bd.state]; rfl
  have N0 := Fr.nil n0
  show own_Fin p e s below (own_Q_put11 Z a ka x el0 el1 el2 el3 h0 n0) ({ frames := 0, cells := 0, slots := 0, locals := 0 } : Room).cells ({ frames := 0, cells := 0, slots := 0, locals := 0 } : Room).slots s₁ (entryFrame m #[(.ref a), (.int (1 : Int32)), (.int x)] 4)
  rw [own_ef_put11 m a x]
  refine own_via (fun _ k => XS.iloadN X0.here hx rfl (hb hby own_d_4_0) rfl k) ?_
  show own_Fin _ _ _ _ _ _ _ s₁ (mkF m 1 #[.val (.ref a), .val (.int (1 : Int32)), .val (.int x), .unset] [(.int x)])
  refine own_via (fun _ k => X0.ldcInt hx hown (mvT hZ (hw _ (List.mem_of_getElem? (i := 6) rfl))) (g := (mkF m 1 #[.val (.ref a), .val (.int (1 : Int32)), .val (.int x), .unset] [(.int x)])) rfl (hb hby own_d_4_1) _ k) ?_
  show own_Fin _ _ _ _ _ _ _ s₁ (mkF m 3 #[.val (.ref a), .val (.int (1 : Int32)), .val (.int x), .unset] [(.int (65536 : Int32)), (.int x)])
  refine own_via (fun _ k => XS.icmpNo X0.here hx rfl (hb hby own_d_4_3) rfl (flt (own_sup_nlt hx_)).1 k) ?_
  show own_Fin _ _ _ _ _ _ _ s₁ (mkF m 6 #[.val (.ref a), .val (.int (1 : Int32)), .val (.int x), .unset] [])
  refine own_via (fun _ k => XS.iloadN X0.here hx rfl (hb hby own_d_4_6) rfl k) ?_
  show own_Fin _ _ _ _ _ _ _ s₁ (mkF m 7 #[.val (.ref a), .val (.int (1 : Int32)), .val (.int x), .unset] [(.int x)])
  refine own_via (fun _ k => X0.ldcInt hx hown (mvT hZ (hw _ (List.mem_of_getElem? (i := 6) rfl))) (g := (mkF m 7 #[.val (.ref a), .val (.int (1 : Int32)), .val (.int x), .unset] [(.int x)])) rfl (hb hby own_d_4_7) _ k) ?_
  show own_Fin _ _ _ _ _ _ _ s₁ (mkF m 9 #[.val (.ref a), .val (.int (1 : Int32)), .val (.int x), .unset] [(.int (65536 : Int32)), (.int x)])
  refine own_via (fun _ k => XS.isub X0.here hx rfl (hb hby own_d_4_9) rfl k) ?_
  show own_Fin _ _ _ _ _ _ _ s₁ (mkF m 10 #[.val (.ref a), .val (.int (1 : Int32)), .val (.int x), .unset] [(.int (x - (65536 : Int32)))])
  refine own_via (fun _ k => XS.istoreN X0.here hx rfl (hb hby own_d_4_10) rfl (l' := #[.val (.ref a), .val (.int (1 : Int32)), .val (.int x), .val (.int (x - (65536 : Int32)))]) rfl k) ?_
  show own_Fin _ _ _ _ _ _ _ s₁ (mkF m 11 #[.val (.ref a), .val (.int (1 : Int32)), .val (.int x), .val (.int (x - (65536 : Int32)))] [])
  refine own_via (fun _ k => XS.aloadN X0.here hx rfl (hb hby own_d_4_11) rfl rfl k) ?_
  show own_Fin _ _ _ _ _ _ _ s₁ (mkF m 12 #[.val (.ref a), .val (.int (1 : Int32)), .val (.int x), .val (.int (x - (65536 : Int32)))] [(.ref a)])
  refine own_via (fun _ k => XS.iloadN X0.here hx rfl (hb hby own_d_4_12) rfl k) ?_
  show own_Fin _ _ _ _ _ _ _ s₁ (mkF m 13 #[.val (.ref a), .val (.int (1 : Int32)), .val (.int x), .val (.int (x - (65536 : Int32)))] [(.int (1 : Int32)), (.ref a)])
  refine own_via (fun _ k => X0.ldcInt hx hown (mvT hZ (hw _ (List.mem_of_getElem? (i := 5) rfl))) (g := (mkF m 13 #[.val (.ref a), .val (.int (1 : Int32)), .val (.int x), .val (.int (x - (65536 : Int32)))] [(.int (1 : Int32)), (.ref a)])) rfl (hb hby own_d_4_13) _ k) ?_
  show own_Fin _ _ _ _ _ _ _ s₁ (mkF m 15 #[.val (.ref a), .val (.int (1 : Int32)), .val (.int x), .val (.int (x - (65536 : Int32)))] [(.int (55296 : Int32)), (.int (1 : Int32)), (.ref a)])
  refine own_via (fun _ k => XS.iloadN X0.here hx rfl (hb hby own_d_4_15) rfl k) ?_
  show own_Fin _ _ _ _ _ _ _ s₁ (mkF m 16 #[.val (.ref a), .val (.int (1 : Int32)), .val (.int x), .val (.int (x - (65536 : Int32)))] [(.int (x - (65536 : Int32))), (.int (55296 : Int32)), (.int (1 : Int32)), (.ref a)])
  refine own_via (fun _ k => XS.bipush X0.here hx rfl (hb hby own_d_4_16) k) ?_
  show own_Fin _ _ _ _ _ _ _ s₁ (mkF m 18 #[.val (.ref a), .val (.int (1 : Int32)), .val (.int x), .val (.int (x - (65536 : Int32)))] [(.int (10 : Int32)), (.int (x - (65536 : Int32))), (.int (55296 : Int32)), (.int (1 : Int32)), (.ref a)])
  refine own_via (fun _ k => XS.iushr X0.here hx rfl (hb hby own_d_4_18) rfl k) ?_
  show own_Fin _ _ _ _ _ _ _ s₁ (mkF m 19 #[.val (.ref a), .val (.int (1 : Int32)), .val (.int x), .val (.int (x - (65536 : Int32)))] [(.int (((x - (65536 : Int32)).toUInt32 >>> ((10 : Int32) &&& 31).toUInt32).toInt32)), (.int (55296 : Int32)), (.int (1 : Int32)), (.ref a)])
  refine own_via (fun _ k => XS.iadd X0.here hx rfl (hb hby own_d_4_19) rfl k) ?_
  show own_Fin _ _ _ _ _ _ _ s₁ (mkF m 20 #[.val (.ref a), .val (.int (1 : Int32)), .val (.int x), .val (.int (x - (65536 : Int32)))] [(.int ((55296 : Int32) + (((x - (65536 : Int32)).toUInt32 >>> ((10 : Int32) &&& 31).toUInt32).toInt32))), (.int (1 : Int32)), (.ref a)])
  refine own_via (fun _ k => XS.i2c X0.here hx rfl (hb hby own_d_4_20) rfl k) ?_
  show own_Fin _ _ _ _ _ _ _ s₁ (mkF m 21 #[.val (.ref a), .val (.int (1 : Int32)), .val (.int x), .val (.int (x - (65536 : Int32)))] [(.int (((55296 : Int32) + (((x - (65536 : Int32)).toUInt32 >>> ((10 : Int32) &&& 31).toUInt32).toInt32)).toUInt32.toUInt16.toUInt32.toInt32)), (.int (1 : Int32)), (.ref a)])
  obtain ⟨c1_, Ar1_, q1_, S1_, M1_, H1_, G1_⟩ := (id Va)
  have hin1_ : ¬ ((1 : Int32) < 0 ∨ c1_.slots.size ≤ ((1 : Int32)).toNatClampNeg) := inb_of S1_ ⟨by decide, by decide⟩
  obtain ⟨T1_, h1_, X1_, e1_, W1_, st1_⟩ := stC X0 hx hZ e0 Ar1_ (j := (1 : Int32)) hin1_ (g := (mkF m 21 #[.val (.ref a), .val (.int (1 : Int32)), .val (.int x), .val (.int (x - (65536 : Int32)))] [(.int (((55296 : Int32) + (((x - (65536 : Int32)).toUInt32 >>> ((10 : Int32) &&& 31).toUInt32).toInt32)).toUInt32.toUInt16.toUInt32.toInt32)), (.int (1 : Int32)), (.ref a)])) rfl rfl (hb hby own_d_4_21)
  have V1_ := Arv.set Ar1_ q1_ S1_ M1_ H1_ G1_ (fits_nar_char _) W1_ 1 rfl (Nat.le_of_ble_eq_true rfl)
  have U1_ : Arv Z h1_ a ka .char (4 : Int32) [(.int el0), (.int (own_hs x)), (.int el2), (.int el3)] (.int 0) := by
    have hq := V1_
    rw [show nar .char (((55296 : Int32) + (((x - (65536 : Int32)).toUInt32 >>> ((10 : Int32) &&& 31).toUInt32).toInt32)).toUInt32.toUInt16.toUInt32.toInt32) = (own_hs x) from (own_hs_nar hx_)] at hq
    exact hq
  have N1_ := Fr.snoc X1_ N0 ga
  refine own_via (fun _ k => st1_ _ k) ?_
  show own_Fin _ _ _ _ _ _ _ T1_ (mkF m 22 #[.val (.ref a), .val (.int (1 : Int32)), .val (.int x), .val (.int (x - (65536 : Int32)))] [])
  refine own_via (fun _ k => XS.aloadN X1_.here hx rfl (hb hby own_d_4_22) rfl rfl k) ?_
  show own_Fin _ _ _ _ _ _ _ T1_ (mkF m 23 #[.val (.ref a), .val (.int (1 : Int32)), .val (.int x), .val (.int (x - (65536 : Int32)))] [(.ref a)])
  refine own_via (fun _ k => XS.iloadN X1_.here hx rfl (hb hby own_d_4_23) rfl k) ?_
  show own_Fin _ _ _ _ _ _ _ T1_ (mkF m 24 #[.val (.ref a), .val (.int (1 : Int32)), .val (.int x), .val (.int (x - (65536 : Int32)))] [(.int (1 : Int32)), (.ref a)])
  refine own_via (fun _ k => XS.iconst X1_.here hx rfl (hb hby own_d_4_24) k) ?_
  show own_Fin _ _ _ _ _ _ _ T1_ (mkF m 25 #[.val (.ref a), .val (.int (1 : Int32)), .val (.int x), .val (.int (x - (65536 : Int32)))] [(.int (1 : Int32)), (.int (1 : Int32)), (.ref a)])
  refine own_via (fun _ k => XS.iadd X1_.here hx rfl (hb hby own_d_4_25) rfl k) ?_
  show own_Fin _ _ _ _ _ _ _ T1_ (mkF m 26 #[.val (.ref a), .val (.int (1 : Int32)), .val (.int x), .val (.int (x - (65536 : Int32)))] [(.int ((1 : Int32) + (1 : Int32))), (.ref a)])
  refine own_via (fun _ k => X1_.ldcInt hx hown (mvT hZ (hw _ (List.mem_of_getElem? (i := 68) rfl))) (g := (mkF m 26 #[.val (.ref a), .val (.int (1 : Int32)), .val (.int x), .val (.int (x - (65536 : Int32)))] [(.int ((1 : Int32) + (1 : Int32))), (.ref a)])) rfl (hb hby own_d_4_26) _ k) ?_
  show own_Fin _ _ _ _ _ _ _ T1_ (mkF m 28 #[.val (.ref a), .val (.int (1 : Int32)), .val (.int x), .val (.int (x - (65536 : Int32)))] [(.int (56320 : Int32)), (.int ((1 : Int32) + (1 : Int32))), (.ref a)])
  refine own_via (fun _ k => XS.iloadN X1_.here hx rfl (hb hby own_d_4_28) rfl k) ?_
  show own_Fin _ _ _ _ _ _ _ T1_ (mkF m 29 #[.val (.ref a), .val (.int (1 : Int32)), .val (.int x), .val (.int (x - (65536 : Int32)))] [(.int (x - (65536 : Int32))), (.int (56320 : Int32)), (.int ((1 : Int32) + (1 : Int32))), (.ref a)])
  refine own_via (fun _ k => XS.sipush X1_.here hx rfl (hb hby own_d_4_29) k) ?_
  show own_Fin _ _ _ _ _ _ _ T1_ (mkF m 32 #[.val (.ref a), .val (.int (1 : Int32)), .val (.int x), .val (.int (x - (65536 : Int32)))] [(.int (1023 : Int32)), (.int (x - (65536 : Int32))), (.int (56320 : Int32)), (.int ((1 : Int32) + (1 : Int32))), (.ref a)])
  refine own_via (fun _ k => XS.iand X1_.here hx rfl (hb hby own_d_4_32) rfl k) ?_
  show own_Fin _ _ _ _ _ _ _ T1_ (mkF m 33 #[.val (.ref a), .val (.int (1 : Int32)), .val (.int x), .val (.int (x - (65536 : Int32)))] [(.int ((x - (65536 : Int32)) &&& (1023 : Int32))), (.int (56320 : Int32)), (.int ((1 : Int32) + (1 : Int32))), (.ref a)])
  refine own_via (fun _ k => XS.iadd X1_.here hx rfl (hb hby own_d_4_33) rfl k) ?_
  show own_Fin _ _ _ _ _ _ _ T1_ (mkF m 34 #[.val (.ref a), .val (.int (1 : Int32)), .val (.int x), .val (.int (x - (65536 : Int32)))] [(.int ((56320 : Int32) + ((x - (65536 : Int32)) &&& (1023 : Int32)))), (.int ((1 : Int32) + (1 : Int32))), (.ref a)])
  refine own_via (fun _ k => XS.i2c X1_.here hx rfl (hb hby own_d_4_34) rfl k) ?_
  show own_Fin _ _ _ _ _ _ _ T1_ (mkF m 35 #[.val (.ref a), .val (.int (1 : Int32)), .val (.int x), .val (.int (x - (65536 : Int32)))] [(.int (((56320 : Int32) + ((x - (65536 : Int32)) &&& (1023 : Int32))).toUInt32.toUInt16.toUInt32.toInt32)), (.int ((1 : Int32) + (1 : Int32))), (.ref a)])
  obtain ⟨c2_, Ar2_, q2_, S2_, M2_, H2_, G2_⟩ := (id U1_)
  have hin2_ : ¬ (((1 : Int32) + (1 : Int32)) < 0 ∨ c2_.slots.size ≤ (((1 : Int32) + (1 : Int32))).toNatClampNeg) := inb_of S2_ ⟨by decide, by decide⟩
  obtain ⟨T2_, h2_, X2_, e2_, W2_, st2_⟩ := stC X1_ hx hZ e1_ Ar2_ (j := ((1 : Int32) + (1 : Int32))) hin2_ (g := (mkF m 35 #[.val (.ref a), .val (.int (1 : Int32)), .val (.int x), .val (.int (x - (65536 : Int32)))] [(.int (((56320 : Int32) + ((x - (65536 : Int32)) &&& (1023 : Int32))).toUInt32.toUInt16.toUInt32.toInt32)), (.int ((1 : Int32) + (1 : Int32))), (.ref a)])) rfl rfl (hb hby own_d_4_35)
  have V2_ := Arv.set Ar2_ q2_ S2_ M2_ H2_ G2_ (fits_nar_char _) W2_ 2 rfl (Nat.le_of_ble_eq_true rfl)
  have U2_ : Arv Z h2_ a ka .char (4 : Int32) [(.int el0), (.int (own_hs x)), (.int (own_ls x)), (.int el3)] (.int 0) := by
    have hq := V2_
    rw [show nar .char (((56320 : Int32) + ((x - (65536 : Int32)) &&& (1023 : Int32))).toUInt32.toUInt16.toUInt32.toInt32) = (own_ls x) from (own_ls_nar hx_)] at hq
    exact hq
  have N2_ := Fr.snoc X2_ N1_ ga
  refine own_via (fun _ k => st2_ _ k) ?_
  show own_Fin _ _ _ _ _ _ _ T2_ (mkF m 36 #[.val (.ref a), .val (.int (1 : Int32)), .val (.int x), .val (.int (x - (65536 : Int32)))] [])
  refine own_via (fun _ k => XS.iloadN X2_.here hx rfl (hb hby own_d_4_36) rfl k) ?_
  show own_Fin _ _ _ _ _ _ _ T2_ (mkF m 37 #[.val (.ref a), .val (.int (1 : Int32)), .val (.int x), .val (.int (x - (65536 : Int32)))] [(.int (1 : Int32))])
  refine own_via (fun _ k => XS.iconst X2_.here hx rfl (hb hby own_d_4_37) k) ?_
  show own_Fin _ _ _ _ _ _ _ T2_ (mkF m 38 #[.val (.ref a), .val (.int (1 : Int32)), .val (.int x), .val (.int (x - (65536 : Int32)))] [(.int (2 : Int32)), (.int (1 : Int32))])
  refine own_via (fun _ k => XS.iadd X2_.here hx rfl (hb hby own_d_4_38) rfl k) ?_
  show own_Fin _ _ _ _ _ _ _ T2_ (mkF m 39 #[.val (.ref a), .val (.int (1 : Int32)), .val (.int x), .val (.int (x - (65536 : Int32)))] [(.int ((1 : Int32) + (2 : Int32)))])
  exact own_retI X2_ hx Bd.returns Bd.notSynchronized (hb hby own_d_4_39) e2_ (by decide) ⟨rfl, N2_, (((Keep.refl h0 [a]).wr W1_ (Or.inl (List.mem_of_getElem? (i := 0) rfl))).wr W2_ (Or.inl (List.mem_of_getElem? (i := 0) rfl))), U2_⟩ (by decide) (by decide)
theorem own_ef_put20 (m : MethodId) (a : Addr) (x : Int32) : entryFrame m #[(.ref a), (.int (2 : Int32)), (.int x)] 4 = mkF m 0 #[.val (.ref a), .val (.int (2 : Int32)), .val (.int x), .unset] [] := by (first | (simp [entryFrame, mkF, argsToLocals, Value.category]; done) | rfl)
def own_Q_put20 (Z : State) (a : Addr) (ka : ClassId) (x : Int32) (el0 : Int32) (el1 : Int32) (el2 : Int32) (el3 : Int32) (h0 : Heap) (n0 : Nat) (vq : Option Value) (h : Heap) (Lq : List Loc) : Prop := (vq = some (.int (3 : Int32))) ∧ (Fr n0 Lq) ∧ (Keep h0 h [a]) ∧ (Arv Z h a ka .char (4 : Int32) [(.int el0), (.int el1), (.int x), (.int el3)] (.int 0))
set_option maxRecDepth 65536 in
set_option maxHeartbeats 40000000 in
theorem own_rm_put20 (l : Launch) (Z : State) (a0 : Array Value) (hw : ∀ d ∈ tables_1, d.before a0 Z = true) (wsq : List Jvm.Cond) (a : Addr) (ka : ClassId) (x : Int32) (el0 : Int32) (el1 : Int32) (el2 : Int32) (el3 : Int32) (h0 : Heap) (n0 : Nat) (Z0 : n0 ≤ h0.size) (Va : Arv Z h0 a ka .char (4 : Int32) [(.int el0), (.int el1), (.int el2), (.int el3)] (.int 0)) (ga : n0 ≤ a) (hx_ : own_bmp x) :
    MetFree l (⟨"com/example/co_occurrence_ranking/cooccurrenceranking/io/LineReaderCompareFieldsPinLaw", "put", "([CII)I"⟩ : MethodName) (head1 (Jvm.Cond.code (⟨"com/example/co_occurrence_ranking/cooccurrenceranking/io/LineReaderCompareFieldsPinLaw", "put", "([CII)I"⟩ : MethodName) method_4_code 4 (some .int) :: wsq) ({ frames := 0, cells := 0, slots := 0, locals := 0 } : Room)) (fun aq Uq => aq = #[(.ref a), (.int (2 : Int32)), (.int x)] ∧ Z.Warmed39 Uq.vm ∧ Uq.heap = h0) (fun _ _ _ _ _ => True) (fun _ Uq oq Uq' => ∃ vq Lq, oq = .returned vq ∧ own_Q_put20 Z a ka x el0 el1 el2 el3 h0 n0 vq Uq'.heap Lq ∧ FrameEnd Uq oq Uq' Lq ({ frames := 0, cells := 0, slots := 0, locals := 0 } : Room).cells ({ frames := 0, cells := 0, slots := 0, locals := 0 } : Room).slots) := by
  refine MetFree.of_bodySF (plainFor_of_name own_pn6) hisR ?_
  intro p e s m args below meth cde s₁ Bd hml0 hP hK
  obtain ⟨rfl, hZ, hh⟩ := hP
  have hx := Bd.exec
  have hby := Bd.bytes
  have hml : cde.maxLocals = 4 := hml0
  have hown : s.vm.findClass "com/example/co_occurrence_ranking/cooccurrenceranking/io/LineReaderCompareFieldsPinLaw" = some m.cls := findClass_of_methodNamed Bd.named
  have hnm := (name_of_methodNamed Bd.named Bd.method).1
  have X0 : Stand p l e ({ frames := 0, cells := 0, slots := 0, locals := 0 } : Room) s m #[(.ref a), (.int (2 : Int32)), (.int x)] below meth cde s₁ [] 0 0 := Stand.of_body Bd
  have e0 : s₁.heap = h0 := by rw [← hh, Bd.state]; rfl
  have N0 := Fr.nil n0
  show own_Fin p e s below (own_Q_put20 Z a ka x el0 el1 el2 el3 h0 n0) ({ frames := 0, cells := 0, slots := 0, locals := 0 } : Room).cells ({ frames := 0, cells := 0, slots := 0, locals := 0 } : Room).slots s₁ (entryFrame m #[(.ref a), (.int (2 : Int32)), (.int x)] 4)
  rw [own_ef_put20 m a x]
  refine own_via (fun _ k => XS.iloadN X0.here hx rfl (hb hby own_d_4_0) rfl k) ?_
  show own_Fin _ _ _ _ _ _ _ s₁ (mkF m 1 #[.val (.ref a), .val (.int (2 : Int32)), .val (.int x), .unset] [(.int x)])
  refine own_via (fun _ k => X0.ldcInt hx hown (mvT hZ (hw _ (List.mem_of_getElem? (i := 6) rfl))) (g := (mkF m 1 #[.val (.ref a), .val (.int (2 : Int32)), .val (.int x), .unset] [(.int x)])) rfl (hb hby own_d_4_1) _ k) ?_
  show own_Fin _ _ _ _ _ _ _ s₁ (mkF m 3 #[.val (.ref a), .val (.int (2 : Int32)), .val (.int x), .unset] [(.int (65536 : Int32)), (.int x)])
  refine own_via (fun _ k => XS.icmpYes X0.here hx rfl (pc0 := 3) (pc' := 40) rfl (hb hby own_d_4_3) rfl (tlt (own_bmp_lt hx_)).1 (by decide) (by decide) k) ?_
  show own_Fin _ _ _ _ _ _ _ s₁ (mkF m 40 #[.val (.ref a), .val (.int (2 : Int32)), .val (.int x), .unset] [])
  refine own_via (fun _ k => XS.aloadN X0.here hx rfl (hb hby own_d_4_40) rfl rfl k) ?_
  show own_Fin _ _ _ _ _ _ _ s₁ (mkF m 41 #[.val (.ref a), .val (.int (2 : Int32)), .val (.int x), .unset] [(.ref a)])
  refine own_via (fun _ k => XS.iloadN X0.here hx rfl (hb hby own_d_4_41) rfl k) ?_
  show own_Fin _ _ _ _ _ _ _ s₁ (mkF m 42 #[.val (.ref a), .val (.int (2 : Int32)), .val (.int x), .unset] [(.int (2 : Int32)), (.ref a)])
  refine own_via (fun _ k => XS.iloadN X0.here hx rfl (hb hby own_d_4_42) rfl k) ?_
  show own_Fin _ _ _ _ _ _ _ s₁ (mkF m 43 #[.val (.ref a), .val (.int (2 : Int32)), .val (.int x), .unset] [(.int x), (.int (2 : Int32)), (.ref a)])
  refine own_via (fun _ k => XS.i2c X0.here hx rfl (hb hby own_d_4_43) rfl k) ?_
  show own_Fin _ _ _ _ _ _ _ s₁ (mkF m 44 #[.val (.ref a), .val (.int (2 : Int32)), .val (.int x), .unset] [(.int (x.toUInt32.toUInt16.toUInt32.toInt32)), (.int (2 : Int32)), (.ref a)])
  obtain ⟨c1_, Ar1_, q1_, S1_, M1_, H1_, G1_⟩ := (id Va)
  have hin1_ : ¬ ((2 : Int32) < 0 ∨ c1_.slots.size ≤ ((2 : Int32)).toNatClampNeg) := inb_of S1_ ⟨by decide, by decide⟩
  obtain ⟨T1_, h1_, X1_, e1_, W1_, st1_⟩ := stC X0 hx hZ e0 Ar1_ (j := (2 : Int32)) hin1_ (g := (mkF m 44 #[.val (.ref a), .val (.int (2 : Int32)), .val (.int x), .unset] [(.int (x.toUInt32.toUInt16.toUInt32.toInt32)), (.int (2 : Int32)), (.ref a)])) rfl rfl (hb hby own_d_4_44)
  have V1_ := Arv.set Ar1_ q1_ S1_ M1_ H1_ G1_ (fits_nar_char _) W1_ 2 rfl (Nat.le_of_ble_eq_true rfl)
  have U1_ : Arv Z h1_ a ka .char (4 : Int32) [(.int el0), (.int el1), (.int x), (.int el3)] (.int 0) := by
    have hq := V1_
    rw [show nar .char (x.toUInt32.toUInt16.toUInt32.toInt32) = x from (own_x_nar hx_)] at hq
    exact hq
  have N1_ := Fr.snoc X1_ N0 ga
  refine own_via (fun _ k => st1_ _ k) ?_
  show own_Fin _ _ _ _ _ _ _ T1_ (mkF m 45 #[.val (.ref a), .val (.int (2 : Int32)), .val (.int x), .unset] [])
  refine own_via (fun _ k => XS.iloadN X1_.here hx rfl (hb hby own_d_4_45) rfl k) ?_
  show own_Fin _ _ _ _ _ _ _ T1_ (mkF m 46 #[.val (.ref a), .val (.int (2 : Int32)), .val (.int x), .unset] [(.int (2 : Int32))])
  refine own_via (fun _ k => XS.iconst X1_.here hx rfl (hb hby own_d_4_46) k) ?_
  show own_Fin _ _ _ _ _ _ _ T1_ (mkF m 47 #[.val (.ref a), .val (.int (2 : Int32)), .val (.int x), .unset] [(.int (1 : Int32)), (.int (2 : Int32))])
  refine own_via (fun _ k => XS.iadd X1_.here hx rfl (hb hby own_d_4_47) rfl k) ?_
  show own_Fin _ _ _ _ _ _ _ T1_ (mkF m 48 #[.val (.ref a), .val (.int (2 : Int32)), .val (.int x), .unset] [(.int ((2 : Int32) + (1 : Int32)))])
  exact own_retI X1_ hx Bd.returns Bd.notSynchronized (hb hby own_d_4_48) e1_ (by decide) ⟨rfl, N1_, ((Keep.refl h0 [a]).wr W1_ (Or.inl (List.mem_of_getElem? (i := 0) rfl))), U1_⟩ (by decide) (by decide)
theorem own_ef_put21 (m : MethodId) (a : Addr) (x : Int32) : entryFrame m #[(.ref a), (.int (2 : Int32)), (.int x)] 4 = mkF m 0 #[.val (.ref a), .val (.int (2 : Int32)), .val (.int x), .unset] [] := by (first | (simp [entryFrame, mkF, argsToLocals, Value.category]; done) | rfl)
def own_Q_put21 (Z : State) (a : Addr) (ka : ClassId) (x : Int32) (el0 : Int32) (el1 : Int32) (el2 : Int32) (el3 : Int32) (h0 : Heap) (n0 : Nat) (vq : Option Value) (h : Heap) (Lq : List Loc) : Prop := (vq = some (.int (4 : Int32))) ∧ (Fr n0 Lq) ∧ (Keep h0 h [a]) ∧ (Arv Z h a ka .char (4 : Int32) [(.int el0), (.int el1), (.int (own_hs x)), (.int (own_ls x))] (.int 0))
set_option maxRecDepth 65536 in
set_option maxHeartbeats 40000000 in
theorem own_rm_put21 (l : Launch) (Z : State) (a0 : Array Value) (hw : ∀ d ∈ tables_1, d.before a0 Z = true) (wsq : List Jvm.Cond) (a : Addr) (ka : ClassId) (x : Int32) (el0 : Int32) (el1 : Int32) (el2 : Int32) (el3 : Int32) (h0 : Heap) (n0 : Nat) (Z0 : n0 ≤ h0.size) (Va : Arv Z h0 a ka .char (4 : Int32) [(.int el0), (.int el1), (.int el2), (.int el3)] (.int 0)) (ga : n0 ≤ a) (hx_ : own_sup x) :
    MetFree l (⟨"com/example/co_occurrence_ranking/cooccurrenceranking/io/LineReaderCompareFieldsPinLaw", "put", "([CII)I"⟩ : MethodName) (head1 (Jvm.Cond.code (⟨"com/example/co_occurrence_ranking/cooccurrenceranking/io/LineReaderCompareFieldsPinLaw", "put", "([CII)I"⟩ : MethodName) method_4_code 4 (some .int) :: wsq) ({ frames := 0, cells := 0, slots := 0, locals := 0 } : Room)) (fun aq Uq => aq = #[(.ref a), (.int (2 : Int32)), (.int x)] ∧ Z.Warmed39 Uq.vm ∧ Uq.heap = h0) (fun _ _ _ _ _ => True) (fun _ Uq oq Uq' => ∃ vq Lq, oq = .returned vq ∧ own_Q_put21 Z a ka x el0 el1 el2 el3 h0 n0 vq Uq'.heap Lq ∧ FrameEnd Uq oq Uq' Lq ({ frames := 0, cells := 0, slots := 0, locals := 0 } : Room).cells ({ frames := 0, cells := 0, slots := 0, locals := 0 } : Room).slots) := by
  refine MetFree.of_bodySF (plainFor_of_name own_pn6) hisR ?_
  intro p e s m args below meth cde s₁ Bd hml0 hP hK
  obtain ⟨rfl, hZ, hh⟩ := hP
  have hx := Bd.exec
  have hby := Bd.bytes
  have hml : cde.maxLocals = 4 := hml0
  have hown : s.vm.findClass "com/example/co_occurrence_ranking/cooccurrenceranking/io/LineReaderCompareFieldsPinLaw" = some m.cls := findClass_of_methodNamed Bd.named
  have hnm := (name_of_methodNamed Bd.named Bd.method).1
  have X0 : Stand p l e ({ frames := 0, cells := 0, slots := 0, locals := 0 } : Room) s m #[(.ref a), (.int (2 : Int32)), (.int x)] below meth cde s₁ [] 0 0 := Stand.of_body Bd
  have e0 : s₁.heap = h0 := by rw [← hh, Bd.state]; rfl
  have N0 := Fr.nil n0
  show own_Fin p e s below (own_Q_put21 Z a ka x el0 el1 el2 el3 h0 n0) ({ frames := 0, cells := 0, slots := 0, locals := 0 } : Room).cells ({ frames := 0, cells := 0, slots := 0, locals := 0 } : Room).slots s₁ (entryFrame m #[(.ref a), (.int (2 : Int32)), (.int x)] 4)
  rw [own_ef_put21 m a x]
  refine own_via (fun _ k => XS.iloadN X0.here hx rfl (hb hby own_d_4_0) rfl k) ?_
  show own_Fin _ _ _ _ _ _ _ s₁ (mkF m 1 #[.val (.ref a), .val (.int (2 : Int32)), .val (.int x), .unset] [(.int x)])
  refine own_via (fun _ k => X0.ldcInt hx hown (mvT hZ (hw _ (List.mem_of_getElem? (i := 6) rfl))) (g := (mkF m 1 #[.val (.ref a), .val (.int (2 : Int32)), .val (.int x), .unset] [(.int x)])) rfl (hb hby own_d_4_1) _ k) ?_
  show own_Fin _ _ _ _ _ _ _ s₁ (mkF m 3 #[.val (.ref a), .val (.int (2 : Int32)), .val (.int x), .unset] [(.int (65536 : Int32)), (.int x)])
  refine own_via (fun _ k => XS.icmpNo X0.here hx rfl (hb hby own_d_4_3) rfl (flt (own_sup_nlt hx_)).1 k) ?_
  show own_Fin _ _ _ _ _ _ _ s₁ (mkF m 6 #[.val (.ref a), .val (.int (2 : Int32)), .val (.int x), .unset] [])
  refine own_via (fun _ k => XS.iloadN X0.here hx rfl (hb hby own_d_4_6) rfl k) ?_
  show own_Fin _ _ _ _ _ _ _ s₁ (mkF m 7 #[.val (.ref a), .val (.int (2 : Int32)), .val (.int x), .unset] [(.int x)])
  refine own_via (fun _ k => X0.ldcInt hx hown (mvT hZ (hw _ (List.mem_of_getElem? (i := 6) rfl))) (g := (mkF m 7 #[.val (.ref a), .val (.int (2 : Int32)), .val (.int x), .unset] [(.int x)])) rfl (hb hby own_d_4_7) _ k) ?_
  show own_Fin _ _ _ _ _ _ _ s₁ (mkF m 9 #[.val (.ref a), .val (.int (2 : Int32)), .val (.int x), .unset] [(.int (65536 : Int32)), (.int x)])
  refine own_via (fun _ k => XS.isub X0.here hx rfl (hb hby own_d_4_9) rfl k) ?_
  show own_Fin _ _ _ _ _ _ _ s₁ (mkF m 10 #[.val (.ref a), .val (.int (2 : Int32)), .val (.int x), .unset] [(.int (x - (65536 : Int32)))])
  refine own_via (fun _ k => XS.istoreN X0.here hx rfl (hb hby own_d_4_10) rfl (l' := #[.val (.ref a), .val (.int (2 : Int32)), .val (.int x), .val (.int (x - (65536 : Int32)))]) rfl k) ?_
  show own_Fin _ _ _ _ _ _ _ s₁ (mkF m 11 #[.val (.ref a), .val (.int (2 : Int32)), .val (.int x), .val (.int (x - (65536 : Int32)))] [])
  refine own_via (fun _ k => XS.aloadN X0.here hx rfl (hb hby own_d_4_11) rfl rfl k) ?_
  show own_Fin _ _ _ _ _ _ _ s₁ (mkF m 12 #[.val (.ref a), .val (.int (2 : Int32)), .val (.int x), .val (.int (x - (65536 : Int32)))] [(.ref a)])
  refine own_via (fun _ k => XS.iloadN X0.here hx rfl (hb hby own_d_4_12) rfl k) ?_
  show own_Fin _ _ _ _ _ _ _ s₁ (mkF m 13 #[.val (.ref a), .val (.int (2 : Int32)), .val (.int x), .val (.int (x - (65536 : Int32)))] [(.int (2 : Int32)), (.ref a)])
  refine own_via (fun _ k => X0.ldcInt hx hown (mvT hZ (hw _ (List.mem_of_getElem? (i := 5) rfl))) (g := (mkF m 13 #[.val (.ref a), .val (.int (2 : Int32)), .val (.int x), .val (.int (x - (65536 : Int32)))] [(.int (2 : Int32)), (.ref a)])) rfl (hb hby own_d_4_13) _ k) ?_
  show own_Fin _ _ _ _ _ _ _ s₁ (mkF m 15 #[.val (.ref a), .val (.int (2 : Int32)), .val (.int x), .val (.int (x - (65536 : Int32)))] [(.int (55296 : Int32)), (.int (2 : Int32)), (.ref a)])
  refine own_via (fun _ k => XS.iloadN X0.here hx rfl (hb hby own_d_4_15) rfl k) ?_
  show own_Fin _ _ _ _ _ _ _ s₁ (mkF m 16 #[.val (.ref a), .val (.int (2 : Int32)), .val (.int x), .val (.int (x - (65536 : Int32)))] [(.int (x - (65536 : Int32))), (.int (55296 : Int32)), (.int (2 : Int32)), (.ref a)])
  refine own_via (fun _ k => XS.bipush X0.here hx rfl (hb hby own_d_4_16) k) ?_
  show own_Fin _ _ _ _ _ _ _ s₁ (mkF m 18 #[.val (.ref a), .val (.int (2 : Int32)), .val (.int x), .val (.int (x - (65536 : Int32)))] [(.int (10 : Int32)), (.int (x - (65536 : Int32))), (.int (55296 : Int32)), (.int (2 : Int32)), (.ref a)])
  refine own_via (fun _ k => XS.iushr X0.here hx rfl (hb hby own_d_4_18) rfl k) ?_
  show own_Fin _ _ _ _ _ _ _ s₁ (mkF m 19 #[.val (.ref a), .val (.int (2 : Int32)), .val (.int x), .val (.int (x - (65536 : Int32)))] [(.int (((x - (65536 : Int32)).toUInt32 >>> ((10 : Int32) &&& 31).toUInt32).toInt32)), (.int (55296 : Int32)), (.int (2 : Int32)), (.ref a)])
  refine own_via (fun _ k => XS.iadd X0.here hx rfl (hb hby own_d_4_19) rfl k) ?_
  show own_Fin _ _ _ _ _ _ _ s₁ (mkF m 20 #[.val (.ref a), .val (.int (2 : Int32)), .val (.int x), .val (.int (x - (65536 : Int32)))] [(.int ((55296 : Int32) + (((x - (65536 : Int32)).toUInt32 >>> ((10 : Int32) &&& 31).toUInt32).toInt32))), (.int (2 : Int32)), (.ref a)])
  refine own_via (fun _ k => XS.i2c X0.here hx rfl (hb hby own_d_4_20) rfl k) ?_
  show own_Fin _ _ _ _ _ _ _ s₁ (mkF m 21 #[.val (.ref a), .val (.int (2 : Int32)), .val (.int x), .val (.int (x - (65536 : Int32)))] [(.int (((55296 : Int32) + (((x - (65536 : Int32)).toUInt32 >>> ((10 : Int32) &&& 31).toUInt32).toInt32)).toUInt32.toUInt16.toUInt32.toInt32)), (.int (2 : Int32)), (.ref a)])
  obtain ⟨c1_, Ar1_, q1_, S1_, M1_, H1_, G1_⟩ := (id Va)
  have hin1_ : ¬ ((2 : Int32) < 0 ∨ c1_.slots.size ≤ ((2 : Int32)).toNatClampNeg) := inb_of S1_ ⟨by decide, by decide⟩
  obtain ⟨T1_, h1_, X1_, e1_, W1_, st1_⟩ := stC X0 hx hZ e0 Ar1_ (j := (2 : Int32)) hin1_ (g := (mkF m 21 #[.val (.ref a), .val (.int (2 : Int32)), .val (.int x), .val (.int (x - (65536 : Int32)))] [(.int (((55296 : Int32) + (((x - (65536 : Int32)).toUInt32 >>> ((10 : Int32) &&& 31).toUInt32).toInt32)).toUInt32.toUInt16.toUInt32.toInt32)), (.int (2 : Int32)), (.ref a)])) rfl rfl (hb hby own_d_4_21)
  have V1_ := Arv.set Ar1_ q1_ S1_ M1_ H1_ G1_ (fits_nar_char _) W1_ 2 rfl (Nat.le_of_ble_eq_true rfl)
  have U1_ : Arv Z h1_ a ka .char (4 : Int32) [(.int el0), (.int el1), (.int (own_hs x)), (.int el3)] (.int 0) := by
    have hq := V1_
    rw [show nar .char (((55296 : Int32) + (((x - (65536 : Int32)).toUInt32 >>> ((10 : Int32) &&& 31).toUInt32).toInt32)).toUInt32.toUInt16.toUInt32.toInt32) = (own_hs x) from (own_hs_nar hx_)] at hq
    exact hq
  have N1_ := Fr.snoc X1_ N0 ga
  refine own_via (fun _ k => st1_ _ k) ?_
  show own_Fin _ _ _ _ _ _ _ T1_ (mkF m 22 #[.val (.ref a), .val (.int (2 : Int32)), .val (.int x), .val (.int (x - (65536 : Int32)))] [])
  refine own_via (fun _ k => XS.aloadN X1_.here hx rfl (hb hby own_d_4_22) rfl rfl k) ?_
  show own_Fin _ _ _ _ _ _ _ T1_ (mkF m 23 #[.val (.ref a), .val (.int (2 : Int32)), .val (.int x), .val (.int (x - (65536 : Int32)))] [(.ref a)])
  refine own_via (fun _ k => XS.iloadN X1_.here hx rfl (hb hby own_d_4_23) rfl k) ?_
  show own_Fin _ _ _ _ _ _ _ T1_ (mkF m 24 #[.val (.ref a), .val (.int (2 : Int32)), .val (.int x), .val (.int (x - (65536 : Int32)))] [(.int (2 : Int32)), (.ref a)])
  refine own_via (fun _ k => XS.iconst X1_.here hx rfl (hb hby own_d_4_24) k) ?_
  show own_Fin _ _ _ _ _ _ _ T1_ (mkF m 25 #[.val (.ref a), .val (.int (2 : Int32)), .val (.int x), .val (.int (x - (65536 : Int32)))] [(.int (1 : Int32)), (.int (2 : Int32)), (.ref a)])
  refine own_via (fun _ k => XS.iadd X1_.here hx rfl (hb hby own_d_4_25) rfl k) ?_
  show own_Fin _ _ _ _ _ _ _ T1_ (mkF m 26 #[.val (.ref a), .val (.int (2 : Int32)), .val (.int x), .val (.int (x - (65536 : Int32)))] [(.int ((2 : Int32) + (1 : Int32))), (.ref a)])
  refine own_via (fun _ k => X1_.ldcInt hx hown (mvT hZ (hw _ (List.mem_of_getElem? (i := 68) rfl))) (g := (mkF m 26 #[.val (.ref a), .val (.int (2 : Int32)), .val (.int x), .val (.int (x - (65536 : Int32)))] [(.int ((2 : Int32) + (1 : Int32))), (.ref a)])) rfl (hb hby own_d_4_26) _ k) ?_
  show own_Fin _ _ _ _ _ _ _ T1_ (mkF m 28 #[.val (.ref a), .val (.int (2 : Int32)), .val (.int x), .val (.int (x - (65536 : Int32)))] [(.int (56320 : Int32)), (.int ((2 : Int32) + (1 : Int32))), (.ref a)])
  refine own_via (fun _ k => XS.iloadN X1_.here hx rfl (hb hby own_d_4_28) rfl k) ?_
  show own_Fin _ _ _ _ _ _ _ T1_ (mkF m 29 #[.val (.ref a), .val (.int (2 : Int32)), .val (.int x), .val (.int (x - (65536 : Int32)))] [(.int (x - (65536 : Int32))), (.int (56320 : Int32)), (.int ((2 : Int32) + (1 : Int32))), (.ref a)])
  refine own_via (fun _ k => XS.sipush X1_.here hx rfl (hb hby own_d_4_29) k) ?_
  show own_Fin _ _ _ _ _ _ _ T1_ (mkF m 32 #[.val (.ref a), .val (.int (2 : Int32)), .val (.int x), .val (.int (x - (65536 : Int32)))] [(.int (1023 : Int32)), (.int (x - (65536 : Int32))), (.int (56320 : Int32)), (.int ((2 : Int32) + (1 : Int32))), (.ref a)])
  refine own_via (fun _ k => XS.iand X1_.here hx rfl (hb hby own_d_4_32) rfl k) ?_
  show own_Fin _ _ _ _ _ _ _ T1_ (mkF m 33 #[.val (.ref a), .val (.int (2 : Int32)), .val (.int x), .val (.int (x - (65536 : Int32)))] [(.int ((x - (65536 : Int32)) &&& (1023 : Int32))), (.int (56320 : Int32)), (.int ((2 : Int32) + (1 : Int32))), (.ref a)])
  refine own_via (fun _ k => XS.iadd X1_.here hx rfl (hb hby own_d_4_33) rfl k) ?_
  show own_Fin _ _ _ _ _ _ _ T1_ (mkF m 34 #[.val (.ref a), .val (.int (2 : Int32)), .val (.int x), .val (.int (x - (65536 : Int32)))] [(.int ((56320 : Int32) + ((x - (65536 : Int32)) &&& (1023 : Int32)))), (.int ((2 : Int32) + (1 : Int32))), (.ref a)])
  refine own_via (fun _ k => XS.i2c X1_.here hx rfl (hb hby own_d_4_34) rfl k) ?_
  show own_Fin _ _ _ _ _ _ _ T1_ (mkF m 35 #[.val (.ref a), .val (.int (2 : Int32)), .val (.int x), .val (.int (x - (65536 : Int32)))] [(.int (((56320 : Int32) + ((x - (65536 : Int32)) &&& (1023 : Int32))).toUInt32.toUInt16.toUInt32.toInt32)), (.int ((2 : Int32) + (1 : Int32))), (.ref a)])
  obtain ⟨c2_, Ar2_, q2_, S2_, M2_, H2_, G2_⟩ := (id U1_)
  have hin2_ : ¬ (((2 : Int32) + (1 : Int32)) < 0 ∨ c2_.slots.size ≤ (((2 : Int32) + (1 : Int32))).toNatClampNeg) := inb_of S2_ ⟨by decide, by decide⟩
  obtain ⟨T2_, h2_, X2_, e2_, W2_, st2_⟩ := stC X1_ hx hZ e1_ Ar2_ (j := ((2 : Int32) + (1 : Int32))) hin2_ (g := (mkF m 35 #[.val (.ref a), .val (.int (2 : Int32)), .val (.int x), .val (.int (x - (65536 : Int32)))] [(.int (((56320 : Int32) + ((x - (65536 : Int32)) &&& (1023 : Int32))).toUInt32.toUInt16.toUInt32.toInt32)), (.int ((2 : Int32) + (1 : Int32))), (.ref a)])) rfl rfl (hb hby own_d_4_35)
  have V2_ := Arv.set Ar2_ q2_ S2_ M2_ H2_ G2_ (fits_nar_char _) W2_ 3 rfl (Nat.le_of_ble_eq_true rfl)
  have U2_ : Arv Z h2_ a ka .char (4 : Int32) [(.int el0), (.int el1), (.int (own_hs x)), (.int (own_ls x))] (.int 0) := by
    have hq := V2_
    rw [show nar .char (((56320 : Int32) + ((x - (65536 : Int32)) &&& (1023 : Int32))).toUInt32.toUInt16.toUInt32.toInt32) = (own_ls x) from (own_ls_nar hx_)] at hq
    exact hq
  have N2_ := Fr.snoc X2_ N1_ ga
  refine own_via (fun _ k => st2_ _ k) ?_
  show own_Fin _ _ _ _ _ _ _ T2_ (mkF m 36 #[.val (.ref a), .val (.int (2 : Int32)), .val (.int x), .val (.int (x - (65536 : Int32)))] [])
  refine own_via (fun _ k => XS.iloadN X2_.here hx rfl (hb hby own_d_4_36) rfl k) ?_
  show own_Fin _ _ _ _ _ _ _ T2_ (mkF m 37 #[.val (.ref a), .val (.int (2 : Int32)), .val (.int x), .val (.int (x - (65536 : Int32)))] [(.int (2 : Int32))])
  refine own_via (fun _ k => XS.iconst X2_.here hx rfl (hb hby own_d_4_37) k) ?_
  show own_Fin _ _ _ _ _ _ _ T2_ (mkF m 38 #[.val (.ref a), .val (.int (2 : Int32)), .val (.int x), .val (.int (x - (65536 : Int32)))] [(.int (2 : Int32)), (.int (2 : Int32))])
  refine own_via (fun _ k => XS.iadd X2_.here hx rfl (hb hby own_d_4_38) rfl k) ?_
  show own_Fin _ _ _ _ _ _ _ T2_ (mkF m 39 #[.val (.ref a), .val (.int (2 : Int32)), .val (.int x), .val (.int (x - (65536 : Int32)))] [(.int ((2 : Int32) + (2 : Int32)))])
  exact own_retI X2_ hx Bd.returns Bd.notSynchronized (hb hby own_d_4_39) e2_ (by decide) ⟨rfl, N2_, (((Keep.refl h0 [a]).wr W1_ (Or.inl (List.mem_of_getElem? (i := 0) rfl))).wr W2_ (Or.inl (List.mem_of_getElem? (i := 0) rfl))), U2_⟩ (by decide) (by decide)
theorem own_d_5_0 : decode method_5_code 0 = .ok (.iconst 4, 1) := by decide +kernel
theorem own_d_5_1 : decode method_5_code 1 = .ok (.newarray .char, 2) := by decide +kernel
theorem own_d_5_3 : decode method_5_code 3 = .ok (.astore_n 3, 1) := by decide +kernel
theorem own_d_5_4 : decode method_5_code 4 = .ok (.iconst 0, 1) := by decide +kernel
theorem own_d_5_5 : decode method_5_code 5 = .ok (.istore 4, 2) := by decide +kernel
theorem own_d_5_7 : decode method_5_code 7 = .ok (.iload_n 0, 1) := by decide +kernel
theorem own_d_5_8 : decode method_5_code 8 = .ok (.iconst 1, 1) := by decide +kernel
theorem own_d_5_9 : decode method_5_code 9 = .ok (.if_icmp .lt 12, 3) := by decide +kernel
theorem own_d_5_21 : decode method_5_code 21 = .ok (.iload_n 0, 1) := by decide +kernel
theorem own_d_5_22 : decode method_5_code 22 = .ok (.iconst 2, 1) := by decide +kernel
theorem own_d_5_23 : decode method_5_code 23 = .ok (.if_icmp .lt 12, 3) := by decide +kernel
theorem own_d_5_35 : decode method_5_code 35 = .ok (.iload 4, 2) := by decide +kernel
theorem own_d_5_37 : decode method_5_code 37 = .ok (.ifCond .ne 14, 3) := by decide +kernel
theorem own_d_5_40 : decode method_5_code 40 = .ok (.new 40, 3) := by decide +kernel
theorem own_d_5_43 : decode method_5_code 43 = .ok (.dup, 1) := by decide +kernel
theorem own_d_5_44 : decode method_5_code 44 = .ok (.iconst 0, 1) := by decide +kernel
theorem own_d_5_45 : decode method_5_code 45 = .ok (.newarray .char, 2) := by decide +kernel
theorem own_d_5_47 : decode method_5_code 47 = .ok (.invokespecial 42, 3) := by decide +kernel
theorem own_pd21 : parseMethodDescriptor "([C)V" = some ⟨[(.array .char)], none⟩ := by decide +kernel
theorem own_d_5_50 : decode method_5_code 50 = .ok (.areturn, 1) := by decide +kernel
theorem own_d_5_12 : decode method_5_code 12 = .ok (.aload_n 3, 1) := by decide +kernel
theorem own_d_5_13 : decode method_5_code 13 = .ok (.iload 4, 2) := by decide +kernel
theorem own_d_5_15 : decode method_5_code 15 = .ok (.iload_n 1, 1) := by decide +kernel
theorem own_d_5_16 : decode method_5_code 16 = .ok (.invokestatic 36, 3) := by decide +kernel
theorem own_pd22 : parseMethodDescriptor "([CII)I" = some ⟨[(.array .char), .int, .int], some .int⟩ := by decide +kernel
theorem own_d_5_19 : decode method_5_code 19 = .ok (.istore 4, 2) := by decide +kernel
theorem own_d_5_51 : decode method_5_code 51 = .ok (.iload 4, 2) := by decide +kernel
theorem own_d_5_53 : decode method_5_code 53 = .ok (.iconst 1, 1) := by decide +kernel
theorem own_d_5_54 : decode method_5_code 54 = .ok (.if_icmp .ne 20, 3) := by decide +kernel
theorem own_d_5_57 : decode method_5_code 57 = .ok (.new 40, 3) := by decide +kernel
theorem own_d_5_60 : decode method_5_code 60 = .ok (.dup, 1) := by decide +kernel
theorem own_d_5_61 : decode method_5_code 61 = .ok (.iconst 1, 1) := by decide +kernel
theorem own_d_5_62 : decode method_5_code 62 = .ok (.newarray .char, 2) := by decide +kernel
theorem own_d_5_64 : decode method_5_code 64 = .ok (.dup, 1) := by decide +kernel
theorem own_d_5_65 : decode method_5_code 65 = .ok (.iconst 0, 1) := by decide +kernel
theorem own_d_5_66 : decode method_5_code 66 = .ok (.aload_n 3, 1) := by decide +kernel
theorem own_d_5_67 : decode method_5_code 67 = .ok (.iconst 0, 1) := by decide +kernel
theorem own_d_5_68 : decode method_5_code 68 = .ok (.caload, 1) := by decide +kernel
theorem own_d_5_69 : decode method_5_code 69 = .ok (.castore, 1) := by decide +kernel
theorem own_d_5_70 : decode method_5_code 70 = .ok (.invokespecial 42, 3) := by decide +kernel
theorem own_d_5_73 : decode method_5_code 73 = .ok (.areturn, 1) := by decide +kernel
theorem own_d_5_26 : decode method_5_code 26 = .ok (.aload_n 3, 1) := by decide +kernel
theorem own_d_5_27 : decode method_5_code 27 = .ok (.iload 4, 2) := by decide +kernel
theorem own_d_5_29 : decode method_5_code 29 = .ok (.iload_n 2, 1) := by decide +kernel
theorem own_d_5_30 : decode method_5_code 30 = .ok (.invokestatic 36, 3) := by decide +kernel
theorem own_d_5_33 : decode method_5_code 33 = .ok (.istore 4, 2) := by decide +kernel
theorem own_d_5_74 : decode method_5_code 74 = .ok (.iload 4, 2) := by decide +kernel
theorem own_d_5_76 : decode method_5_code 76 = .ok (.iconst 2, 1) := by decide +kernel
theorem own_d_5_77 : decode method_5_code 77 = .ok (.if_icmp .ne 26, 3) := by decide +kernel
theorem own_d_5_80 : decode method_5_code 80 = .ok (.new 40, 3) := by decide +kernel
theorem own_d_5_83 : decode method_5_code 83 = .ok (.dup, 1) := by decide +kernel
theorem own_d_5_84 : decode method_5_code 84 = .ok (.iconst 2, 1) := by decide +kernel
theorem own_d_5_85 : decode method_5_code 85 = .ok (.newarray .char, 2) := by decide +kernel
theorem own_d_5_87 : decode method_5_code 87 = .ok (.dup, 1) := by decide +kernel
theorem own_d_5_88 : decode method_5_code 88 = .ok (.iconst 0, 1) := by decide +kernel
theorem own_d_5_89 : decode method_5_code 89 = .ok (.aload_n 3, 1) := by decide +kernel
theorem own_d_5_90 : decode method_5_code 90 = .ok (.iconst 0, 1) := by decide +kernel
theorem own_d_5_91 : decode method_5_code 91 = .ok (.caload, 1) := by decide +kernel
theorem own_d_5_92 : decode method_5_code 92 = .ok (.castore, 1) := by decide +kernel
theorem own_d_5_93 : decode method_5_code 93 = .ok (.dup, 1) := by decide +kernel
theorem own_d_5_94 : decode method_5_code 94 = .ok (.iconst 1, 1) := by decide +kernel
theorem own_d_5_95 : decode method_5_code 95 = .ok (.aload_n 3, 1) := by decide +kernel
theorem own_d_5_96 : decode method_5_code 96 = .ok (.iconst 1, 1) := by decide +kernel
theorem own_d_5_97 : decode method_5_code 97 = .ok (.caload, 1) := by decide +kernel
theorem own_d_5_98 : decode method_5_code 98 = .ok (.castore, 1) := by decide +kernel
theorem own_d_5_99 : decode method_5_code 99 = .ok (.invokespecial 42, 3) := by decide +kernel
theorem own_d_5_102 : decode method_5_code 102 = .ok (.areturn, 1) := by decide +kernel
theorem own_d_5_103 : decode method_5_code 103 = .ok (.iload 4, 2) := by decide +kernel
theorem own_d_5_105 : decode method_5_code 105 = .ok (.iconst 3, 1) := by decide +kernel
theorem own_d_5_106 : decode method_5_code 106 = .ok (.if_icmp .ne 32, 3) := by decide +kernel
theorem own_d_5_109 : decode method_5_code 109 = .ok (.new 40, 3) := by decide +kernel
theorem own_d_5_112 : decode method_5_code 112 = .ok (.dup, 1) := by decide +kernel
theorem own_d_5_113 : decode method_5_code 113 = .ok (.iconst 3, 1) := by decide +kernel
theorem own_d_5_114 : decode method_5_code 114 = .ok (.newarray .char, 2) := by decide +kernel
theorem own_d_5_116 : decode method_5_code 116 = .ok (.dup, 1) := by decide +kernel
theorem own_d_5_117 : decode method_5_code 117 = .ok (.iconst 0, 1) := by decide +kernel
theorem own_d_5_118 : decode method_5_code 118 = .ok (.aload_n 3, 1) := by decide +kernel
theorem own_d_5_119 : decode method_5_code 119 = .ok (.iconst 0, 1) := by decide +kernel
theorem own_d_5_120 : decode method_5_code 120 = .ok (.caload, 1) := by decide +kernel
theorem own_d_5_121 : decode method_5_code 121 = .ok (.castore, 1) := by decide +kernel
theorem own_d_5_122 : decode method_5_code 122 = .ok (.dup, 1) := by decide +kernel
theorem own_d_5_123 : decode method_5_code 123 = .ok (.iconst 1, 1) := by decide +kernel
theorem own_d_5_124 : decode method_5_code 124 = .ok (.aload_n 3, 1) := by decide +kernel
theorem own_d_5_125 : decode method_5_code 125 = .ok (.iconst 1, 1) := by decide +kernel
theorem own_d_5_126 : decode method_5_code 126 = .ok (.caload, 1) := by decide +kernel
theorem own_d_5_127 : decode method_5_code 127 = .ok (.castore, 1) := by decide +kernel
theorem own_d_5_128 : decode method_5_code 128 = .ok (.dup, 1) := by decide +kernel
theorem own_d_5_129 : decode method_5_code 129 = .ok (.iconst 2, 1) := by decide +kernel
theorem own_d_5_130 : decode method_5_code 130 = .ok (.aload_n 3, 1) := by decide +kernel
theorem own_d_5_131 : decode method_5_code 131 = .ok (.iconst 2, 1) := by decide +kernel
theorem own_d_5_132 : decode method_5_code 132 = .ok (.caload, 1) := by decide +kernel
theorem own_d_5_133 : decode method_5_code 133 = .ok (.castore, 1) := by decide +kernel
theorem own_d_5_134 : decode method_5_code 134 = .ok (.invokespecial 42, 3) := by decide +kernel
theorem own_d_5_137 : decode method_5_code 137 = .ok (.areturn, 1) := by decide +kernel
theorem own_d_5_138 : decode method_5_code 138 = .ok (.new 40, 3) := by decide +kernel
theorem own_d_5_141 : decode method_5_code 141 = .ok (.dup, 1) := by decide +kernel
theorem own_d_5_142 : decode method_5_code 142 = .ok (.aload_n 3, 1) := by decide +kernel
theorem own_d_5_143 : decode method_5_code 143 = .ok (.invokespecial 42, 3) := by decide +kernel
theorem own_d_5_146 : decode method_5_code 146 = .ok (.areturn, 1) := by decide +kernel
theorem own_ef_str (m : MethodId) (n : Int32) (c1 : Int32) (c2 : Int32) : entryFrame m #[(.int n), (.int c1), (.int c2)] 5 = mkF m 0 #[.val (.int n), .val (.int c1), .val (.int c2), .unset, .unset] [] := by (first | (simp [entryFrame, mkF, argsToLocals, Value.category]; done) | rfl)
def own_Q_str (Z : State) (n : Int32) (c1 : Int32) (c2 : Int32) (cz : Int32) (h0 : Heap) (n0 : Nat) (vq : Option Value) (h : Heap) (Lq : List Loc) : Prop := ∃ (x : Addr) (t : Addr) (kt : ClassId) (cd : Int32) (N2 : Int32) (vs : List Value), (vq = some (.ref x)) ∧ (Fr n0 Lq) ∧ (Keep h0 h []) ∧ (h0.size ≤ x) ∧ (Exa Z h x "java/lang/String") ∧ (Fld Z h x "java/lang/String" "coder" "B" (.int cd)) ∧ (Fld Z h x "java/lang/String" "value" "[B" (.ref t)) ∧ (Arv Z h t kt .byte N2 vs (.int 0)) ∧ (own_cod (own_units n c1 c2) cd N2 vs)
set_option maxRecDepth 65536 in
set_option maxHeartbeats 40000000 in
theorem own_rm_str (l : Launch) (Z : State) (a0 : Array Value) (hw : ∀ d ∈ tables_1, d.before a0 Z = true) (wsq : List Jvm.Cond) (n : Int32) (c1 : Int32) (c2 : Int32) (cz : Int32) (h0 : Heap) (n0 : Nat) (Z0 : n0 ≤ h0.size) (O0 : Old Z n0 h0) (S1 : Sta Z Z.heap "java/lang/String" "COMPACT_STRINGS" "Z" (.int cz)) (P5 : ¬ cz = (0 : Int32)) (S3 : Sta Z Z.heap "java/lang/StringUTF16" "$assertionsDisabled" "Z" (.int (1 : Int32))) (S4 : Sta Z Z.heap "java/lang/StringUTF16" "HI_BYTE_SHIFT" "I" (.int (0 : Int32))) (S5 : Sta Z Z.heap "java/lang/StringUTF16" "LO_BYTE_SHIFT" "I" (.int (8 : Int32))) (hn : own_03 n) (h1 : own_cp c1) (h2 : own_cp c2) :
    MetFree l (⟨"com/example/co_occurrence_ranking/cooccurrenceranking/io/LineReaderCompareFieldsPinLaw", "str", "(III)Ljava/lang/String;"⟩ : MethodName) (head1 (Jvm.Cond.code (⟨"com/example/co_occurrence_ranking/cooccurrenceranking/io/LineReaderCompareFieldsPinLaw", "str", "(III)Ljava/lang/String;"⟩ : MethodName) method_5_code 5 (some (.object "java/lang/String")) :: wsq) ({ frames := 6, cells := 7, slots := 23, locals := 88 } : Room)) (fun aq Uq => aq = #[(.int n), (.int c1), (.int c2)] ∧ Z.Warmed39 Uq.vm ∧ Uq.heap = h0 ∧ CHv Z own_EL Uq.vm h0) (fun _ _ _ _ _ => True) (fun _ Uq oq Uq' => ∃ vq Lq, oq = .returned vq ∧ own_Q_str Z n c1 c2 cz h0 n0 vq Uq'.heap Lq ∧ CHr Z own_EL Uq.vm Uq.heap Uq'.vm Uq'.heap ∧ ReturnedEndW Uq oq Uq' Lq ({ frames := 6, cells := 7, slots := 23, locals := 88 } : Room).cells ({ frames := 6, cells := 7, slots := 23, locals := 88 } : Room).slots) := by
  refine MetFree.of_bodySF (plainFor_of_name own_pn6) hisR ?_
  intro p e s m args below meth cde s₁ Bd hml0 hP hK
  obtain ⟨rfl, hZ, hh, H0⟩ := hP
  have hx := Bd.exec
  have hby := Bd.bytes
  have hml : cde.maxLocals = 5 := hml0
  have hown : s.vm.findClass "com/example/co_occurrence_ranking/cooccurrenceranking/io/LineReaderCompareFieldsPinLaw" = some m.cls := findClass_of_methodNamed Bd.named
  have hnm := (name_of_methodNamed Bd.named Bd.method).1
  have X0 : Stand p l e ({ frames := 6, cells := 7, slots := 23, locals := 88 } : Room) (s.setVm s.vm) m #[(.int n), (.int c1), (.int c2)] below meth cde s₁ [] 0 0 := Stand.of_body Bd
  have e0 : s₁.heap = h0 := by rw [← hh, Bd.state]; rfl
  have N0 := Fr.nil n0
  have hS0 : s.Since s.vm h0.size := (State.WarmedH.refl s).since _
  have hk0 : h0.size ≤ h0.size := Nat.le_refl _
  have C0 : CHr Z own_EL s.vm h0 s.vm h0 := CHr.refl H0
  show own_FinH p e s below Z own_EL (own_Q_str Z n c1 c2 cz h0 n0) ({ frames := 6, cells := 7, slots := 23, locals := 88 } : Room).cells ({ frames := 6, cells := 7, slots := 23, locals := 88 } : Room).slots s₁ (entryFrame m #[(.int n), (.int c1), (.int c2)] 5)
  rw [own_ef_str m n c1 c2]
  refine own_viaH (fun _ k => XS.iconst X0.here hx rfl (hb hby own_d_5_0) k) ?_
  show own_FinH _ _ _ _ _ _ _ _ _ s₁ (mkF m 1 #[.val (.int n), .val (.int c1), .val (.int c2), .unset, .unset] [(.int (4 : Int32))])
  obtain ⟨T1_, h1_, k1_, X1_, e1_, E1_, A1_, st1_⟩ := newP X0 hx hZ (hw _ (List.mem_of_getElem? (i := 11) rfl)) e0 (g := (mkF m 1 #[.val (.int n), .val (.int c1), .val (.int c2), .unset, .unset] [(.int (4 : Int32))])) rfl (hb hby own_d_5_1) rfl (by decide) (cap := 4) (by decide) (by decide) (by decide) (by decide)
  obtain ⟨b1_, g1_⟩ : ∃ z, z = h0.size := ⟨_, rfl⟩
  rw [← g1_] at A1_ st1_
  have V1_ : Arv Z h1_ b1_ k1_ .char (4 : Int32) [(.int (0 : Int32)), (.int (0 : Int32)), (.int (0 : Int32)), (.int (0 : Int32))] (.int (0 : Int32)) := (Arv.new A1_ (by decide)).pad (pad_rep [] (.int (0 : Int32)) 4)
  refine own_viaH (fun _ k => st1_ _ k) ?_
  show own_FinH _ _ _ _ _ _ _ _ _ T1_ (mkF m 3 #[.val (.int n), .val (.int c1), .val (.int c2), .unset, .unset] [(.ref b1_)])
  refine own_viaH (fun _ k => XS.astoreN X1_.here hx rfl (hb hby own_d_5_3) rfl rfl (l' := #[.val (.int n), .val (.int c1), .val (.int c2), .val (.ref b1_), .unset]) rfl k) ?_
  show own_FinH _ _ _ _ _ _ _ _ _ T1_ (mkF m 4 #[.val (.int n), .val (.int c1), .val (.int c2), .val (.ref b1_), .unset] [])
  refine own_viaH (fun _ k => XS.iconst X1_.here hx rfl (hb hby own_d_5_4) k) ?_
  show own_FinH _ _ _ _ _ _ _ _ _ T1_ (mkF m 5 #[.val (.int n), .val (.int c1), .val (.int c2), .val (.ref b1_), .unset] [(.int (0 : Int32))])
  refine own_viaH (fun _ k => XS.istore X1_.here hx rfl (hb hby own_d_5_5) rfl (l' := #[.val (.int n), .val (.int c1), .val (.int c2), .val (.ref b1_), .val (.int (0 : Int32))]) rfl k) ?_
  show own_FinH _ _ _ _ _ _ _ _ _ T1_ (mkF m 7 #[.val (.int n), .val (.int c1), .val (.int c2), .val (.ref b1_), .val (.int (0 : Int32))] [])
  refine own_viaH (fun _ k => XS.iloadN X1_.here hx rfl (hb hby own_d_5_7) rfl k) ?_
  show own_FinH _ _ _ _ _ _ _ _ _ T1_ (mkF m 8 #[.val (.int n), .val (.int c1), .val (.int c2), .val (.ref b1_), .val (.int (0 : Int32))] [(.int n)])
  refine own_viaH (fun _ k => XS.iconst X1_.here hx rfl (hb hby own_d_5_8) k) ?_
  show own_FinH _ _ _ _ _ _ _ _ _ T1_ (mkF m 9 #[.val (.int n), .val (.int c1), .val (.int c2), .val (.ref b1_), .val (.int (0 : Int32))] [(.int (1 : Int32)), (.int n)])
  rcases Classical.em (n < (1 : Int32)) with hA | hA
  · refine own_viaH (fun _ k => XS.icmpYes X1_.here hx rfl (pc0 := 9) (pc' := 21) rfl (hb hby own_d_5_9) rfl (tlt hA).1 (by decide) (by decide) k) ?_
    show own_FinH _ _ _ _ _ _ _ _ _ T1_ (mkF m 21 #[.val (.int n), .val (.int c1), .val (.int c2), .val (.ref b1_), .val (.int (0 : Int32))] [])
    refine own_viaH (fun _ k => XS.iloadN X1_.here hx rfl (hb hby own_d_5_21) rfl k) ?_
    show own_FinH _ _ _ _ _ _ _ _ _ T1_ (mkF m 22 #[.val (.int n), .val (.int c1), .val (.int c2), .val (.ref b1_), .val (.int (0 : Int32))] [(.int n)])
    refine own_viaH (fun _ k => XS.iconst X1_.here hx rfl (hb hby own_d_5_22) k) ?_
    show own_FinH _ _ _ _ _ _ _ _ _ T1_ (mkF m 23 #[.val (.int n), .val (.int c1), .val (.int c2), .val (.ref b1_), .val (.int (0 : Int32))] [(.int (2 : Int32)), (.int n)])
    refine own_viaH (fun _ k => XS.icmpYes X1_.here hx rfl (pc0 := 23) (pc' := 35) rfl (hb hby own_d_5_23) rfl (tlt (own_12 hA)).1 (by decide) (by decide) k) ?_
    show own_FinH _ _ _ _ _ _ _ _ _ T1_ (mkF m 35 #[.val (.int n), .val (.int c1), .val (.int c2), .val (.ref b1_), .val (.int (0 : Int32))] [])
    refine own_viaH (fun _ k => XS.iload X1_.here hx rfl (hb hby own_d_5_35) rfl k) ?_
    show own_FinH _ _ _ _ _ _ _ _ _ T1_ (mkF m 37 #[.val (.int n), .val (.int c1), .val (.int c2), .val (.ref b1_), .val (.int (0 : Int32))] [(.int (0 : Int32))])
    refine own_viaH (fun _ k => XS.ifNo X1_.here hx rfl (hb hby own_d_5_37) rfl ((if0 _ _).trans (teq rfl).2) k) ?_
    show own_FinH _ _ _ _ _ _ _ _ _ T1_ (mkF m 40 #[.val (.int n), .val (.int c1), .val (.int c2), .val (.ref b1_), .val (.int (0 : Int32))] [])
    obtain ⟨T2_, h2_, X2_, e2_, E2_, A2_, D2_, -, st2_⟩ := newO X1_ hx hZ hown (hw _ (List.mem_of_getElem? (i := 12) rfl)) (hw _ (List.mem_of_getElem? (i := 13) rfl)) (hw _ (List.mem_of_getElem? (i := 14) rfl)) e1_ (g := (mkF m 40 #[.val (.int n), .val (.int c1), .val (.int c2), .val (.ref b1_), .val (.int (0 : Int32))] [])) rfl (hb hby own_d_5_40) (by decide) (by decide)
    obtain ⟨b2_, g2_⟩ : ∃ z, z = h1_.size := ⟨_, rfl⟩
    rw [← g2_] at A2_ D2_ st2_
    have F3_ : Fld Z h2_ b2_ "java/lang/String" "value" "[B" .null := D2_ (Or.inr (hw _ (List.mem_of_getElem? (i := 27) rfl))) (ty := (.array .byte)) (by decide)
    have F4_ : Fld Z h2_ b2_ "java/lang/String" "coder" "B" (.int (0 : Int32)) := D2_ (Or.inr (hw _ (List.mem_of_getElem? (i := 28) rfl))) (ty := .byte) (by decide)
    refine own_viaH (fun _ k => st2_ _ k) ?_
    show own_FinH _ _ _ _ _ _ _ _ _ T2_ (mkF m 43 #[.val (.int n), .val (.int c1), .val (.int c2), .val (.ref b1_), .val (.int (0 : Int32))] [(.ref b2_)])
    refine own_viaH (fun _ k => XS.dup X2_.here hx rfl (hb hby own_d_5_43) rfl rfl k) ?_
    show own_FinH _ _ _ _ _ _ _ _ _ T2_ (mkF m 44 #[.val (.int n), .val (.int c1), .val (.int c2), .val (.ref b1_), .val (.int (0 : Int32))] [(.ref b2_), (.ref b2_)])
    refine own_viaH (fun _ k => XS.iconst X2_.here hx rfl (hb hby own_d_5_44) k) ?_
    show own_FinH _ _ _ _ _ _ _ _ _ T2_ (mkF m 45 #[.val (.int n), .val (.int c1), .val (.int c2), .val (.ref b1_), .val (.int (0 : Int32))] [(.int (0 : Int32)), (.ref b2_), (.ref b2_)])
    obtain ⟨T5_, h5_, k5_, X5_, e5_, E5_, A5_, st5_⟩ := newP X2_ hx hZ (hw _ (List.mem_of_getElem? (i := 11) rfl)) e2_ (g := (mkF m 45 #[.val (.int n), .val (.int c1), .val (.int c2), .val (.ref b1_), .val (.int (0 : Int32))] [(.int (0 : Int32)), (.ref b2_), (.ref b2_)])) rfl (hb hby own_d_5_45) rfl (by decide) (cap := 0) (by decide) (by decide) (by decide) (by decide)
    obtain ⟨b5_, g5_⟩ : ∃ z, z = h2_.size := ⟨_, rfl⟩
    rw [← g5_] at A5_ st5_
    have V5_ : Arv Z h5_ b5_ k5_ .char (0 : Int32) [] (.int (0 : Int32)) := (Arv.new A5_ (by decide)).pad (pad_rep [] (.int (0 : Int32)) 0)
    refine own_viaH (fun _ k => st5_ _ k) ?_
    show own_FinH _ _ _ _ _ _ _ _ _ T5_ (mkF m 47 #[.val (.int n), .val (.int c1), .val (.int c2), .val (.ref b1_), .val (.int (0 : Int32))] [(.ref b5_), (.ref b2_), (.ref b2_)])
    have g7_ : n0 ≤ b2_ := Nat.le_trans (Nat.le_trans Z0 E1_.1) (Nat.le_of_eq g2_.symm)
    have C8_ := C0.trans (CHr.ext E1_ H0)
    have H8_ := C8_.1
    have C9_ := C8_.trans (CHr.ext E2_ H8_)
    have H9_ := C9_.1
    have C10_ := C9_.trans (CHr.ext E5_ H9_)
    have H10_ := C10_.1
    obtain ⟨_, _, ⟨T6_, L6_, k6_, n6_⟩, -, Y6_, hSq6_, hgq6_, ⟨Lc6_, hQ6_, l6_, y6_, z6_, Cq6_⟩, st6_⟩ := X5_.specialBackS hx (y := (⟨"java/lang/String", "<init>", "([C)V"⟩ : MethodName)) rfl hown (mvT hZ (hw _ (List.mem_of_getElem? (i := 15) rfl))) (mvT hZ (hw _ (List.mem_of_getElem? (i := 16) rfl))) (mvT hZ (hw _ (List.mem_of_getElem? (i := 17) rfl))) (by decide) (backOfSH (s := s) (vm0 := s.vm) (W := 1) (own_rm_sInit1 l Z a0 hw [] b2_ b5_ k5_ (.int (0 : Int32)) h5_ n0 (Nat.le_trans Z0 (Nat.le_trans (Nat.le_trans E1_.1 E2_.1) E5_.1)) (A2_.ext E5_) (F3_.ext E5_) (F4_.ext E5_) V5_ g7_) hZ (hw _ (List.mem_of_getElem? (i := 17) rfl)) (hw _ (List.mem_of_getElem? (i := 14) rfl)) (by decide) (by decide) (own_ew hw) H10_) (g := (mkF m 47 #[.val (.int n), .val (.int c1), .val (.int c2), .val (.ref b1_), .val (.int (0 : Int32))] [(.ref b5_), (.ref b2_), (.ref b2_)])) rfl (by rw [hml]; rfl) (Steps.refl _) (a := b2_) (argsL := [(.ref b5_)]) (rest := [(.ref b2_)]) (lenOf own_pd21 rfl) rfl (by show 2 * 0 + _ ≤ _; exact Nat.le_of_eq rfl) (hb hby own_d_5_47) (fun _ _ => ⟨rfl, e5_, (by decide : 0 + 1 + 1 + 1 + 4 ≤ _), (by decide : 0 + 4 + 4 + 0 + 8 ≤ _)⟩)
    dsimp only [Pt.U, Pt.locs, Pt.cells, Pt.slots] at Y6_ l6_ y6_ z6_ st6_ hQ6_ hSq6_ hgq6_ Cq6_
    subst l6_ y6_ z6_
    obtain ⟨X6_, hS6_, hZ6_, hown6_⟩ := rebS hS0 (by rw [e5_]; exact (Nat.le_trans hk0 (Nat.le_trans (Nat.le_trans E1_.1 E2_.1) E5_.1))) Y6_ hSq6_ hgq6_ hZ hown
    obtain ⟨t, kt, rfl, Nq6_, K6_, r11_, r12_, r13_, r14_⟩ := hQ6_
    have N6_ := Fr.app N0 Nq6_
    refine own_viaH (fun _ k => st6_.trans k) ?_
    show own_FinH _ _ _ _ _ _ _ _ _ T6_ (mkF m 50 #[.val (.int n), .val (.int c1), .val (.int c2), .val (.ref b1_), .val (.int (0 : Int32))] [(.ref b2_)])
    have C15_ := C10_.trans Cq6_
    have H15_ := C15_.1
    exact own_retAH X6_ hx Bd.returns Bd.notSynchronized (own_ew hw) hZ6_ hS6_ (Nat.le_refl _) hh C15_ rfl rfl (hb hby own_d_5_50) rfl ⟨b2_, t, kt, (0 : Int32), (0 : Int32), [], rfl, N6_, (((((Keep.refl h0 []).ext E1_).ext E2_).ext E5_).trans K6_ (allS (Or.inr (Nat.le_trans E1_.1 (Nat.le_of_eq g2_.symm))) all0)), (Nat.le_trans E1_.1 (Nat.le_of_eq g2_.symm)), r11_, r12_, r13_, r14_, (by rw [own_units0 hA]; exact own_cod_nil)⟩ (by decide) (by decide)
  · refine own_viaH (fun _ k => XS.icmpNo X1_.here hx rfl (hb hby own_d_5_9) rfl (flt hA).1 k) ?_
    show own_FinH _ _ _ _ _ _ _ _ _ T1_ (mkF m 12 #[.val (.int n), .val (.int c1), .val (.int c2), .val (.ref b1_), .val (.int (0 : Int32))] [])
    refine own_viaH (fun _ k => XS.aloadN X1_.here hx rfl (hb hby own_d_5_12) rfl rfl k) ?_
    show own_FinH _ _ _ _ _ _ _ _ _ T1_ (mkF m 13 #[.val (.int n), .val (.int c1), .val (.int c2), .val (.ref b1_), .val (.int (0 : Int32))] [(.ref b1_)])
    refine own_viaH (fun _ k => XS.iload X1_.here hx rfl (hb hby own_d_5_13) rfl k) ?_
    show own_FinH _ _ _ _ _ _ _ _ _ T1_ (mkF m 15 #[.val (.int n), .val (.int c1), .val (.int c2), .val (.ref b1_), .val (.int (0 : Int32))] [(.int (0 : Int32)), (.ref b1_)])
    refine own_viaH (fun _ k => XS.iloadN X1_.here hx rfl (hb hby own_d_5_15) rfl k) ?_
    show own_FinH _ _ _ _ _ _ _ _ _ T1_ (mkF m 16 #[.val (.int n), .val (.int c1), .val (.int c2), .val (.ref b1_), .val (.int (0 : Int32))] [(.int c1), (.int (0 : Int32)), (.ref b1_)])
    rcases h1 with hbc1 | hsc1
    · have g17_ : n0 ≤ b1_ := Nat.le_trans Z0 (Nat.le_of_eq g1_.symm)
      obtain ⟨_, _, ⟨T16_, L16_, k16_, n16_⟩, -, X16_, ⟨Lc16_, hQ16_, l16_, y16_, z16_⟩, st16_⟩ := Jvm.LawKit.callS X1_ hx (y := (⟨"com/example/co_occurrence_ranking/cooccurrenceranking/io/LineReaderCompareFieldsPinLaw", "put", "([CII)I"⟩ : MethodName)) hown (mvT hZ (hw _ (List.mem_of_getElem? (i := 65) rfl))) (mvT hZ (hw _ (List.mem_of_getElem? (i := 66) rfl))) (mvT hZ (hw _ (List.mem_of_getElem? (i := 2) rfl))) (mvT hZ (hw _ (List.mem_of_getElem? (i := 67) rfl))) (by decide) (backOf (W := 0) (own_rm_put00 l Z a0 hw [] b1_ k1_ c1 (0 : Int32) (0 : Int32) (0 : Int32) (0 : Int32) h1_ n0 (Nat.le_trans Z0 E1_.1) V1_ g17_ hbc1) hZ (hw _ (List.mem_of_getElem? (i := 67) rfl)) (hw _ (List.mem_of_getElem? (i := 2) rfl)) (by decide) (by decide)) (g := (mkF m 16 #[.val (.int n), .val (.int c1), .val (.int c2), .val (.ref b1_), .val (.int (0 : Int32))] [(.int c1), (.int (0 : Int32)), (.ref b1_)])) rfl (by rw [hml]; rfl) (argsL := [(.ref b1_), (.int (0 : Int32)), (.int c1)]) (rest := []) (lenOf own_pd22 rfl) rfl (by show 2 * 0 + _ ≤ _; exact Nat.le_of_eq rfl) (hb hby own_d_5_16) (fun _ _ => ⟨rfl, e1_, (by decide : 0 + 1 + 0 ≤ _), (by decide : 0 + 4 + 0 ≤ _)⟩)
      dsimp only [Pt.U, Pt.locs, Pt.cells, Pt.slots] at X16_ l16_ y16_ z16_ st16_ hQ16_
      subst l16_ y16_ z16_
      obtain ⟨rfl, Nq16_, K16_, r18_⟩ := hQ16_
      have N16_ := Fr.app N0 Nq16_
      refine own_viaH (fun _ k => st16_ _ k) ?_
      show own_FinH _ _ _ _ _ _ _ _ _ T16_ (mkF m 19 #[.val (.int n), .val (.int c1), .val (.int c2), .val (.ref b1_), .val (.int (0 : Int32))] [(.int (1 : Int32))])
      refine own_viaH (fun _ k => XS.istore X16_.here hx rfl (hb hby own_d_5_19) rfl (l' := #[.val (.int n), .val (.int c1), .val (.int c2), .val (.ref b1_), .val (.int (1 : Int32))]) rfl k) ?_
      show own_FinH _ _ _ _ _ _ _ _ _ T16_ (mkF m 21 #[.val (.int n), .val (.int c1), .val (.int c2), .val (.ref b1_), .val (.int (1 : Int32))] [])
      refine own_viaH (fun _ k => XS.iloadN X16_.here hx rfl (hb hby own_d_5_21) rfl k) ?_
      show own_FinH _ _ _ _ _ _ _ _ _ T16_ (mkF m 22 #[.val (.int n), .val (.int c1), .val (.int c2), .val (.ref b1_), .val (.int (1 : Int32))] [(.int n)])
      refine own_viaH (fun _ k => XS.iconst X16_.here hx rfl (hb hby own_d_5_22) k) ?_
      show own_FinH _ _ _ _ _ _ _ _ _ T16_ (mkF m 23 #[.val (.int n), .val (.int c1), .val (.int c2), .val (.ref b1_), .val (.int (1 : Int32))] [(.int (2 : Int32)), (.int n)])
      rcases Classical.em (n < (2 : Int32)) with hB | hB
      · refine own_viaH (fun _ k => XS.icmpYes X16_.here hx rfl (pc0 := 23) (pc' := 35) rfl (hb hby own_d_5_23) rfl (tlt hB).1 (by decide) (by decide) k) ?_
        show own_FinH _ _ _ _ _ _ _ _ _ T16_ (mkF m 35 #[.val (.int n), .val (.int c1), .val (.int c2), .val (.ref b1_), .val (.int (1 : Int32))] [])
        refine own_viaH (fun _ k => XS.iload X16_.here hx rfl (hb hby own_d_5_35) rfl k) ?_
        show own_FinH _ _ _ _ _ _ _ _ _ T16_ (mkF m 37 #[.val (.int n), .val (.int c1), .val (.int c2), .val (.ref b1_), .val (.int (1 : Int32))] [(.int (1 : Int32))])
        refine own_viaH (fun _ k => XS.ifYes X16_.here hx rfl (pc0 := 37) (pc' := 51) rfl (hb hby own_d_5_37) rfl ((if0 _ _).trans (feq (by decide)).2) (by decide) (by decide) k) ?_
        show own_FinH _ _ _ _ _ _ _ _ _ T16_ (mkF m 51 #[.val (.int n), .val (.int c1), .val (.int c2), .val (.ref b1_), .val (.int (1 : Int32))] [])
        refine own_viaH (fun _ k => XS.iload X16_.here hx rfl (hb hby own_d_5_51) rfl k) ?_
        show own_FinH _ _ _ _ _ _ _ _ _ T16_ (mkF m 53 #[.val (.int n), .val (.int c1), .val (.int c2), .val (.ref b1_), .val (.int (1 : Int32))] [(.int (1 : Int32))])
        refine own_viaH (fun _ k => XS.iconst X16_.here hx rfl (hb hby own_d_5_53) k) ?_
        show own_FinH _ _ _ _ _ _ _ _ _ T16_ (mkF m 54 #[.val (.int n), .val (.int c1), .val (.int c2), .val (.ref b1_), .val (.int (1 : Int32))] [(.int (1 : Int32)), (.int (1 : Int32))])
        refine own_viaH (fun _ k => XS.icmpNo X16_.here hx rfl (hb hby own_d_5_54) rfl (teq rfl).2 k) ?_
        show own_FinH _ _ _ _ _ _ _ _ _ T16_ (mkF m 57 #[.val (.int n), .val (.int c1), .val (.int c2), .val (.ref b1_), .val (.int (1 : Int32))] [])
        obtain ⟨T19_, h19_, X19_, e19_, E19_, A19_, D19_, -, st19_⟩ := newO X16_ hx hZ hown (hw _ (List.mem_of_getElem? (i := 12) rfl)) (hw _ (List.mem_of_getElem? (i := 13) rfl)) (hw _ (List.mem_of_getElem? (i := 14) rfl)) rfl (g := (mkF m 57 #[.val (.int n), .val (.int c1), .val (.int c2), .val (.ref b1_), .val (.int (1 : Int32))] [])) rfl (hb hby own_d_5_57) (by decide) (by decide)
        obtain ⟨b19_, g19_⟩ : ∃ z, z = T16_.heap.size := ⟨_, rfl⟩
        rw [← g19_] at A19_ D19_ st19_
        have F20_ : Fld Z h19_ b19_ "java/lang/String" "value" "[B" .null := D19_ (Or.inr (hw _ (List.mem_of_getElem? (i := 27) rfl))) (ty := (.array .byte)) (by decide)
        have F21_ : Fld Z h19_ b19_ "java/lang/String" "coder" "B" (.int (0 : Int32)) := D19_ (Or.inr (hw _ (List.mem_of_getElem? (i := 28) rfl))) (ty := .byte) (by decide)
        refine own_viaH (fun _ k => st19_ _ k) ?_
        show own_FinH _ _ _ _ _ _ _ _ _ T19_ (mkF m 60 #[.val (.int n), .val (.int c1), .val (.int c2), .val (.ref b1_), .val (.int (1 : Int32))] [(.ref b19_)])
        refine own_viaH (fun _ k => XS.dup X19_.here hx rfl (hb hby own_d_5_60) rfl rfl k) ?_
        show own_FinH _ _ _ _ _ _ _ _ _ T19_ (mkF m 61 #[.val (.int n), .val (.int c1), .val (.int c2), .val (.ref b1_), .val (.int (1 : Int32))] [(.ref b19_), (.ref b19_)])
        refine own_viaH (fun _ k => XS.iconst X19_.here hx rfl (hb hby own_d_5_61) k) ?_
        show own_FinH _ _ _ _ _ _ _ _ _ T19_ (mkF m 62 #[.val (.int n), .val (.int c1), .val (.int c2), .val (.ref b1_), .val (.int (1 : Int32))] [(.int (1 : Int32)), (.ref b19_), (.ref b19_)])
        obtain ⟨T22_, h22_, k22_, X22_, e22_, E22_, A22_, st22_⟩ := newP X19_ hx hZ (hw _ (List.mem_of_getElem? (i := 11) rfl)) e19_ (g := (mkF m 62 #[.val (.int n), .val (.int c1), .val (.int c2), .val (.ref b1_), .val (.int (1 : Int32))] [(.int (1 : Int32)), (.ref b19_), (.ref b19_)])) rfl (hb hby own_d_5_62) rfl (by decide) (cap := 1) (by decide) (by decide) (by decide) (by decide)
        obtain ⟨b22_, g22_⟩ : ∃ z, z = h19_.size := ⟨_, rfl⟩
        rw [← g22_] at A22_ st22_
        have V22_ : Arv Z h22_ b22_ k22_ .char (1 : Int32) [(.int (0 : Int32))] (.int (0 : Int32)) := (Arv.new A22_ (by decide)).pad (pad_rep [] (.int (0 : Int32)) 1)
        refine own_viaH (fun _ k => st22_ _ k) ?_
        show own_FinH _ _ _ _ _ _ _ _ _ T22_ (mkF m 64 #[.val (.int n), .val (.int c1), .val (.int c2), .val (.ref b1_), .val (.int (1 : Int32))] [(.ref b22_), (.ref b19_), (.ref b19_)])
        refine own_viaH (fun _ k => XS.dup X22_.here hx rfl (hb hby own_d_5_64) rfl rfl k) ?_
        show own_FinH _ _ _ _ _ _ _ _ _ T22_ (mkF m 65 #[.val (.int n), .val (.int c1), .val (.int c2), .val (.ref b1_), .val (.int (1 : Int32))] [(.ref b22_), (.ref b22_), (.ref b19_), (.ref b19_)])
        refine own_viaH (fun _ k => XS.iconst X22_.here hx rfl (hb hby own_d_5_65) k) ?_
        show own_FinH _ _ _ _ _ _ _ _ _ T22_ (mkF m 66 #[.val (.int n), .val (.int c1), .val (.int c2), .val (.ref b1_), .val (.int (1 : Int32))] [(.int (0 : Int32)), (.ref b22_), (.ref b22_), (.ref b19_), (.ref b19_)])
        refine own_viaH (fun _ k => XS.aloadN X22_.here hx rfl (hb hby own_d_5_66) rfl rfl k) ?_
        show own_FinH _ _ _ _ _ _ _ _ _ T22_ (mkF m 67 #[.val (.int n), .val (.int c1), .val (.int c2), .val (.ref b1_), .val (.int (1 : Int32))] [(.ref b1_), (.int (0 : Int32)), (.ref b22_), (.ref b22_), (.ref b19_), (.ref b19_)])
        refine own_viaH (fun _ k => XS.iconst X22_.here hx rfl (hb hby own_d_5_67) k) ?_
        show own_FinH _ _ _ _ _ _ _ _ _ T22_ (mkF m 68 #[.val (.int n), .val (.int c1), .val (.int c2), .val (.ref b1_), .val (.int (1 : Int32))] [(.int (0 : Int32)), (.ref b1_), (.int (0 : Int32)), (.ref b22_), (.ref b22_), (.ref b19_), (.ref b19_)])
        obtain ⟨c23_, Ar23_, q23_, S23_, M23_, H23_, G23_⟩ := (id ((r18_.ext E19_).ext E22_))
        have hin23_ : ¬ ((0 : Int32) < 0 ∨ c23_.slots.size ≤ ((0 : Int32)).toNatClampNeg) := inb_of S23_ ⟨by decide, by decide⟩
        have hat23_ : c23_.slots[((0 : Int32)).toNatClampNeg]? = some (.int c1) := H23_.at hin23_ rfl
        refine own_viaH (fun _ k => X22_.caload hx (j := (0 : Int32)) (v := (.int c1)) (own_eq e22_ Ar23_.1) (State.isArrayOf_alike hZ.alike Ar23_.2.1) Ar23_.2.2 hin23_ hat23_ (g := (mkF m 68 #[.val (.int n), .val (.int c1), .val (.int c2), .val (.ref b1_), .val (.int (1 : Int32))] [(.int (0 : Int32)), (.ref b1_), (.int (0 : Int32)), (.ref b22_), (.ref b22_), (.ref b19_), (.ref b19_)])) rfl rfl (hb hby own_d_5_68) _ k) ?_
        show own_FinH _ _ _ _ _ _ _ _ _ T22_ (mkF m 69 #[.val (.int n), .val (.int c1), .val (.int c2), .val (.ref b1_), .val (.int (1 : Int32))] [(.int c1), (.int (0 : Int32)), (.ref b22_), (.ref b22_), (.ref b19_), (.ref b19_)])
        obtain ⟨c24_, Ar24_, q24_, S24_, M24_, H24_, G24_⟩ := (id V22_)
        have hin24_ : ¬ ((0 : Int32) < 0 ∨ c24_.slots.size ≤ ((0 : Int32)).toNatClampNeg) := inb_of S24_ ⟨by decide, by decide⟩
        obtain ⟨T24_, h24_, X24_, e24_, W24_, st24_⟩ := stC X22_ hx hZ e22_ Ar24_ (j := (0 : Int32)) hin24_ (g := (mkF m 69 #[.val (.int n), .val (.int c1), .val (.int c2), .val (.ref b1_), .val (.int (1 : Int32))] [(.int c1), (.int (0 : Int32)), (.ref b22_), (.ref b22_), (.ref b19_), (.ref b19_)])) rfl rfl (hb hby own_d_5_69)
        have V24_ := Arv.set Ar24_ q24_ S24_ M24_ H24_ G24_ (fits_nar_char _) W24_ 0 rfl (Nat.le_of_ble_eq_true rfl)
        have U24_ : Arv Z h24_ b22_ k22_ .char (1 : Int32) [(.int c1)] (.int (0 : Int32)) := by
          have hq := V24_
          rw [show nar .char c1 = c1 from (own_narch (own_bmp_chr hbc1))] at hq
          exact hq
        have g25_ : n0 ≤ b22_ := Nat.le_trans (Nat.le_trans Z0 (Nat.le_trans (Nat.le_trans E1_.1 K16_.1) E19_.1)) (Nat.le_of_eq g22_.symm)
        have N24_ := Fr.snoc X24_ N16_ g25_
        refine own_viaH (fun _ k => st24_ _ k) ?_
        show own_FinH _ _ _ _ _ _ _ _ _ T24_ (mkF m 70 #[.val (.int n), .val (.int c1), .val (.int c2), .val (.ref b1_), .val (.int (1 : Int32))] [(.ref b22_), (.ref b19_), (.ref b19_)])
        have f27_ := (((((O0.ext E1_).keep K16_ (allS g17_ all0)).ext E19_).ext E22_).wr W24_ g25_)
        have q28_ : b19_ ≠ b22_ := Nat.ne_of_lt (Nat.lt_of_lt_of_le A19_.lt (Nat.le_of_eq g22_.symm))
        have g29_ : n0 ≤ b19_ := Nat.le_trans (Nat.le_trans Z0 (Nat.le_trans E1_.1 K16_.1)) (Nat.le_of_eq g19_.symm)
        obtain ⟨_, _, ⟨T26_, L26_, k26_, n26_⟩, -, X26_, ⟨Lc26_, hQ26_, l26_, y26_, z26_⟩, st26_⟩ := X24_.specialBack hx (y := (⟨"java/lang/String", "<init>", "([C)V"⟩ : MethodName)) rfl hown (mvT hZ (hw _ (List.mem_of_getElem? (i := 15) rfl))) (mvT hZ (hw _ (List.mem_of_getElem? (i := 16) rfl))) (mvT hZ (hw _ (List.mem_of_getElem? (i := 17) rfl))) (by decide) (backOf (W := 1) (own_rm_sInitC l Z a0 hw [] b19_ cz .null (.int (0 : Int32)) b22_ k22_ (1 : Int32) [c1] h24_ n0 (Nat.le_trans Z0 (Nat.le_trans (Nat.le_trans (Nat.le_trans (Nat.le_trans E1_.1 K16_.1) E19_.1) E22_.1) (Keep.of_wr W24_).1)) f27_ S1 (by first | assumption | decide) S3 S4 S5 ((A19_.ext E22_).wr W24_) ((F20_.ext E22_).other W24_ (Or.inl q28_)) ((F21_.ext E22_).other W24_ (Or.inl q28_)) g29_ U24_ rfl (by simp) (by simp) (own_ch1 (own_bmp_chr hbc1))) hZ (hw _ (List.mem_of_getElem? (i := 17) rfl)) (hw _ (List.mem_of_getElem? (i := 14) rfl)) (by decide) (by decide)) (g := (mkF m 70 #[.val (.int n), .val (.int c1), .val (.int c2), .val (.ref b1_), .val (.int (1 : Int32))] [(.ref b22_), (.ref b19_), (.ref b19_)])) rfl (by rw [hml]; rfl) (Steps.refl _) (a := b19_) (argsL := [(.ref b22_)]) (rest := [(.ref b19_)]) (lenOf own_pd21 rfl) rfl (by show 2 * 0 + _ ≤ _; exact Nat.le_of_eq rfl) (hb hby own_d_5_70) (fun _ _ => ⟨rfl, e24_, (by decide : 0 + 1 + 0 + 1 + 1 + 2 ≤ _), (by decide : 0 + 4 + 0 + 4 + 1 + 12 ≤ _)⟩)
        dsimp only [Pt.U, Pt.locs, Pt.cells, Pt.slots] at X26_ l26_ y26_ z26_ st26_ hQ26_
        subst l26_ y26_ z26_
        obtain ⟨t, kt, cd, N2, vs, rfl, Nq26_, K26_, r30_, r31_, r32_, r33_, r34_, hcod⟩ := hQ26_
        have N26_ := Fr.app N24_ Nq26_
        refine own_viaH (fun _ k => st26_.trans k) ?_
        show own_FinH _ _ _ _ _ _ _ _ _ T26_ (mkF m 73 #[.val (.int n), .val (.int c1), .val (.int c2), .val (.ref b1_), .val (.int (1 : Int32))] [(.ref b19_)])
        have C35_ := C0.trans (CHr.ext E1_ H0)
        have H35_ := C35_.1
        have sf37_ : Safe Z own_EL s.vm h0 b1_ := Safe.new (Nat.le_of_eq g1_.symm)
        have sf38_ : Safe Z own_EL s.vm h1_ b1_ := Safe.ext E1_ H0 sf37_
        have C36_ := C35_.trans (CHr.keep K16_ (sfS sf38_ sf0) H35_)
        have H36_ := C36_.1
        have C39_ := C36_.trans (CHr.ext E19_ H36_)
        have H39_ := C39_.1
        have C40_ := C39_.trans (CHr.ext E22_ H39_)
        have H40_ := C40_.1
        have sf42_ : Safe Z own_EL s.vm h19_ b22_ := Safe.new (Nat.le_of_eq g22_.symm)
        have sf43_ : Safe Z own_EL s.vm h22_ b22_ := Safe.ext E22_ H39_ sf42_
        have C41_ := C40_.trans (CHr.wr W24_ sf43_ H40_)
        have H41_ := C41_.1
        have sf45_ : Safe Z own_EL s.vm T16_.heap b19_ := Safe.new (Nat.le_of_eq g19_.symm)
        have sf46_ : Safe Z own_EL s.vm h19_ b19_ := Safe.ext E19_ H36_ sf45_
        have sf47_ : Safe Z own_EL s.vm h22_ b19_ := Safe.ext E22_ H39_ sf46_
        have sf48_ : Safe Z own_EL s.vm h24_ b19_ := Safe.wr W24_ sf43_ H40_ sf47_
        have C44_ := C41_.trans (CHr.keep K26_ (sfS sf48_ sf0) H41_)
        have H44_ := C44_.1
        exact own_retAH X26_ hx Bd.returns Bd.notSynchronized (own_ew hw) hZ hS0 (Nat.le_trans hk0 (Nat.le_trans (Nat.le_trans (Nat.le_trans (Nat.le_trans (Nat.le_trans E1_.1 K16_.1) E19_.1) E22_.1) (Keep.of_wr W24_).1) K26_.1)) hh C44_ rfl rfl (hb hby own_d_5_73) rfl ⟨b19_, t, kt, cd, N2, vs, rfl, N26_, (((((((Keep.refl h0 []).ext E1_).trans K16_ (allS (Or.inr (Nat.le_of_eq g1_.symm)) all0)).ext E19_).ext E22_).wr W24_ (Or.inr (Nat.le_trans (Nat.le_trans (Nat.le_trans E1_.1 K16_.1) E19_.1) (Nat.le_of_eq g22_.symm)))).trans K26_ (allS (Or.inr (Nat.le_trans (Nat.le_trans E1_.1 K16_.1) (Nat.le_of_eq g19_.symm))) all0)), (Nat.le_trans (Nat.le_trans E1_.1 K16_.1) (Nat.le_of_eq g19_.symm)), r30_, r31_, r32_, r34_, (by rw [own_units1b hA hB hbc1]; exact hcod)⟩ (by decide) (by decide)
      · refine own_viaH (fun _ k => XS.icmpNo X16_.here hx rfl (hb hby own_d_5_23) rfl (flt hB).1 k) ?_
        show own_FinH _ _ _ _ _ _ _ _ _ T16_ (mkF m 26 #[.val (.int n), .val (.int c1), .val (.int c2), .val (.ref b1_), .val (.int (1 : Int32))] [])
        refine own_viaH (fun _ k => XS.aloadN X16_.here hx rfl (hb hby own_d_5_26) rfl rfl k) ?_
        show own_FinH _ _ _ _ _ _ _ _ _ T16_ (mkF m 27 #[.val (.int n), .val (.int c1), .val (.int c2), .val (.ref b1_), .val (.int (1 : Int32))] [(.ref b1_)])
        refine own_viaH (fun _ k => XS.iload X16_.here hx rfl (hb hby own_d_5_27) rfl k) ?_
        show own_FinH _ _ _ _ _ _ _ _ _ T16_ (mkF m 29 #[.val (.int n), .val (.int c1), .val (.int c2), .val (.ref b1_), .val (.int (1 : Int32))] [(.int (1 : Int32)), (.ref b1_)])
        refine own_viaH (fun _ k => XS.iloadN X16_.here hx rfl (hb hby own_d_5_29) rfl k) ?_
        show own_FinH _ _ _ _ _ _ _ _ _ T16_ (mkF m 30 #[.val (.int n), .val (.int c1), .val (.int c2), .val (.ref b1_), .val (.int (1 : Int32))] [(.int c2), (.int (1 : Int32)), (.ref b1_)])
        rcases h2 with hbc2 | hsc2
        · obtain ⟨_, _, ⟨T49_, L49_, k49_, n49_⟩, -, X49_, ⟨Lc49_, hQ49_, l49_, y49_, z49_⟩, st49_⟩ := Jvm.LawKit.callS X16_ hx (y := (⟨"com/example/co_occurrence_ranking/cooccurrenceranking/io/LineReaderCompareFieldsPinLaw", "put", "([CII)I"⟩ : MethodName)) hown (mvT hZ (hw _ (List.mem_of_getElem? (i := 65) rfl))) (mvT hZ (hw _ (List.mem_of_getElem? (i := 66) rfl))) (mvT hZ (hw _ (List.mem_of_getElem? (i := 2) rfl))) (mvT hZ (hw _ (List.mem_of_getElem? (i := 67) rfl))) (by decide) (backOf (W := 0) (own_rm_put10 l Z a0 hw [] b1_ k1_ c2 c1 (0 : Int32) (0 : Int32) (0 : Int32) T16_.heap n0 (Nat.le_trans Z0 (Nat.le_trans E1_.1 K16_.1)) r18_ g17_ hbc2) hZ (hw _ (List.mem_of_getElem? (i := 67) rfl)) (hw _ (List.mem_of_getElem? (i := 2) rfl)) (by decide) (by decide)) (g := (mkF m 30 #[.val (.int n), .val (.int c1), .val (.int c2), .val (.ref b1_), .val (.int (1 : Int32))] [(.int c2), (.int (1 : Int32)), (.ref b1_)])) rfl (by rw [hml]; rfl) (argsL := [(.ref b1_), (.int (1 : Int32)), (.int c2)]) (rest := []) (lenOf own_pd22 rfl) rfl (by show 2 * 0 + _ ≤ _; exact Nat.le_of_eq rfl) (hb hby own_d_5_30) (fun _ _ => ⟨rfl, rfl, (by decide : 0 + 1 + 0 + 0 ≤ _), (by decide : 0 + 4 + 0 + 0 ≤ _)⟩)
          dsimp only [Pt.U, Pt.locs, Pt.cells, Pt.slots] at X49_ l49_ y49_ z49_ st49_ hQ49_
          subst l49_ y49_ z49_
          obtain ⟨rfl, Nq49_, K49_, r50_⟩ := hQ49_
          have N49_ := Fr.app N16_ Nq49_
          refine own_viaH (fun _ k => st49_ _ k) ?_
          show own_FinH _ _ _ _ _ _ _ _ _ T49_ (mkF m 33 #[.val (.int n), .val (.int c1), .val (.int c2), .val (.ref b1_), .val (.int (1 : Int32))] [(.int (2 : Int32))])
          refine own_viaH (fun _ k => XS.istore X49_.here hx rfl (hb hby own_d_5_33) rfl (l' := #[.val (.int n), .val (.int c1), .val (.int c2), .val (.ref b1_), .val (.int (2 : Int32))]) rfl k) ?_
          show own_FinH _ _ _ _ _ _ _ _ _ T49_ (mkF m 35 #[.val (.int n), .val (.int c1), .val (.int c2), .val (.ref b1_), .val (.int (2 : Int32))] [])
          refine own_viaH (fun _ k => XS.iload X49_.here hx rfl (hb hby own_d_5_35) rfl k) ?_
          show own_FinH _ _ _ _ _ _ _ _ _ T49_ (mkF m 37 #[.val (.int n), .val (.int c1), .val (.int c2), .val (.ref b1_), .val (.int (2 : Int32))] [(.int (2 : Int32))])
          refine own_viaH (fun _ k => XS.ifYes X49_.here hx rfl (pc0 := 37) (pc' := 51) rfl (hb hby own_d_5_37) rfl ((if0 _ _).trans (feq (by decide)).2) (by decide) (by decide) k) ?_
          show own_FinH _ _ _ _ _ _ _ _ _ T49_ (mkF m 51 #[.val (.int n), .val (.int c1), .val (.int c2), .val (.ref b1_), .val (.int (2 : Int32))] [])
          refine own_viaH (fun _ k => XS.iload X49_.here hx rfl (hb hby own_d_5_51) rfl k) ?_
          show own_FinH _ _ _ _ _ _ _ _ _ T49_ (mkF m 53 #[.val (.int n), .val (.int c1), .val (.int c2), .val (.ref b1_), .val (.int (2 : Int32))] [(.int (2 : Int32))])
          refine own_viaH (fun _ k => XS.iconst X49_.here hx rfl (hb hby own_d_5_53) k) ?_
          show own_FinH _ _ _ _ _ _ _ _ _ T49_ (mkF m 54 #[.val (.int n), .val (.int c1), .val (.int c2), .val (.ref b1_), .val (.int (2 : Int32))] [(.int (1 : Int32)), (.int (2 : Int32))])
          refine own_viaH (fun _ k => XS.icmpYes X49_.here hx rfl (pc0 := 54) (pc' := 74) rfl (hb hby own_d_5_54) rfl (feq (by decide)).2 (by decide) (by decide) k) ?_
          show own_FinH _ _ _ _ _ _ _ _ _ T49_ (mkF m 74 #[.val (.int n), .val (.int c1), .val (.int c2), .val (.ref b1_), .val (.int (2 : Int32))] [])
          refine own_viaH (fun _ k => XS.iload X49_.here hx rfl (hb hby own_d_5_74) rfl k) ?_
          show own_FinH _ _ _ _ _ _ _ _ _ T49_ (mkF m 76 #[.val (.int n), .val (.int c1), .val (.int c2), .val (.ref b1_), .val (.int (2 : Int32))] [(.int (2 : Int32))])
          refine own_viaH (fun _ k => XS.iconst X49_.here hx rfl (hb hby own_d_5_76) k) ?_
          show own_FinH _ _ _ _ _ _ _ _ _ T49_ (mkF m 77 #[.val (.int n), .val (.int c1), .val (.int c2), .val (.ref b1_), .val (.int (2 : Int32))] [(.int (2 : Int32)), (.int (2 : Int32))])
          refine own_viaH (fun _ k => XS.icmpNo X49_.here hx rfl (hb hby own_d_5_77) rfl (teq rfl).2 k) ?_
          show own_FinH _ _ _ _ _ _ _ _ _ T49_ (mkF m 80 #[.val (.int n), .val (.int c1), .val (.int c2), .val (.ref b1_), .val (.int (2 : Int32))] [])
          obtain ⟨T51_, h51_, X51_, e51_, E51_, A51_, D51_, -, st51_⟩ := newO X49_ hx hZ hown (hw _ (List.mem_of_getElem? (i := 12) rfl)) (hw _ (List.mem_of_getElem? (i := 13) rfl)) (hw _ (List.mem_of_getElem? (i := 14) rfl)) rfl (g := (mkF m 80 #[.val (.int n), .val (.int c1), .val (.int c2), .val (.ref b1_), .val (.int (2 : Int32))] [])) rfl (hb hby own_d_5_80) (by decide) (by decide)
          obtain ⟨b51_, g51_⟩ : ∃ z, z = T49_.heap.size := ⟨_, rfl⟩
          rw [← g51_] at A51_ D51_ st51_
          have F52_ : Fld Z h51_ b51_ "java/lang/String" "value" "[B" .null := D51_ (Or.inr (hw _ (List.mem_of_getElem? (i := 27) rfl))) (ty := (.array .byte)) (by decide)
          have F53_ : Fld Z h51_ b51_ "java/lang/String" "coder" "B" (.int (0 : Int32)) := D51_ (Or.inr (hw _ (List.mem_of_getElem? (i := 28) rfl))) (ty := .byte) (by decide)
          refine own_viaH (fun _ k => st51_ _ k) ?_
          show own_FinH _ _ _ _ _ _ _ _ _ T51_ (mkF m 83 #[.val (.int n), .val (.int c1), .val (.int c2), .val (.ref b1_), .val (.int (2 : Int32))] [(.ref b51_)])
          refine own_viaH (fun _ k => XS.dup X51_.here hx rfl (hb hby own_d_5_83) rfl rfl k) ?_
          show own_FinH _ _ _ _ _ _ _ _ _ T51_ (mkF m 84 #[.val (.int n), .val (.int c1), .val (.int c2), .val (.ref b1_), .val (.int (2 : Int32))] [(.ref b51_), (.ref b51_)])
          refine own_viaH (fun _ k => XS.iconst X51_.here hx rfl (hb hby own_d_5_84) k) ?_
          show own_FinH _ _ _ _ _ _ _ _ _ T51_ (mkF m 85 #[.val (.int n), .val (.int c1), .val (.int c2), .val (.ref b1_), .val (.int (2 : Int32))] [(.int (2 : Int32)), (.ref b51_), (.ref b51_)])
          obtain ⟨T54_, h54_, k54_, X54_, e54_, E54_, A54_, st54_⟩ := newP X51_ hx hZ (hw _ (List.mem_of_getElem? (i := 11) rfl)) e51_ (g := (mkF m 85 #[.val (.int n), .val (.int c1), .val (.int c2), .val (.ref b1_), .val (.int (2 : Int32))] [(.int (2 : Int32)), (.ref b51_), (.ref b51_)])) rfl (hb hby own_d_5_85) rfl (by decide) (cap := 2) (by decide) (by decide) (by decide) (by decide)
          obtain ⟨b54_, g54_⟩ : ∃ z, z = h51_.size := ⟨_, rfl⟩
          rw [← g54_] at A54_ st54_
          have V54_ : Arv Z h54_ b54_ k54_ .char (2 : Int32) [(.int (0 : Int32)), (.int (0 : Int32))] (.int (0 : Int32)) := (Arv.new A54_ (by decide)).pad (pad_rep [] (.int (0 : Int32)) 2)
          refine own_viaH (fun _ k => st54_ _ k) ?_
          show own_FinH _ _ _ _ _ _ _ _ _ T54_ (mkF m 87 #[.val (.int n), .val (.int c1), .val (.int c2), .val (.ref b1_), .val (.int (2 : Int32))] [(.ref b54_), (.ref b51_), (.ref b51_)])
          refine own_viaH (fun _ k => XS.dup X54_.here hx rfl (hb hby own_d_5_87) rfl rfl k) ?_
          show own_FinH _ _ _ _ _ _ _ _ _ T54_ (mkF m 88 #[.val (.int n), .val (.int c1), .val (.int c2), .val (.ref b1_), .val (.int (2 : Int32))] [(.ref b54_), (.ref b54_), (.ref b51_), (.ref b51_)])
          refine own_viaH (fun _ k => XS.iconst X54_.here hx rfl (hb hby own_d_5_88) k) ?_
          show own_FinH _ _ _ _ _ _ _ _ _ T54_ (mkF m 89 #[.val (.int n), .val (.int c1), .val (.int c2), .val (.ref b1_), .val (.int (2 : Int32))] [(.int (0 : Int32)), (.ref b54_), (.ref b54_), (.ref b51_), (.ref b51_)])
          refine own_viaH (fun _ k => XS.aloadN X54_.here hx rfl (hb hby own_d_5_89) rfl rfl k) ?_
          show own_FinH _ _ _ _ _ _ _ _ _ T54_ (mkF m 90 #[.val (.int n), .val (.int c1), .val (.int c2), .val (.ref b1_), .val (.int (2 : Int32))] [(.ref b1_), (.int (0 : Int32)), (.ref b54_), (.ref b54_), (.ref b51_), (.ref b51_)])
          refine own_viaH (fun _ k => XS.iconst X54_.here hx rfl (hb hby own_d_5_90) k) ?_
          show own_FinH _ _ _ _ _ _ _ _ _ T54_ (mkF m 91 #[.val (.int n), .val (.int c1), .val (.int c2), .val (.ref b1_), .val (.int (2 : Int32))] [(.int (0 : Int32)), (.ref b1_), (.int (0 : Int32)), (.ref b54_), (.ref b54_), (.ref b51_), (.ref b51_)])
          obtain ⟨c55_, Ar55_, q55_, S55_, M55_, H55_, G55_⟩ := (id ((r50_.ext E51_).ext E54_))
          have hin55_ : ¬ ((0 : Int32) < 0 ∨ c55_.slots.size ≤ ((0 : Int32)).toNatClampNeg) := inb_of S55_ ⟨by decide, by decide⟩
          have hat55_ : c55_.slots[((0 : Int32)).toNatClampNeg]? = some (.int c1) := H55_.at hin55_ rfl
          refine own_viaH (fun _ k => X54_.caload hx (j := (0 : Int32)) (v := (.int c1)) (own_eq e54_ Ar55_.1) (State.isArrayOf_alike hZ.alike Ar55_.2.1) Ar55_.2.2 hin55_ hat55_ (g := (mkF m 91 #[.val (.int n), .val (.int c1), .val (.int c2), .val (.ref b1_), .val (.int (2 : Int32))] [(.int (0 : Int32)), (.ref b1_), (.int (0 : Int32)), (.ref b54_), (.ref b54_), (.ref b51_), (.ref b51_)])) rfl rfl (hb hby own_d_5_91) _ k) ?_
          show own_FinH _ _ _ _ _ _ _ _ _ T54_ (mkF m 92 #[.val (.int n), .val (.int c1), .val (.int c2), .val (.ref b1_), .val (.int (2 : Int32))] [(.int c1), (.int (0 : Int32)), (.ref b54_), (.ref b54_), (.ref b51_), (.ref b51_)])
          obtain ⟨c56_, Ar56_, q56_, S56_, M56_, H56_, G56_⟩ := (id V54_)
          have hin56_ : ¬ ((0 : Int32) < 0 ∨ c56_.slots.size ≤ ((0 : Int32)).toNatClampNeg) := inb_of S56_ ⟨by decide, by decide⟩
          obtain ⟨T56_, h56_, X56_, e56_, W56_, st56_⟩ := stC X54_ hx hZ e54_ Ar56_ (j := (0 : Int32)) hin56_ (g := (mkF m 92 #[.val (.int n), .val (.int c1), .val (.int c2), .val (.ref b1_), .val (.int (2 : Int32))] [(.int c1), (.int (0 : Int32)), (.ref b54_), (.ref b54_), (.ref b51_), (.ref b51_)])) rfl rfl (hb hby own_d_5_92)
          have V56_ := Arv.set Ar56_ q56_ S56_ M56_ H56_ G56_ (fits_nar_char _) W56_ 0 rfl (Nat.le_of_ble_eq_true rfl)
          have U56_ : Arv Z h56_ b54_ k54_ .char (2 : Int32) [(.int c1), (.int (0 : Int32))] (.int (0 : Int32)) := by
            have hq := V56_
            rw [show nar .char c1 = c1 from (own_narch (own_bmp_chr hbc1))] at hq
            exact hq
          have g57_ : n0 ≤ b54_ := Nat.le_trans (Nat.le_trans Z0 (Nat.le_trans (Nat.le_trans (Nat.le_trans E1_.1 K16_.1) K49_.1) E51_.1)) (Nat.le_of_eq g54_.symm)
          have N56_ := Fr.snoc X56_ N49_ g57_
          refine own_viaH (fun _ k => st56_ _ k) ?_
          show own_FinH _ _ _ _ _ _ _ _ _ T56_ (mkF m 93 #[.val (.int n), .val (.int c1), .val (.int c2), .val (.ref b1_), .val (.int (2 : Int32))] [(.ref b54_), (.ref b51_), (.ref b51_)])
          refine own_viaH (fun _ k => XS.dup X56_.here hx rfl (hb hby own_d_5_93) rfl rfl k) ?_
          show own_FinH _ _ _ _ _ _ _ _ _ T56_ (mkF m 94 #[.val (.int n), .val (.int c1), .val (.int c2), .val (.ref b1_), .val (.int (2 : Int32))] [(.ref b54_), (.ref b54_), (.ref b51_), (.ref b51_)])
          refine own_viaH (fun _ k => XS.iconst X56_.here hx rfl (hb hby own_d_5_94) k) ?_
          show own_FinH _ _ _ _ _ _ _ _ _ T56_ (mkF m 95 #[.val (.int n), .val (.int c1), .val (.int c2), .val (.ref b1_), .val (.int (2 : Int32))] [(.int (1 : Int32)), (.ref b54_), (.ref b54_), (.ref b51_), (.ref b51_)])
          refine own_viaH (fun _ k => XS.aloadN X56_.here hx rfl (hb hby own_d_5_95) rfl rfl k) ?_
          show own_FinH _ _ _ _ _ _ _ _ _ T56_ (mkF m 96 #[.val (.int n), .val (.int c1), .val (.int c2), .val (.ref b1_), .val (.int (2 : Int32))] [(.ref b1_), (.int (1 : Int32)), (.ref b54_), (.ref b54_), (.ref b51_), (.ref b51_)])
          refine own_viaH (fun _ k => XS.iconst X56_.here hx rfl (hb hby own_d_5_96) k) ?_
          show own_FinH _ _ _ _ _ _ _ _ _ T56_ (mkF m 97 #[.val (.int n), .val (.int c1), .val (.int c2), .val (.ref b1_), .val (.int (2 : Int32))] [(.int (1 : Int32)), (.ref b1_), (.int (1 : Int32)), (.ref b54_), (.ref b54_), (.ref b51_), (.ref b51_)])
          have q59_ : b1_ ≠ b54_ := Nat.ne_of_lt (Nat.lt_of_lt_of_le (r50_.ext E51_).lt (Nat.le_of_eq g54_.symm))
          obtain ⟨c58_, Ar58_, q58_, S58_, M58_, H58_, G58_⟩ := (id (((r50_.ext E51_).ext E54_).other W56_ q59_))
          have hin58_ : ¬ ((1 : Int32) < 0 ∨ c58_.slots.size ≤ ((1 : Int32)).toNatClampNeg) := inb_of S58_ ⟨by decide, by decide⟩
          have hat58_ : c58_.slots[((1 : Int32)).toNatClampNeg]? = some (.int c2) := H58_.at hin58_ rfl
          refine own_viaH (fun _ k => X56_.caload hx (j := (1 : Int32)) (v := (.int c2)) (own_eq e56_ Ar58_.1) (State.isArrayOf_alike hZ.alike Ar58_.2.1) Ar58_.2.2 hin58_ hat58_ (g := (mkF m 97 #[.val (.int n), .val (.int c1), .val (.int c2), .val (.ref b1_), .val (.int (2 : Int32))] [(.int (1 : Int32)), (.ref b1_), (.int (1 : Int32)), (.ref b54_), (.ref b54_), (.ref b51_), (.ref b51_)])) rfl rfl (hb hby own_d_5_97) _ k) ?_
          show own_FinH _ _ _ _ _ _ _ _ _ T56_ (mkF m 98 #[.val (.int n), .val (.int c1), .val (.int c2), .val (.ref b1_), .val (.int (2 : Int32))] [(.int c2), (.int (1 : Int32)), (.ref b54_), (.ref b54_), (.ref b51_), (.ref b51_)])
          obtain ⟨c60_, Ar60_, q60_, S60_, M60_, H60_, G60_⟩ := (id U56_)
          have hin60_ : ¬ ((1 : Int32) < 0 ∨ c60_.slots.size ≤ ((1 : Int32)).toNatClampNeg) := inb_of S60_ ⟨by decide, by decide⟩
          obtain ⟨T60_, h60_, X60_, e60_, W60_, st60_⟩ := stC X56_ hx hZ e56_ Ar60_ (j := (1 : Int32)) hin60_ (g := (mkF m 98 #[.val (.int n), .val (.int c1), .val (.int c2), .val (.ref b1_), .val (.int (2 : Int32))] [(.int c2), (.int (1 : Int32)), (.ref b54_), (.ref b54_), (.ref b51_), (.ref b51_)])) rfl rfl (hb hby own_d_5_98)
          have V60_ := Arv.set Ar60_ q60_ S60_ M60_ H60_ G60_ (fits_nar_char _) W60_ 1 rfl (Nat.le_of_ble_eq_true rfl)
          have U60_ : Arv Z h60_ b54_ k54_ .char (2 : Int32) [(.int c1), (.int c2)] (.int (0 : Int32)) := by
            have hq := V60_
            rw [show nar .char c2 = c2 from (own_narch (own_bmp_chr hbc2))] at hq
            exact hq
          have N60_ := Fr.snoc X60_ N56_ g57_
          refine own_viaH (fun _ k => st60_ _ k) ?_
          show own_FinH _ _ _ _ _ _ _ _ _ T60_ (mkF m 99 #[.val (.int n), .val (.int c1), .val (.int c2), .val (.ref b1_), .val (.int (2 : Int32))] [(.ref b54_), (.ref b51_), (.ref b51_)])
          have f62_ := (((((((O0.ext E1_).keep K16_ (allS g17_ all0)).keep K49_ (allS g17_ all0)).ext E51_).ext E54_).wr W56_ g57_).wr W60_ g57_)
          have q63_ : b51_ ≠ b54_ := Nat.ne_of_lt (Nat.lt_of_lt_of_le A51_.lt (Nat.le_of_eq g54_.symm))
          have f64_ := (((F52_.ext E54_).other W56_ (Or.inl q63_)).other W60_ (Or.inl q63_))
          have f65_ := (((F53_.ext E54_).other W56_ (Or.inl q63_)).other W60_ (Or.inl q63_))
          have g66_ : n0 ≤ b51_ := Nat.le_trans (Nat.le_trans Z0 (Nat.le_trans (Nat.le_trans E1_.1 K16_.1) K49_.1)) (Nat.le_of_eq g51_.symm)
          obtain ⟨_, _, ⟨T61_, L61_, k61_, n61_⟩, -, X61_, ⟨Lc61_, hQ61_, l61_, y61_, z61_⟩, st61_⟩ := X60_.specialBack hx (y := (⟨"java/lang/String", "<init>", "([C)V"⟩ : MethodName)) rfl hown (mvT hZ (hw _ (List.mem_of_getElem? (i := 15) rfl))) (mvT hZ (hw _ (List.mem_of_getElem? (i := 16) rfl))) (mvT hZ (hw _ (List.mem_of_getElem? (i := 17) rfl))) (by decide) (backOf (W := 1) (own_rm_sInitC l Z a0 hw [] b51_ cz .null (.int (0 : Int32)) b54_ k54_ (2 : Int32) [c1, c2] h60_ n0 (Nat.le_trans Z0 (Nat.le_trans (Nat.le_trans (Nat.le_trans (Nat.le_trans (Nat.le_trans (Nat.le_trans E1_.1 K16_.1) K49_.1) E51_.1) E54_.1) (Keep.of_wr W56_).1) (Keep.of_wr W60_).1)) f62_ S1 (by first | assumption | decide) S3 S4 S5 (((A51_.ext E54_).wr W56_).wr W60_) f64_ f65_ g66_ U60_ rfl (by simp) (by simp) (own_ch2 (own_bmp_chr hbc1) (own_bmp_chr hbc2))) hZ (hw _ (List.mem_of_getElem? (i := 17) rfl)) (hw _ (List.mem_of_getElem? (i := 14) rfl)) (by decide) (by decide)) (g := (mkF m 99 #[.val (.int n), .val (.int c1), .val (.int c2), .val (.ref b1_), .val (.int (2 : Int32))] [(.ref b54_), (.ref b51_), (.ref b51_)])) rfl (by rw [hml]; rfl) (Steps.refl _) (a := b51_) (argsL := [(.ref b54_)]) (rest := [(.ref b51_)]) (lenOf own_pd21 rfl) rfl (by show 2 * 0 + _ ≤ _; exact Nat.le_of_eq rfl) (hb hby own_d_5_99) (fun _ _ => ⟨rfl, e60_, (by decide : 0 + 1 + 0 + 0 + 1 + 1 + 2 ≤ _), (by decide : 0 + 4 + 0 + 0 + 4 + 2 + 12 ≤ _)⟩)
          dsimp only [Pt.U, Pt.locs, Pt.cells, Pt.slots] at X61_ l61_ y61_ z61_ st61_ hQ61_
          subst l61_ y61_ z61_
          obtain ⟨t, kt, cd, N2, vs, rfl, Nq61_, K61_, r67_, r68_, r69_, r70_, r71_, hcod⟩ := hQ61_
          have N61_ := Fr.app N60_ Nq61_
          refine own_viaH (fun _ k => st61_.trans k) ?_
          show own_FinH _ _ _ _ _ _ _ _ _ T61_ (mkF m 102 #[.val (.int n), .val (.int c1), .val (.int c2), .val (.ref b1_), .val (.int (2 : Int32))] [(.ref b51_)])
          have C72_ := C0.trans (CHr.ext E1_ H0)
          have H72_ := C72_.1
          have sf74_ : Safe Z own_EL s.vm h0 b1_ := Safe.new (Nat.le_of_eq g1_.symm)
          have sf75_ : Safe Z own_EL s.vm h1_ b1_ := Safe.ext E1_ H0 sf74_
          have C73_ := C72_.trans (CHr.keep K16_ (sfS sf75_ sf0) H72_)
          have H73_ := C73_.1
          have sf77_ : Safe Z own_EL s.vm h1_ b1_ := Safe.ext E1_ H0 sf74_
          have sf78_ : Safe Z own_EL s.vm T16_.heap b1_ := Safe.keep K16_ (sfS sf77_ sf0) H72_ sf77_
          have C76_ := C73_.trans (CHr.keep K49_ (sfS sf78_ sf0) H73_)
          have H76_ := C76_.1
          have C79_ := C76_.trans (CHr.ext E51_ H76_)
          have H79_ := C79_.1
          have C80_ := C79_.trans (CHr.ext E54_ H79_)
          have H80_ := C80_.1
          have sf82_ : Safe Z own_EL s.vm h51_ b54_ := Safe.new (Nat.le_of_eq g54_.symm)
          have sf83_ : Safe Z own_EL s.vm h54_ b54_ := Safe.ext E54_ H79_ sf82_
          have C81_ := C80_.trans (CHr.wr W56_ sf83_ H80_)
          have H81_ := C81_.1
          have sf85_ : Safe Z own_EL s.vm h54_ b54_ := Safe.ext E54_ H79_ sf82_
          have sf86_ : Safe Z own_EL s.vm h56_ b54_ := Safe.wr W56_ sf85_ H80_ sf85_
          have C84_ := C81_.trans (CHr.wr W60_ sf86_ H81_)
          have H84_ := C84_.1
          have sf88_ : Safe Z own_EL s.vm T49_.heap b51_ := Safe.new (Nat.le_of_eq g51_.symm)
          have sf89_ : Safe Z own_EL s.vm h51_ b51_ := Safe.ext E51_ H76_ sf88_
          have sf90_ : Safe Z own_EL s.vm h54_ b51_ := Safe.ext E54_ H79_ sf89_
          have sf91_ : Safe Z own_EL s.vm h56_ b51_ := Safe.wr W56_ sf85_ H80_ sf90_
          have sf92_ : Safe Z own_EL s.vm h60_ b51_ := Safe.wr W60_ sf86_ H81_ sf91_
          have C87_ := C84_.trans (CHr.keep K61_ (sfS sf92_ sf0) H84_)
          have H87_ := C87_.1
          exact own_retAH X61_ hx Bd.returns Bd.notSynchronized (own_ew hw) hZ hS0 (Nat.le_trans hk0 (Nat.le_trans (Nat.le_trans (Nat.le_trans (Nat.le_trans (Nat.le_trans (Nat.le_trans (Nat.le_trans E1_.1 K16_.1) K49_.1) E51_.1) E54_.1) (Keep.of_wr W56_).1) (Keep.of_wr W60_).1) K61_.1)) hh C87_ rfl rfl (hb hby own_d_5_102) rfl ⟨b51_, t, kt, cd, N2, vs, rfl, N61_, (((((((((Keep.refl h0 []).ext E1_).trans K16_ (allS (Or.inr (Nat.le_of_eq g1_.symm)) all0)).trans K49_ (allS (Or.inr (Nat.le_of_eq g1_.symm)) all0)).ext E51_).ext E54_).wr W56_ (Or.inr (Nat.le_trans (Nat.le_trans (Nat.le_trans (Nat.le_trans E1_.1 K16_.1) K49_.1) E51_.1) (Nat.le_of_eq g54_.symm)))).wr W60_ (Or.inr (Nat.le_trans (Nat.le_trans (Nat.le_trans (Nat.le_trans E1_.1 K16_.1) K49_.1) E51_.1) (Nat.le_of_eq g54_.symm)))).trans K61_ (allS (Or.inr (Nat.le_trans (Nat.le_trans (Nat.le_trans E1_.1 K16_.1) K49_.1) (Nat.le_of_eq g51_.symm))) all0)), (Nat.le_trans (Nat.le_trans (Nat.le_trans E1_.1 K16_.1) K49_.1) (Nat.le_of_eq g51_.symm)), r67_, r68_, r69_, r71_, (by rw [own_units2bb hA hB hbc1 hbc2]; exact hcod)⟩ (by decide) (by decide)
        · obtain ⟨_, _, ⟨T93_, L93_, k93_, n93_⟩, -, X93_, ⟨Lc93_, hQ93_, l93_, y93_, z93_⟩, st93_⟩ := Jvm.LawKit.callS X16_ hx (y := (⟨"com/example/co_occurrence_ranking/cooccurrenceranking/io/LineReaderCompareFieldsPinLaw", "put", "([CII)I"⟩ : MethodName)) hown (mvT hZ (hw _ (List.mem_of_getElem? (i := 65) rfl))) (mvT hZ (hw _ (List.mem_of_getElem? (i := 66) rfl))) (mvT hZ (hw _ (List.mem_of_getElem? (i := 2) rfl))) (mvT hZ (hw _ (List.mem_of_getElem? (i := 67) rfl))) (by decide) (backOf (W := 0) (own_rm_put11 l Z a0 hw [] b1_ k1_ c2 c1 (0 : Int32) (0 : Int32) (0 : Int32) T16_.heap n0 (Nat.le_trans Z0 (Nat.le_trans E1_.1 K16_.1)) r18_ g17_ hsc2) hZ (hw _ (List.mem_of_getElem? (i := 67) rfl)) (hw _ (List.mem_of_getElem? (i := 2) rfl)) (by decide) (by decide)) (g := (mkF m 30 #[.val (.int n), .val (.int c1), .val (.int c2), .val (.ref b1_), .val (.int (1 : Int32))] [(.int c2), (.int (1 : Int32)), (.ref b1_)])) rfl (by rw [hml]; rfl) (argsL := [(.ref b1_), (.int (1 : Int32)), (.int c2)]) (rest := []) (lenOf own_pd22 rfl) rfl (by show 2 * 0 + _ ≤ _; exact Nat.le_of_eq rfl) (hb hby own_d_5_30) (fun _ _ => ⟨rfl, rfl, (by decide : 0 + 1 + 0 + 0 ≤ _), (by decide : 0 + 4 + 0 + 0 ≤ _)⟩)
          dsimp only [Pt.U, Pt.locs, Pt.cells, Pt.slots] at X93_ l93_ y93_ z93_ st93_ hQ93_
          subst l93_ y93_ z93_
          obtain ⟨rfl, Nq93_, K93_, r94_⟩ := hQ93_
          have N93_ := Fr.app N16_ Nq93_
          refine own_viaH (fun _ k => st93_ _ k) ?_
          show own_FinH _ _ _ _ _ _ _ _ _ T93_ (mkF m 33 #[.val (.int n), .val (.int c1), .val (.int c2), .val (.ref b1_), .val (.int (1 : Int32))] [(.int (3 : Int32))])
          refine own_viaH (fun _ k => XS.istore X93_.here hx rfl (hb hby own_d_5_33) rfl (l' := #[.val (.int n), .val (.int c1), .val (.int c2), .val (.ref b1_), .val (.int (3 : Int32))]) rfl k) ?_
          show own_FinH _ _ _ _ _ _ _ _ _ T93_ (mkF m 35 #[.val (.int n), .val (.int c1), .val (.int c2), .val (.ref b1_), .val (.int (3 : Int32))] [])
          refine own_viaH (fun _ k => XS.iload X93_.here hx rfl (hb hby own_d_5_35) rfl k) ?_
          show own_FinH _ _ _ _ _ _ _ _ _ T93_ (mkF m 37 #[.val (.int n), .val (.int c1), .val (.int c2), .val (.ref b1_), .val (.int (3 : Int32))] [(.int (3 : Int32))])
          refine own_viaH (fun _ k => XS.ifYes X93_.here hx rfl (pc0 := 37) (pc' := 51) rfl (hb hby own_d_5_37) rfl ((if0 _ _).trans (feq (by decide)).2) (by decide) (by decide) k) ?_
          show own_FinH _ _ _ _ _ _ _ _ _ T93_ (mkF m 51 #[.val (.int n), .val (.int c1), .val (.int c2), .val (.ref b1_), .val (.int (3 : Int32))] [])
          refine own_viaH (fun _ k => XS.iload X93_.here hx rfl (hb hby own_d_5_51) rfl k) ?_
          show own_FinH _ _ _ _ _ _ _ _ _ T93_ (mkF m 53 #[.val (.int n), .val (.int c1), .val (.int c2), .val (.ref b1_), .val (.int (3 : Int32))] [(.int (3 : Int32))])
          refine own_viaH (fun _ k => XS.iconst X93_.here hx rfl (hb hby own_d_5_53) k) ?_
          show own_FinH _ _ _ _ _ _ _ _ _ T93_ (mkF m 54 #[.val (.int n), .val (.int c1), .val (.int c2), .val (.ref b1_), .val (.int (3 : Int32))] [(.int (1 : Int32)), (.int (3 : Int32))])
          refine own_viaH (fun _ k => XS.icmpYes X93_.here hx rfl (pc0 := 54) (pc' := 74) rfl (hb hby own_d_5_54) rfl (feq (by decide)).2 (by decide) (by decide) k) ?_
          show own_FinH _ _ _ _ _ _ _ _ _ T93_ (mkF m 74 #[.val (.int n), .val (.int c1), .val (.int c2), .val (.ref b1_), .val (.int (3 : Int32))] [])
          refine own_viaH (fun _ k => XS.iload X93_.here hx rfl (hb hby own_d_5_74) rfl k) ?_
          show own_FinH _ _ _ _ _ _ _ _ _ T93_ (mkF m 76 #[.val (.int n), .val (.int c1), .val (.int c2), .val (.ref b1_), .val (.int (3 : Int32))] [(.int (3 : Int32))])
          refine own_viaH (fun _ k => XS.iconst X93_.here hx rfl (hb hby own_d_5_76) k) ?_
          show own_FinH _ _ _ _ _ _ _ _ _ T93_ (mkF m 77 #[.val (.int n), .val (.int c1), .val (.int c2), .val (.ref b1_), .val (.int (3 : Int32))] [(.int (2 : Int32)), (.int (3 : Int32))])
          refine own_viaH (fun _ k => XS.icmpYes X93_.here hx rfl (pc0 := 77) (pc' := 103) rfl (hb hby own_d_5_77) rfl (feq (by decide)).2 (by decide) (by decide) k) ?_
          show own_FinH _ _ _ _ _ _ _ _ _ T93_ (mkF m 103 #[.val (.int n), .val (.int c1), .val (.int c2), .val (.ref b1_), .val (.int (3 : Int32))] [])
          refine own_viaH (fun _ k => XS.iload X93_.here hx rfl (hb hby own_d_5_103) rfl k) ?_
          show own_FinH _ _ _ _ _ _ _ _ _ T93_ (mkF m 105 #[.val (.int n), .val (.int c1), .val (.int c2), .val (.ref b1_), .val (.int (3 : Int32))] [(.int (3 : Int32))])
          refine own_viaH (fun _ k => XS.iconst X93_.here hx rfl (hb hby own_d_5_105) k) ?_
          show own_FinH _ _ _ _ _ _ _ _ _ T93_ (mkF m 106 #[.val (.int n), .val (.int c1), .val (.int c2), .val (.ref b1_), .val (.int (3 : Int32))] [(.int (3 : Int32)), (.int (3 : Int32))])
          refine own_viaH (fun _ k => XS.icmpNo X93_.here hx rfl (hb hby own_d_5_106) rfl (teq rfl).2 k) ?_
          show own_FinH _ _ _ _ _ _ _ _ _ T93_ (mkF m 109 #[.val (.int n), .val (.int c1), .val (.int c2), .val (.ref b1_), .val (.int (3 : Int32))] [])
          obtain ⟨T95_, h95_, X95_, e95_, E95_, A95_, D95_, -, st95_⟩ := newO X93_ hx hZ hown (hw _ (List.mem_of_getElem? (i := 12) rfl)) (hw _ (List.mem_of_getElem? (i := 13) rfl)) (hw _ (List.mem_of_getElem? (i := 14) rfl)) rfl (g := (mkF m 109 #[.val (.int n), .val (.int c1), .val (.int c2), .val (.ref b1_), .val (.int (3 : Int32))] [])) rfl (hb hby own_d_5_109) (by decide) (by decide)
          obtain ⟨b95_, g95_⟩ : ∃ z, z = T93_.heap.size := ⟨_, rfl⟩
          rw [← g95_] at A95_ D95_ st95_
          have F96_ : Fld Z h95_ b95_ "java/lang/String" "value" "[B" .null := D95_ (Or.inr (hw _ (List.mem_of_getElem? (i := 27) rfl))) (ty := (.array .byte)) (by decide)
          have F97_ : Fld Z h95_ b95_ "java/lang/String" "coder" "B" (.int (0 : Int32)) := D95_ (Or.inr (hw _ (List.mem_of_getElem? (i := 28) rfl))) (ty := .byte) (by decide)
          refine own_viaH (fun _ k => st95_ _ k) ?_
          show own_FinH _ _ _ _ _ _ _ _ _ T95_ (mkF m 112 #[.val (.int n), .val (.int c1), .val (.int c2), .val (.ref b1_), .val (.int (3 : Int32))] [(.ref b95_)])
          refine own_viaH (fun _ k => XS.dup X95_.here hx rfl (hb hby own_d_5_112) rfl rfl k) ?_
          show own_FinH _ _ _ _ _ _ _ _ _ T95_ (mkF m 113 #[.val (.int n), .val (.int c1), .val (.int c2), .val (.ref b1_), .val (.int (3 : Int32))] [(.ref b95_), (.ref b95_)])
          refine own_viaH (fun _ k => XS.iconst X95_.here hx rfl (hb hby own_d_5_113) k) ?_
          show own_FinH _ _ _ _ _ _ _ _ _ T95_ (mkF m 114 #[.val (.int n), .val (.int c1), .val (.int c2), .val (.ref b1_), .val (.int (3 : Int32))] [(.int (3 : Int32)), (.ref b95_), (.ref b95_)])
          obtain ⟨T98_, h98_, k98_, X98_, e98_, E98_, A98_, st98_⟩ := newP X95_ hx hZ (hw _ (List.mem_of_getElem? (i := 11) rfl)) e95_ (g := (mkF m 114 #[.val (.int n), .val (.int c1), .val (.int c2), .val (.ref b1_), .val (.int (3 : Int32))] [(.int (3 : Int32)), (.ref b95_), (.ref b95_)])) rfl (hb hby own_d_5_114) rfl (by decide) (cap := 3) (by decide) (by decide) (by decide) (by decide)
          obtain ⟨b98_, g98_⟩ : ∃ z, z = h95_.size := ⟨_, rfl⟩
          rw [← g98_] at A98_ st98_
          have V98_ : Arv Z h98_ b98_ k98_ .char (3 : Int32) [(.int (0 : Int32)), (.int (0 : Int32)), (.int (0 : Int32))] (.int (0 : Int32)) := (Arv.new A98_ (by decide)).pad (pad_rep [] (.int (0 : Int32)) 3)
          refine own_viaH (fun _ k => st98_ _ k) ?_
          show own_FinH _ _ _ _ _ _ _ _ _ T98_ (mkF m 116 #[.val (.int n), .val (.int c1), .val (.int c2), .val (.ref b1_), .val (.int (3 : Int32))] [(.ref b98_), (.ref b95_), (.ref b95_)])
          refine own_viaH (fun _ k => XS.dup X98_.here hx rfl (hb hby own_d_5_116) rfl rfl k) ?_
          show own_FinH _ _ _ _ _ _ _ _ _ T98_ (mkF m 117 #[.val (.int n), .val (.int c1), .val (.int c2), .val (.ref b1_), .val (.int (3 : Int32))] [(.ref b98_), (.ref b98_), (.ref b95_), (.ref b95_)])
          refine own_viaH (fun _ k => XS.iconst X98_.here hx rfl (hb hby own_d_5_117) k) ?_
          show own_FinH _ _ _ _ _ _ _ _ _ T98_ (mkF m 118 #[.val (.int n), .val (.int c1), .val (.int c2), .val (.ref b1_), .val (.int (3 : Int32))] [(.int (0 : Int32)), (.ref b98_), (.ref b98_), (.ref b95_), (.ref b95_)])
          refine own_viaH (fun _ k => XS.aloadN X98_.here hx rfl (hb hby own_d_5_118) rfl rfl k) ?_
          show own_FinH _ _ _ _ _ _ _ _ _ T98_ (mkF m 119 #[.val (.int n), .val (.int c1), .val (.int c2), .val (.ref b1_), .val (.int (3 : Int32))] [(.ref b1_), (.int (0 : Int32)), (.ref b98_), (.ref b98_), (.ref b95_), (.ref b95_)])
          refine own_viaH (fun _ k => XS.iconst X98_.here hx rfl (hb hby own_d_5_119) k) ?_
          show own_FinH _ _ _ _ _ _ _ _ _ T98_ (mkF m 120 #[.val (.int n), .val (.int c1), .val (.int c2), .val (.ref b1_), .val (.int (3 : Int32))] [(.int (0 : Int32)), (.ref b1_), (.int (0 : Int32)), (.ref b98_), (.ref b98_), (.ref b95_), (.ref b95_)])
          obtain ⟨c99_, Ar99_, q99_, S99_, M99_, H99_, G99_⟩ := (id ((r94_.ext E95_).ext E98_))
          have hin99_ : ¬ ((0 : Int32) < 0 ∨ c99_.slots.size ≤ ((0 : Int32)).toNatClampNeg) := inb_of S99_ ⟨by decide, by decide⟩
          have hat99_ : c99_.slots[((0 : Int32)).toNatClampNeg]? = some (.int c1) := H99_.at hin99_ rfl
          refine own_viaH (fun _ k => X98_.caload hx (j := (0 : Int32)) (v := (.int c1)) (own_eq e98_ Ar99_.1) (State.isArrayOf_alike hZ.alike Ar99_.2.1) Ar99_.2.2 hin99_ hat99_ (g := (mkF m 120 #[.val (.int n), .val (.int c1), .val (.int c2), .val (.ref b1_), .val (.int (3 : Int32))] [(.int (0 : Int32)), (.ref b1_), (.int (0 : Int32)), (.ref b98_), (.ref b98_), (.ref b95_), (.ref b95_)])) rfl rfl (hb hby own_d_5_120) _ k) ?_
          show own_FinH _ _ _ _ _ _ _ _ _ T98_ (mkF m 121 #[.val (.int n), .val (.int c1), .val (.int c2), .val (.ref b1_), .val (.int (3 : Int32))] [(.int c1), (.int (0 : Int32)), (.ref b98_), (.ref b98_), (.ref b95_), (.ref b95_)])
          obtain ⟨c100_, Ar100_, q100_, S100_, M100_, H100_, G100_⟩ := (id V98_)
          have hin100_ : ¬ ((0 : Int32) < 0 ∨ c100_.slots.size ≤ ((0 : Int32)).toNatClampNeg) := inb_of S100_ ⟨by decide, by decide⟩
          obtain ⟨T100_, h100_, X100_, e100_, W100_, st100_⟩ := stC X98_ hx hZ e98_ Ar100_ (j := (0 : Int32)) hin100_ (g := (mkF m 121 #[.val (.int n), .val (.int c1), .val (.int c2), .val (.ref b1_), .val (.int (3 : Int32))] [(.int c1), (.int (0 : Int32)), (.ref b98_), (.ref b98_), (.ref b95_), (.ref b95_)])) rfl rfl (hb hby own_d_5_121)
          have V100_ := Arv.set Ar100_ q100_ S100_ M100_ H100_ G100_ (fits_nar_char _) W100_ 0 rfl (Nat.le_of_ble_eq_true rfl)
          have U100_ : Arv Z h100_ b98_ k98_ .char (3 : Int32) [(.int c1), (.int (0 : Int32)), (.int (0 : Int32))] (.int (0 : Int32)) := by
            have hq := V100_
            rw [show nar .char c1 = c1 from (own_narch (own_bmp_chr hbc1))] at hq
            exact hq
          have g101_ : n0 ≤ b98_ := Nat.le_trans (Nat.le_trans Z0 (Nat.le_trans (Nat.le_trans (Nat.le_trans E1_.1 K16_.1) K93_.1) E95_.1)) (Nat.le_of_eq g98_.symm)
          have N100_ := Fr.snoc X100_ N93_ g101_
          refine own_viaH (fun _ k => st100_ _ k) ?_
          show own_FinH _ _ _ _ _ _ _ _ _ T100_ (mkF m 122 #[.val (.int n), .val (.int c1), .val (.int c2), .val (.ref b1_), .val (.int (3 : Int32))] [(.ref b98_), (.ref b95_), (.ref b95_)])
          refine own_viaH (fun _ k => XS.dup X100_.here hx rfl (hb hby own_d_5_122) rfl rfl k) ?_
          show own_FinH _ _ _ _ _ _ _ _ _ T100_ (mkF m 123 #[.val (.int n), .val (.int c1), .val (.int c2), .val (.ref b1_), .val (.int (3 : Int32))] [(.ref b98_), (.ref b98_), (.ref b95_), (.ref b95_)])
          refine own_viaH (fun _ k => XS.iconst X100_.here hx rfl (hb hby own_d_5_123) k) ?_
          show own_FinH _ _ _ _ _ _ _ _ _ T100_ (mkF m 124 #[.val (.int n), .val (.int c1), .val (.int c2), .val (.ref b1_), .val (.int (3 : Int32))] [(.int (1 : Int32)), (.ref b98_), (.ref b98_), (.ref b95_), (.ref b95_)])
          refine own_viaH (fun _ k => XS.aloadN X100_.here hx rfl (hb hby own_d_5_124) rfl rfl k) ?_
          show own_FinH _ _ _ _ _ _ _ _ _ T100_ (mkF m 125 #[.val (.int n), .val (.int c1), .val (.int c2), .val (.ref b1_), .val (.int (3 : Int32))] [(.ref b1_), (.int (1 : Int32)), (.ref b98_), (.ref b98_), (.ref b95_), (.ref b95_)])
          refine own_viaH (fun _ k => XS.iconst X100_.here hx rfl (hb hby own_d_5_125) k) ?_
          show own_FinH _ _ _ _ _ _ _ _ _ T100_ (mkF m 126 #[.val (.int n), .val (.int c1), .val (.int c2), .val (.ref b1_), .val (.int (3 : Int32))] [(.int (1 : Int32)), (.ref b1_), (.int (1 : Int32)), (.ref b98_), (.ref b98_), (.ref b95_), (.ref b95_)])
          have q103_ : b1_ ≠ b98_ := Nat.ne_of_lt (Nat.lt_of_lt_of_le (r94_.ext E95_).lt (Nat.le_of_eq g98_.symm))
          obtain ⟨c102_, Ar102_, q102_, S102_, M102_, H102_, G102_⟩ := (id (((r94_.ext E95_).ext E98_).other W100_ q103_))
          have hin102_ : ¬ ((1 : Int32) < 0 ∨ c102_.slots.size ≤ ((1 : Int32)).toNatClampNeg) := inb_of S102_ ⟨by decide, by decide⟩
          have hat102_ : c102_.slots[((1 : Int32)).toNatClampNeg]? = some (.int (own_hs c2)) := H102_.at hin102_ rfl
          refine own_viaH (fun _ k => X100_.caload hx (j := (1 : Int32)) (v := (.int (own_hs c2))) (own_eq e100_ Ar102_.1) (State.isArrayOf_alike hZ.alike Ar102_.2.1) Ar102_.2.2 hin102_ hat102_ (g := (mkF m 126 #[.val (.int n), .val (.int c1), .val (.int c2), .val (.ref b1_), .val (.int (3 : Int32))] [(.int (1 : Int32)), (.ref b1_), (.int (1 : Int32)), (.ref b98_), (.ref b98_), (.ref b95_), (.ref b95_)])) rfl rfl (hb hby own_d_5_126) _ k) ?_
          show own_FinH _ _ _ _ _ _ _ _ _ T100_ (mkF m 127 #[.val (.int n), .val (.int c1), .val (.int c2), .val (.ref b1_), .val (.int (3 : Int32))] [(.int (own_hs c2)), (.int (1 : Int32)), (.ref b98_), (.ref b98_), (.ref b95_), (.ref b95_)])
          obtain ⟨c104_, Ar104_, q104_, S104_, M104_, H104_, G104_⟩ := (id U100_)
          have hin104_ : ¬ ((1 : Int32) < 0 ∨ c104_.slots.size ≤ ((1 : Int32)).toNatClampNeg) := inb_of S104_ ⟨by decide, by decide⟩
          obtain ⟨T104_, h104_, X104_, e104_, W104_, st104_⟩ := stC X100_ hx hZ e100_ Ar104_ (j := (1 : Int32)) hin104_ (g := (mkF m 127 #[.val (.int n), .val (.int c1), .val (.int c2), .val (.ref b1_), .val (.int (3 : Int32))] [(.int (own_hs c2)), (.int (1 : Int32)), (.ref b98_), (.ref b98_), (.ref b95_), (.ref b95_)])) rfl rfl (hb hby own_d_5_127)
          have V104_ := Arv.set Ar104_ q104_ S104_ M104_ H104_ G104_ (fits_nar_char _) W104_ 1 rfl (Nat.le_of_ble_eq_true rfl)
          have U104_ : Arv Z h104_ b98_ k98_ .char (3 : Int32) [(.int c1), (.int (own_hs c2)), (.int (0 : Int32))] (.int (0 : Int32)) := by
            have hq := V104_
            rw [show nar .char (own_hs c2) = (own_hs c2) from (own_narch (own_hs_chr hsc2))] at hq
            exact hq
          have N104_ := Fr.snoc X104_ N100_ g101_
          refine own_viaH (fun _ k => st104_ _ k) ?_
          show own_FinH _ _ _ _ _ _ _ _ _ T104_ (mkF m 128 #[.val (.int n), .val (.int c1), .val (.int c2), .val (.ref b1_), .val (.int (3 : Int32))] [(.ref b98_), (.ref b95_), (.ref b95_)])
          refine own_viaH (fun _ k => XS.dup X104_.here hx rfl (hb hby own_d_5_128) rfl rfl k) ?_
          show own_FinH _ _ _ _ _ _ _ _ _ T104_ (mkF m 129 #[.val (.int n), .val (.int c1), .val (.int c2), .val (.ref b1_), .val (.int (3 : Int32))] [(.ref b98_), (.ref b98_), (.ref b95_), (.ref b95_)])
          refine own_viaH (fun _ k => XS.iconst X104_.here hx rfl (hb hby own_d_5_129) k) ?_
          show own_FinH _ _ _ _ _ _ _ _ _ T104_ (mkF m 130 #[.val (.int n), .val (.int c1), .val (.int c2), .val (.ref b1_), .val (.int (3 : Int32))] [(.int (2 : Int32)), (.ref b98_), (.ref b98_), (.ref b95_), (.ref b95_)])
          refine own_viaH (fun _ k => XS.aloadN X104_.here hx rfl (hb hby own_d_5_130) rfl rfl k) ?_
          show own_FinH _ _ _ _ _ _ _ _ _ T104_ (mkF m 131 #[.val (.int n), .val (.int c1), .val (.int c2), .val (.ref b1_), .val (.int (3 : Int32))] [(.ref b1_), (.int (2 : Int32)), (.ref b98_), (.ref b98_), (.ref b95_), (.ref b95_)])
          refine own_viaH (fun _ k => XS.iconst X104_.here hx rfl (hb hby own_d_5_131) k) ?_
          show own_FinH _ _ _ _ _ _ _ _ _ T104_ (mkF m 132 #[.val (.int n), .val (.int c1), .val (.int c2), .val (.ref b1_), .val (.int (3 : Int32))] [(.int (2 : Int32)), (.ref b1_), (.int (2 : Int32)), (.ref b98_), (.ref b98_), (.ref b95_), (.ref b95_)])
          have f106_ := ((((r94_.ext E95_).ext E98_).other W100_ q103_).other W104_ q103_)
          obtain ⟨c105_, Ar105_, q105_, S105_, M105_, H105_, G105_⟩ := (id f106_)
          have hin105_ : ¬ ((2 : Int32) < 0 ∨ c105_.slots.size ≤ ((2 : Int32)).toNatClampNeg) := inb_of S105_ ⟨by decide, by decide⟩
          have hat105_ : c105_.slots[((2 : Int32)).toNatClampNeg]? = some (.int (own_ls c2)) := H105_.at hin105_ rfl
          refine own_viaH (fun _ k => X104_.caload hx (j := (2 : Int32)) (v := (.int (own_ls c2))) (own_eq e104_ Ar105_.1) (State.isArrayOf_alike hZ.alike Ar105_.2.1) Ar105_.2.2 hin105_ hat105_ (g := (mkF m 132 #[.val (.int n), .val (.int c1), .val (.int c2), .val (.ref b1_), .val (.int (3 : Int32))] [(.int (2 : Int32)), (.ref b1_), (.int (2 : Int32)), (.ref b98_), (.ref b98_), (.ref b95_), (.ref b95_)])) rfl rfl (hb hby own_d_5_132) _ k) ?_
          show own_FinH _ _ _ _ _ _ _ _ _ T104_ (mkF m 133 #[.val (.int n), .val (.int c1), .val (.int c2), .val (.ref b1_), .val (.int (3 : Int32))] [(.int (own_ls c2)), (.int (2 : Int32)), (.ref b98_), (.ref b98_), (.ref b95_), (.ref b95_)])
          obtain ⟨c107_, Ar107_, q107_, S107_, M107_, H107_, G107_⟩ := (id U104_)
          have hin107_ : ¬ ((2 : Int32) < 0 ∨ c107_.slots.size ≤ ((2 : Int32)).toNatClampNeg) := inb_of S107_ ⟨by decide, by decide⟩
          obtain ⟨T107_, h107_, X107_, e107_, W107_, st107_⟩ := stC X104_ hx hZ e104_ Ar107_ (j := (2 : Int32)) hin107_ (g := (mkF m 133 #[.val (.int n), .val (.int c1), .val (.int c2), .val (.ref b1_), .val (.int (3 : Int32))] [(.int (own_ls c2)), (.int (2 : Int32)), (.ref b98_), (.ref b98_), (.ref b95_), (.ref b95_)])) rfl rfl (hb hby own_d_5_133)
          have V107_ := Arv.set Ar107_ q107_ S107_ M107_ H107_ G107_ (fits_nar_char _) W107_ 2 rfl (Nat.le_of_ble_eq_true rfl)
          have U107_ : Arv Z h107_ b98_ k98_ .char (3 : Int32) [(.int c1), (.int (own_hs c2)), (.int (own_ls c2))] (.int (0 : Int32)) := by
            have hq := V107_
            rw [show nar .char (own_ls c2) = (own_ls c2) from (own_narch (own_ls_chr hsc2))] at hq
            exact hq
          have N107_ := Fr.snoc X107_ N104_ g101_
          refine own_viaH (fun _ k => st107_ _ k) ?_
          show own_FinH _ _ _ _ _ _ _ _ _ T107_ (mkF m 134 #[.val (.int n), .val (.int c1), .val (.int c2), .val (.ref b1_), .val (.int (3 : Int32))] [(.ref b98_), (.ref b95_), (.ref b95_)])
          have f109_ := ((((((((O0.ext E1_).keep K16_ (allS g17_ all0)).keep K93_ (allS g17_ all0)).ext E95_).ext E98_).wr W100_ g101_).wr W104_ g101_).wr W107_ g101_)
          have q110_ : b95_ ≠ b98_ := Nat.ne_of_lt (Nat.lt_of_lt_of_le A95_.lt (Nat.le_of_eq g98_.symm))
          have f111_ := ((((F96_.ext E98_).other W100_ (Or.inl q110_)).other W104_ (Or.inl q110_)).other W107_ (Or.inl q110_))
          have f112_ := ((((F97_.ext E98_).other W100_ (Or.inl q110_)).other W104_ (Or.inl q110_)).other W107_ (Or.inl q110_))
          have g113_ : n0 ≤ b95_ := Nat.le_trans (Nat.le_trans Z0 (Nat.le_trans (Nat.le_trans E1_.1 K16_.1) K93_.1)) (Nat.le_of_eq g95_.symm)
          obtain ⟨_, _, ⟨T108_, L108_, k108_, n108_⟩, -, X108_, ⟨Lc108_, hQ108_, l108_, y108_, z108_⟩, st108_⟩ := X107_.specialBack hx (y := (⟨"java/lang/String", "<init>", "([C)V"⟩ : MethodName)) rfl hown (mvT hZ (hw _ (List.mem_of_getElem? (i := 15) rfl))) (mvT hZ (hw _ (List.mem_of_getElem? (i := 16) rfl))) (mvT hZ (hw _ (List.mem_of_getElem? (i := 17) rfl))) (by decide) (backOf (W := 1) (own_rm_sInitC l Z a0 hw [] b95_ cz .null (.int (0 : Int32)) b98_ k98_ (3 : Int32) [c1, (own_hs c2), (own_ls c2)] h107_ n0 (Nat.le_trans Z0 (Nat.le_trans (Nat.le_trans (Nat.le_trans (Nat.le_trans (Nat.le_trans (Nat.le_trans (Nat.le_trans E1_.1 K16_.1) K93_.1) E95_.1) E98_.1) (Keep.of_wr W100_).1) (Keep.of_wr W104_).1) (Keep.of_wr W107_).1)) f109_ S1 (by first | assumption | decide) S3 S4 S5 ((((A95_.ext E98_).wr W100_).wr W104_).wr W107_) f111_ f112_ g113_ U107_ rfl (by simp) (by simp) (own_ch3 (own_bmp_chr hbc1) (own_hs_chr hsc2) (own_ls_chr hsc2))) hZ (hw _ (List.mem_of_getElem? (i := 17) rfl)) (hw _ (List.mem_of_getElem? (i := 14) rfl)) (by decide) (by decide)) (g := (mkF m 134 #[.val (.int n), .val (.int c1), .val (.int c2), .val (.ref b1_), .val (.int (3 : Int32))] [(.ref b98_), (.ref b95_), (.ref b95_)])) rfl (by rw [hml]; rfl) (Steps.refl _) (a := b95_) (argsL := [(.ref b98_)]) (rest := [(.ref b95_)]) (lenOf own_pd21 rfl) rfl (by show 2 * 0 + _ ≤ _; exact Nat.le_of_eq rfl) (hb hby own_d_5_134) (fun _ _ => ⟨rfl, e107_, (by decide : 0 + 1 + 0 + 0 + 1 + 1 + 2 ≤ _), (by decide : 0 + 4 + 0 + 0 + 4 + 3 + 12 ≤ _)⟩)
          dsimp only [Pt.U, Pt.locs, Pt.cells, Pt.slots] at X108_ l108_ y108_ z108_ st108_ hQ108_
          subst l108_ y108_ z108_
          obtain ⟨t, kt, cd, N2, vs, rfl, Nq108_, K108_, r114_, r115_, r116_, r117_, r118_, hcod⟩ := hQ108_
          have N108_ := Fr.app N107_ Nq108_
          refine own_viaH (fun _ k => st108_.trans k) ?_
          show own_FinH _ _ _ _ _ _ _ _ _ T108_ (mkF m 137 #[.val (.int n), .val (.int c1), .val (.int c2), .val (.ref b1_), .val (.int (3 : Int32))] [(.ref b95_)])
          have C119_ := C0.trans (CHr.ext E1_ H0)
          have H119_ := C119_.1
          have sf121_ : Safe Z own_EL s.vm h0 b1_ := Safe.new (Nat.le_of_eq g1_.symm)
          have sf122_ : Safe Z own_EL s.vm h1_ b1_ := Safe.ext E1_ H0 sf121_
          have C120_ := C119_.trans (CHr.keep K16_ (sfS sf122_ sf0) H119_)
          have H120_ := C120_.1
          have sf124_ : Safe Z own_EL s.vm h1_ b1_ := Safe.ext E1_ H0 sf121_
          have sf125_ : Safe Z own_EL s.vm T16_.heap b1_ := Safe.keep K16_ (sfS sf124_ sf0) H119_ sf124_
          have C123_ := C120_.trans (CHr.keep K93_ (sfS sf125_ sf0) H120_)
          have H123_ := C123_.1
          have C126_ := C123_.trans (CHr.ext E95_ H123_)
          have H126_ := C126_.1
          have C127_ := C126_.trans (CHr.ext E98_ H126_)
          have H127_ := C127_.1
          have sf129_ : Safe Z own_EL s.vm h95_ b98_ := Safe.new (Nat.le_of_eq g98_.symm)
          have sf130_ : Safe Z own_EL s.vm h98_ b98_ := Safe.ext E98_ H126_ sf129_
          have C128_ := C127_.trans (CHr.wr W100_ sf130_ H127_)
          have H128_ := C128_.1
          have sf132_ : Safe Z own_EL s.vm h98_ b98_ := Safe.ext E98_ H126_ sf129_
          have sf133_ : Safe Z own_EL s.vm h100_ b98_ := Safe.wr W100_ sf132_ H127_ sf132_
          have C131_ := C128_.trans (CHr.wr W104_ sf133_ H128_)
          have H131_ := C131_.1
          have sf135_ : Safe Z own_EL s.vm h98_ b98_ := Safe.ext E98_ H126_ sf129_
          have sf136_ : Safe Z own_EL s.vm h100_ b98_ := Safe.wr W100_ sf135_ H127_ sf135_
          have sf137_ : Safe Z own_EL s.vm h104_ b98_ := Safe.wr W104_ sf136_ H128_ sf136_
          have C134_ := C131_.trans (CHr.wr W107_ sf137_ H131_)
          have H134_ := C134_.1
          have sf139_ : Safe Z own_EL s.vm T93_.heap b95_ := Safe.new (Nat.le_of_eq g95_.symm)
          have sf140_ : Safe Z own_EL s.vm h95_ b95_ := Safe.ext E95_ H123_ sf139_
          have sf141_ : Safe Z own_EL s.vm h98_ b95_ := Safe.ext E98_ H126_ sf140_
          have sf142_ : Safe Z own_EL s.vm h100_ b95_ := Safe.wr W100_ sf135_ H127_ sf141_
          have sf143_ : Safe Z own_EL s.vm h104_ b95_ := Safe.wr W104_ sf136_ H128_ sf142_
          have sf144_ : Safe Z own_EL s.vm h107_ b95_ := Safe.wr W107_ sf137_ H131_ sf143_
          have C138_ := C134_.trans (CHr.keep K108_ (sfS sf144_ sf0) H134_)
          have H138_ := C138_.1
          exact own_retAH X108_ hx Bd.returns Bd.notSynchronized (own_ew hw) hZ hS0 (Nat.le_trans hk0 (Nat.le_trans (Nat.le_trans (Nat.le_trans (Nat.le_trans (Nat.le_trans (Nat.le_trans (Nat.le_trans (Nat.le_trans E1_.1 K16_.1) K93_.1) E95_.1) E98_.1) (Keep.of_wr W100_).1) (Keep.of_wr W104_).1) (Keep.of_wr W107_).1) K108_.1)) hh C138_ rfl rfl (hb hby own_d_5_137) rfl ⟨b95_, t, kt, cd, N2, vs, rfl, N108_, ((((((((((Keep.refl h0 []).ext E1_).trans K16_ (allS (Or.inr (Nat.le_of_eq g1_.symm)) all0)).trans K93_ (allS (Or.inr (Nat.le_of_eq g1_.symm)) all0)).ext E95_).ext E98_).wr W100_ (Or.inr (Nat.le_trans (Nat.le_trans (Nat.le_trans (Nat.le_trans E1_.1 K16_.1) K93_.1) E95_.1) (Nat.le_of_eq g98_.symm)))).wr W104_ (Or.inr (Nat.le_trans (Nat.le_trans (Nat.le_trans (Nat.le_trans E1_.1 K16_.1) K93_.1) E95_.1) (Nat.le_of_eq g98_.symm)))).wr W107_ (Or.inr (Nat.le_trans (Nat.le_trans (Nat.le_trans (Nat.le_trans E1_.1 K16_.1) K93_.1) E95_.1) (Nat.le_of_eq g98_.symm)))).trans K108_ (allS (Or.inr (Nat.le_trans (Nat.le_trans (Nat.le_trans E1_.1 K16_.1) K93_.1) (Nat.le_of_eq g95_.symm))) all0)), (Nat.le_trans (Nat.le_trans (Nat.le_trans E1_.1 K16_.1) K93_.1) (Nat.le_of_eq g95_.symm)), r114_, r115_, r116_, r118_, (by rw [own_units2bs hA hB hbc1 hsc2]; exact hcod)⟩ (by decide) (by decide)
    · have g146_ : n0 ≤ b1_ := Nat.le_trans Z0 (Nat.le_of_eq g1_.symm)
      obtain ⟨_, _, ⟨T145_, L145_, k145_, n145_⟩, -, X145_, ⟨Lc145_, hQ145_, l145_, y145_, z145_⟩, st145_⟩ := Jvm.LawKit.callS X1_ hx (y := (⟨"com/example/co_occurrence_ranking/cooccurrenceranking/io/LineReaderCompareFieldsPinLaw", "put", "([CII)I"⟩ : MethodName)) hown (mvT hZ (hw _ (List.mem_of_getElem? (i := 65) rfl))) (mvT hZ (hw _ (List.mem_of_getElem? (i := 66) rfl))) (mvT hZ (hw _ (List.mem_of_getElem? (i := 2) rfl))) (mvT hZ (hw _ (List.mem_of_getElem? (i := 67) rfl))) (by decide) (backOf (W := 0) (own_rm_put01 l Z a0 hw [] b1_ k1_ c1 (0 : Int32) (0 : Int32) (0 : Int32) (0 : Int32) h1_ n0 (Nat.le_trans Z0 E1_.1) V1_ g146_ hsc1) hZ (hw _ (List.mem_of_getElem? (i := 67) rfl)) (hw _ (List.mem_of_getElem? (i := 2) rfl)) (by decide) (by decide)) (g := (mkF m 16 #[.val (.int n), .val (.int c1), .val (.int c2), .val (.ref b1_), .val (.int (0 : Int32))] [(.int c1), (.int (0 : Int32)), (.ref b1_)])) rfl (by rw [hml]; rfl) (argsL := [(.ref b1_), (.int (0 : Int32)), (.int c1)]) (rest := []) (lenOf own_pd22 rfl) rfl (by show 2 * 0 + _ ≤ _; exact Nat.le_of_eq rfl) (hb hby own_d_5_16) (fun _ _ => ⟨rfl, e1_, (by decide : 0 + 1 + 0 ≤ _), (by decide : 0 + 4 + 0 ≤ _)⟩)
      dsimp only [Pt.U, Pt.locs, Pt.cells, Pt.slots] at X145_ l145_ y145_ z145_ st145_ hQ145_
      subst l145_ y145_ z145_
      obtain ⟨rfl, Nq145_, K145_, r147_⟩ := hQ145_
      have N145_ := Fr.app N0 Nq145_
      refine own_viaH (fun _ k => st145_ _ k) ?_
      show own_FinH _ _ _ _ _ _ _ _ _ T145_ (mkF m 19 #[.val (.int n), .val (.int c1), .val (.int c2), .val (.ref b1_), .val (.int (0 : Int32))] [(.int (2 : Int32))])
      refine own_viaH (fun _ k => XS.istore X145_.here hx rfl (hb hby own_d_5_19) rfl (l' := #[.val (.int n), .val (.int c1), .val (.int c2), .val (.ref b1_), .val (.int (2 : Int32))]) rfl k) ?_
      show own_FinH _ _ _ _ _ _ _ _ _ T145_ (mkF m 21 #[.val (.int n), .val (.int c1), .val (.int c2), .val (.ref b1_), .val (.int (2 : Int32))] [])
      refine own_viaH (fun _ k => XS.iloadN X145_.here hx rfl (hb hby own_d_5_21) rfl k) ?_
      show own_FinH _ _ _ _ _ _ _ _ _ T145_ (mkF m 22 #[.val (.int n), .val (.int c1), .val (.int c2), .val (.ref b1_), .val (.int (2 : Int32))] [(.int n)])
      refine own_viaH (fun _ k => XS.iconst X145_.here hx rfl (hb hby own_d_5_22) k) ?_
      show own_FinH _ _ _ _ _ _ _ _ _ T145_ (mkF m 23 #[.val (.int n), .val (.int c1), .val (.int c2), .val (.ref b1_), .val (.int (2 : Int32))] [(.int (2 : Int32)), (.int n)])
      rcases Classical.em (n < (2 : Int32)) with hB | hB
      · refine own_viaH (fun _ k => XS.icmpYes X145_.here hx rfl (pc0 := 23) (pc' := 35) rfl (hb hby own_d_5_23) rfl (tlt hB).1 (by decide) (by decide) k) ?_
        show own_FinH _ _ _ _ _ _ _ _ _ T145_ (mkF m 35 #[.val (.int n), .val (.int c1), .val (.int c2), .val (.ref b1_), .val (.int (2 : Int32))] [])
        refine own_viaH (fun _ k => XS.iload X145_.here hx rfl (hb hby own_d_5_35) rfl k) ?_
        show own_FinH _ _ _ _ _ _ _ _ _ T145_ (mkF m 37 #[.val (.int n), .val (.int c1), .val (.int c2), .val (.ref b1_), .val (.int (2 : Int32))] [(.int (2 : Int32))])
        refine own_viaH (fun _ k => XS.ifYes X145_.here hx rfl (pc0 := 37) (pc' := 51) rfl (hb hby own_d_5_37) rfl ((if0 _ _).trans (feq (by decide)).2) (by decide) (by decide) k) ?_
        show own_FinH _ _ _ _ _ _ _ _ _ T145_ (mkF m 51 #[.val (.int n), .val (.int c1), .val (.int c2), .val (.ref b1_), .val (.int (2 : Int32))] [])
        refine own_viaH (fun _ k => XS.iload X145_.here hx rfl (hb hby own_d_5_51) rfl k) ?_
        show own_FinH _ _ _ _ _ _ _ _ _ T145_ (mkF m 53 #[.val (.int n), .val (.int c1), .val (.int c2), .val (.ref b1_), .val (.int (2 : Int32))] [(.int (2 : Int32))])
        refine own_viaH (fun _ k => XS.iconst X145_.here hx rfl (hb hby own_d_5_53) k) ?_
        show own_FinH _ _ _ _ _ _ _ _ _ T145_ (mkF m 54 #[.val (.int n), .val (.int c1), .val (.int c2), .val (.ref b1_), .val (.int (2 : Int32))] [(.int (1 : Int32)), (.int (2 : Int32))])
        refine own_viaH (fun _ k => XS.icmpYes X145_.here hx rfl (pc0 := 54) (pc' := 74) rfl (hb hby own_d_5_54) rfl (feq (by decide)).2 (by decide) (by decide) k) ?_
        show own_FinH _ _ _ _ _ _ _ _ _ T145_ (mkF m 74 #[.val (.int n), .val (.int c1), .val (.int c2), .val (.ref b1_), .val (.int (2 : Int32))] [])
        refine own_viaH (fun _ k => XS.iload X145_.here hx rfl (hb hby own_d_5_74) rfl k) ?_
        show own_FinH _ _ _ _ _ _ _ _ _ T145_ (mkF m 76 #[.val (.int n), .val (.int c1), .val (.int c2), .val (.ref b1_), .val (.int (2 : Int32))] [(.int (2 : Int32))])
        refine own_viaH (fun _ k => XS.iconst X145_.here hx rfl (hb hby own_d_5_76) k) ?_
        show own_FinH _ _ _ _ _ _ _ _ _ T145_ (mkF m 77 #[.val (.int n), .val (.int c1), .val (.int c2), .val (.ref b1_), .val (.int (2 : Int32))] [(.int (2 : Int32)), (.int (2 : Int32))])
        refine own_viaH (fun _ k => XS.icmpNo X145_.here hx rfl (hb hby own_d_5_77) rfl (teq rfl).2 k) ?_
        show own_FinH _ _ _ _ _ _ _ _ _ T145_ (mkF m 80 #[.val (.int n), .val (.int c1), .val (.int c2), .val (.ref b1_), .val (.int (2 : Int32))] [])
        obtain ⟨T148_, h148_, X148_, e148_, E148_, A148_, D148_, -, st148_⟩ := newO X145_ hx hZ hown (hw _ (List.mem_of_getElem? (i := 12) rfl)) (hw _ (List.mem_of_getElem? (i := 13) rfl)) (hw _ (List.mem_of_getElem? (i := 14) rfl)) rfl (g := (mkF m 80 #[.val (.int n), .val (.int c1), .val (.int c2), .val (.ref b1_), .val (.int (2 : Int32))] [])) rfl (hb hby own_d_5_80) (by decide) (by decide)
        obtain ⟨b148_, g148_⟩ : ∃ z, z = T145_.heap.size := ⟨_, rfl⟩
        rw [← g148_] at A148_ D148_ st148_
        have F149_ : Fld Z h148_ b148_ "java/lang/String" "value" "[B" .null := D148_ (Or.inr (hw _ (List.mem_of_getElem? (i := 27) rfl))) (ty := (.array .byte)) (by decide)
        have F150_ : Fld Z h148_ b148_ "java/lang/String" "coder" "B" (.int (0 : Int32)) := D148_ (Or.inr (hw _ (List.mem_of_getElem? (i := 28) rfl))) (ty := .byte) (by decide)
        refine own_viaH (fun _ k => st148_ _ k) ?_
        show own_FinH _ _ _ _ _ _ _ _ _ T148_ (mkF m 83 #[.val (.int n), .val (.int c1), .val (.int c2), .val (.ref b1_), .val (.int (2 : Int32))] [(.ref b148_)])
        refine own_viaH (fun _ k => XS.dup X148_.here hx rfl (hb hby own_d_5_83) rfl rfl k) ?_
        show own_FinH _ _ _ _ _ _ _ _ _ T148_ (mkF m 84 #[.val (.int n), .val (.int c1), .val (.int c2), .val (.ref b1_), .val (.int (2 : Int32))] [(.ref b148_), (.ref b148_)])
        refine own_viaH (fun _ k => XS.iconst X148_.here hx rfl (hb hby own_d_5_84) k) ?_
        show own_FinH _ _ _ _ _ _ _ _ _ T148_ (mkF m 85 #[.val (.int n), .val (.int c1), .val (.int c2), .val (.ref b1_), .val (.int (2 : Int32))] [(.int (2 : Int32)), (.ref b148_), (.ref b148_)])
        obtain ⟨T151_, h151_, k151_, X151_, e151_, E151_, A151_, st151_⟩ := newP X148_ hx hZ (hw _ (List.mem_of_getElem? (i := 11) rfl)) e148_ (g := (mkF m 85 #[.val (.int n), .val (.int c1), .val (.int c2), .val (.ref b1_), .val (.int (2 : Int32))] [(.int (2 : Int32)), (.ref b148_), (.ref b148_)])) rfl (hb hby own_d_5_85) rfl (by decide) (cap := 2) (by decide) (by decide) (by decide) (by decide)
        obtain ⟨b151_, g151_⟩ : ∃ z, z = h148_.size := ⟨_, rfl⟩
        rw [← g151_] at A151_ st151_
        have V151_ : Arv Z h151_ b151_ k151_ .char (2 : Int32) [(.int (0 : Int32)), (.int (0 : Int32))] (.int (0 : Int32)) := (Arv.new A151_ (by decide)).pad (pad_rep [] (.int (0 : Int32)) 2)
        refine own_viaH (fun _ k => st151_ _ k) ?_
        show own_FinH _ _ _ _ _ _ _ _ _ T151_ (mkF m 87 #[.val (.int n), .val (.int c1), .val (.int c2), .val (.ref b1_), .val (.int (2 : Int32))] [(.ref b151_), (.ref b148_), (.ref b148_)])
        refine own_viaH (fun _ k => XS.dup X151_.here hx rfl (hb hby own_d_5_87) rfl rfl k) ?_
        show own_FinH _ _ _ _ _ _ _ _ _ T151_ (mkF m 88 #[.val (.int n), .val (.int c1), .val (.int c2), .val (.ref b1_), .val (.int (2 : Int32))] [(.ref b151_), (.ref b151_), (.ref b148_), (.ref b148_)])
        refine own_viaH (fun _ k => XS.iconst X151_.here hx rfl (hb hby own_d_5_88) k) ?_
        show own_FinH _ _ _ _ _ _ _ _ _ T151_ (mkF m 89 #[.val (.int n), .val (.int c1), .val (.int c2), .val (.ref b1_), .val (.int (2 : Int32))] [(.int (0 : Int32)), (.ref b151_), (.ref b151_), (.ref b148_), (.ref b148_)])
        refine own_viaH (fun _ k => XS.aloadN X151_.here hx rfl (hb hby own_d_5_89) rfl rfl k) ?_
        show own_FinH _ _ _ _ _ _ _ _ _ T151_ (mkF m 90 #[.val (.int n), .val (.int c1), .val (.int c2), .val (.ref b1_), .val (.int (2 : Int32))] [(.ref b1_), (.int (0 : Int32)), (.ref b151_), (.ref b151_), (.ref b148_), (.ref b148_)])
        refine own_viaH (fun _ k => XS.iconst X151_.here hx rfl (hb hby own_d_5_90) k) ?_
        show own_FinH _ _ _ _ _ _ _ _ _ T151_ (mkF m 91 #[.val (.int n), .val (.int c1), .val (.int c2), .val (.ref b1_), .val (.int (2 : Int32))] [(.int (0 : Int32)), (.ref b1_), (.int (0 : Int32)), (.ref b151_), (.ref b151_), (.ref b148_), (.ref b148_)])
        obtain ⟨c152_, Ar152_, q152_, S152_, M152_, H152_, G152_⟩ := (id ((r147_.ext E148_).ext E151_))
        have hin152_ : ¬ ((0 : Int32) < 0 ∨ c152_.slots.size ≤ ((0 : Int32)).toNatClampNeg) := inb_of S152_ ⟨by decide, by decide⟩
        have hat152_ : c152_.slots[((0 : Int32)).toNatClampNeg]? = some (.int (own_hs c1)) := H152_.at hin152_ rfl
        refine own_viaH (fun _ k => X151_.caload hx (j := (0 : Int32)) (v := (.int (own_hs c1))) (own_eq e151_ Ar152_.1) (State.isArrayOf_alike hZ.alike Ar152_.2.1) Ar152_.2.2 hin152_ hat152_ (g := (mkF m 91 #[.val (.int n), .val (.int c1), .val (.int c2), .val (.ref b1_), .val (.int (2 : Int32))] [(.int (0 : Int32)), (.ref b1_), (.int (0 : Int32)), (.ref b151_), (.ref b151_), (.ref b148_), (.ref b148_)])) rfl rfl (hb hby own_d_5_91) _ k) ?_
        show own_FinH _ _ _ _ _ _ _ _ _ T151_ (mkF m 92 #[.val (.int n), .val (.int c1), .val (.int c2), .val (.ref b1_), .val (.int (2 : Int32))] [(.int (own_hs c1)), (.int (0 : Int32)), (.ref b151_), (.ref b151_), (.ref b148_), (.ref b148_)])
        obtain ⟨c153_, Ar153_, q153_, S153_, M153_, H153_, G153_⟩ := (id V151_)
        have hin153_ : ¬ ((0 : Int32) < 0 ∨ c153_.slots.size ≤ ((0 : Int32)).toNatClampNeg) := inb_of S153_ ⟨by decide, by decide⟩
        obtain ⟨T153_, h153_, X153_, e153_, W153_, st153_⟩ := stC X151_ hx hZ e151_ Ar153_ (j := (0 : Int32)) hin153_ (g := (mkF m 92 #[.val (.int n), .val (.int c1), .val (.int c2), .val (.ref b1_), .val (.int (2 : Int32))] [(.int (own_hs c1)), (.int (0 : Int32)), (.ref b151_), (.ref b151_), (.ref b148_), (.ref b148_)])) rfl rfl (hb hby own_d_5_92)
        have V153_ := Arv.set Ar153_ q153_ S153_ M153_ H153_ G153_ (fits_nar_char _) W153_ 0 rfl (Nat.le_of_ble_eq_true rfl)
        have U153_ : Arv Z h153_ b151_ k151_ .char (2 : Int32) [(.int (own_hs c1)), (.int (0 : Int32))] (.int (0 : Int32)) := by
          have hq := V153_
          rw [show nar .char (own_hs c1) = (own_hs c1) from (own_narch (own_hs_chr hsc1))] at hq
          exact hq
        have g154_ : n0 ≤ b151_ := Nat.le_trans (Nat.le_trans Z0 (Nat.le_trans (Nat.le_trans E1_.1 K145_.1) E148_.1)) (Nat.le_of_eq g151_.symm)
        have N153_ := Fr.snoc X153_ N145_ g154_
        refine own_viaH (fun _ k => st153_ _ k) ?_
        show own_FinH _ _ _ _ _ _ _ _ _ T153_ (mkF m 93 #[.val (.int n), .val (.int c1), .val (.int c2), .val (.ref b1_), .val (.int (2 : Int32))] [(.ref b151_), (.ref b148_), (.ref b148_)])
        refine own_viaH (fun _ k => XS.dup X153_.here hx rfl (hb hby own_d_5_93) rfl rfl k) ?_
        show own_FinH _ _ _ _ _ _ _ _ _ T153_ (mkF m 94 #[.val (.int n), .val (.int c1), .val (.int c2), .val (.ref b1_), .val (.int (2 : Int32))] [(.ref b151_), (.ref b151_), (.ref b148_), (.ref b148_)])
        refine own_viaH (fun _ k => XS.iconst X153_.here hx rfl (hb hby own_d_5_94) k) ?_
        show own_FinH _ _ _ _ _ _ _ _ _ T153_ (mkF m 95 #[.val (.int n), .val (.int c1), .val (.int c2), .val (.ref b1_), .val (.int (2 : Int32))] [(.int (1 : Int32)), (.ref b151_), (.ref b151_), (.ref b148_), (.ref b148_)])
        refine own_viaH (fun _ k => XS.aloadN X153_.here hx rfl (hb hby own_d_5_95) rfl rfl k) ?_
        show own_FinH _ _ _ _ _ _ _ _ _ T153_ (mkF m 96 #[.val (.int n), .val (.int c1), .val (.int c2), .val (.ref b1_), .val (.int (2 : Int32))] [(.ref b1_), (.int (1 : Int32)), (.ref b151_), (.ref b151_), (.ref b148_), (.ref b148_)])
        refine own_viaH (fun _ k => XS.iconst X153_.here hx rfl (hb hby own_d_5_96) k) ?_
        show own_FinH _ _ _ _ _ _ _ _ _ T153_ (mkF m 97 #[.val (.int n), .val (.int c1), .val (.int c2), .val (.ref b1_), .val (.int (2 : Int32))] [(.int (1 : Int32)), (.ref b1_), (.int (1 : Int32)), (.ref b151_), (.ref b151_), (.ref b148_), (.ref b148_)])
        have q156_ : b1_ ≠ b151_ := Nat.ne_of_lt (Nat.lt_of_lt_of_le (r147_.ext E148_).lt (Nat.le_of_eq g151_.symm))
        obtain ⟨c155_, Ar155_, q155_, S155_, M155_, H155_, G155_⟩ := (id (((r147_.ext E148_).ext E151_).other W153_ q156_))
        have hin155_ : ¬ ((1 : Int32) < 0 ∨ c155_.slots.size ≤ ((1 : Int32)).toNatClampNeg) := inb_of S155_ ⟨by decide, by decide⟩
        have hat155_ : c155_.slots[((1 : Int32)).toNatClampNeg]? = some (.int (own_ls c1)) := H155_.at hin155_ rfl
        refine own_viaH (fun _ k => X153_.caload hx (j := (1 : Int32)) (v := (.int (own_ls c1))) (own_eq e153_ Ar155_.1) (State.isArrayOf_alike hZ.alike Ar155_.2.1) Ar155_.2.2 hin155_ hat155_ (g := (mkF m 97 #[.val (.int n), .val (.int c1), .val (.int c2), .val (.ref b1_), .val (.int (2 : Int32))] [(.int (1 : Int32)), (.ref b1_), (.int (1 : Int32)), (.ref b151_), (.ref b151_), (.ref b148_), (.ref b148_)])) rfl rfl (hb hby own_d_5_97) _ k) ?_
        show own_FinH _ _ _ _ _ _ _ _ _ T153_ (mkF m 98 #[.val (.int n), .val (.int c1), .val (.int c2), .val (.ref b1_), .val (.int (2 : Int32))] [(.int (own_ls c1)), (.int (1 : Int32)), (.ref b151_), (.ref b151_), (.ref b148_), (.ref b148_)])
        obtain ⟨c157_, Ar157_, q157_, S157_, M157_, H157_, G157_⟩ := (id U153_)
        have hin157_ : ¬ ((1 : Int32) < 0 ∨ c157_.slots.size ≤ ((1 : Int32)).toNatClampNeg) := inb_of S157_ ⟨by decide, by decide⟩
        obtain ⟨T157_, h157_, X157_, e157_, W157_, st157_⟩ := stC X153_ hx hZ e153_ Ar157_ (j := (1 : Int32)) hin157_ (g := (mkF m 98 #[.val (.int n), .val (.int c1), .val (.int c2), .val (.ref b1_), .val (.int (2 : Int32))] [(.int (own_ls c1)), (.int (1 : Int32)), (.ref b151_), (.ref b151_), (.ref b148_), (.ref b148_)])) rfl rfl (hb hby own_d_5_98)
        have V157_ := Arv.set Ar157_ q157_ S157_ M157_ H157_ G157_ (fits_nar_char _) W157_ 1 rfl (Nat.le_of_ble_eq_true rfl)
        have U157_ : Arv Z h157_ b151_ k151_ .char (2 : Int32) [(.int (own_hs c1)), (.int (own_ls c1))] (.int (0 : Int32)) := by
          have hq := V157_
          rw [show nar .char (own_ls c1) = (own_ls c1) from (own_narch (own_ls_chr hsc1))] at hq
          exact hq
        have N157_ := Fr.snoc X157_ N153_ g154_
        refine own_viaH (fun _ k => st157_ _ k) ?_
        show own_FinH _ _ _ _ _ _ _ _ _ T157_ (mkF m 99 #[.val (.int n), .val (.int c1), .val (.int c2), .val (.ref b1_), .val (.int (2 : Int32))] [(.ref b151_), (.ref b148_), (.ref b148_)])
        have f159_ := ((((((O0.ext E1_).keep K145_ (allS g146_ all0)).ext E148_).ext E151_).wr W153_ g154_).wr W157_ g154_)
        have q160_ : b148_ ≠ b151_ := Nat.ne_of_lt (Nat.lt_of_lt_of_le A148_.lt (Nat.le_of_eq g151_.symm))
        have f161_ := (((F149_.ext E151_).other W153_ (Or.inl q160_)).other W157_ (Or.inl q160_))
        have f162_ := (((F150_.ext E151_).other W153_ (Or.inl q160_)).other W157_ (Or.inl q160_))
        have g163_ : n0 ≤ b148_ := Nat.le_trans (Nat.le_trans Z0 (Nat.le_trans E1_.1 K145_.1)) (Nat.le_of_eq g148_.symm)
        obtain ⟨_, _, ⟨T158_, L158_, k158_, n158_⟩, -, X158_, ⟨Lc158_, hQ158_, l158_, y158_, z158_⟩, st158_⟩ := X157_.specialBack hx (y := (⟨"java/lang/String", "<init>", "([C)V"⟩ : MethodName)) rfl hown (mvT hZ (hw _ (List.mem_of_getElem? (i := 15) rfl))) (mvT hZ (hw _ (List.mem_of_getElem? (i := 16) rfl))) (mvT hZ (hw _ (List.mem_of_getElem? (i := 17) rfl))) (by decide) (backOf (W := 1) (own_rm_sInitC l Z a0 hw [] b148_ cz .null (.int (0 : Int32)) b151_ k151_ (2 : Int32) [(own_hs c1), (own_ls c1)] h157_ n0 (Nat.le_trans Z0 (Nat.le_trans (Nat.le_trans (Nat.le_trans (Nat.le_trans (Nat.le_trans E1_.1 K145_.1) E148_.1) E151_.1) (Keep.of_wr W153_).1) (Keep.of_wr W157_).1)) f159_ S1 (by first | assumption | decide) S3 S4 S5 (((A148_.ext E151_).wr W153_).wr W157_) f161_ f162_ g163_ U157_ rfl (by simp) (by simp) (own_ch2 (own_hs_chr hsc1) (own_ls_chr hsc1))) hZ (hw _ (List.mem_of_getElem? (i := 17) rfl)) (hw _ (List.mem_of_getElem? (i := 14) rfl)) (by decide) (by decide)) (g := (mkF m 99 #[.val (.int n), .val (.int c1), .val (.int c2), .val (.ref b1_), .val (.int (2 : Int32))] [(.ref b151_), (.ref b148_), (.ref b148_)])) rfl (by rw [hml]; rfl) (Steps.refl _) (a := b148_) (argsL := [(.ref b151_)]) (rest := [(.ref b148_)]) (lenOf own_pd21 rfl) rfl (by show 2 * 0 + _ ≤ _; exact Nat.le_of_eq rfl) (hb hby own_d_5_99) (fun _ _ => ⟨rfl, e157_, (by decide : 0 + 1 + 0 + 1 + 1 + 2 ≤ _), (by decide : 0 + 4 + 0 + 4 + 2 + 12 ≤ _)⟩)
        dsimp only [Pt.U, Pt.locs, Pt.cells, Pt.slots] at X158_ l158_ y158_ z158_ st158_ hQ158_
        subst l158_ y158_ z158_
        obtain ⟨t, kt, cd, N2, vs, rfl, Nq158_, K158_, r164_, r165_, r166_, r167_, r168_, hcod⟩ := hQ158_
        have N158_ := Fr.app N157_ Nq158_
        refine own_viaH (fun _ k => st158_.trans k) ?_
        show own_FinH _ _ _ _ _ _ _ _ _ T158_ (mkF m 102 #[.val (.int n), .val (.int c1), .val (.int c2), .val (.ref b1_), .val (.int (2 : Int32))] [(.ref b148_)])
        have C169_ := C0.trans (CHr.ext E1_ H0)
        have H169_ := C169_.1
        have sf171_ : Safe Z own_EL s.vm h0 b1_ := Safe.new (Nat.le_of_eq g1_.symm)
        have sf172_ : Safe Z own_EL s.vm h1_ b1_ := Safe.ext E1_ H0 sf171_
        have C170_ := C169_.trans (CHr.keep K145_ (sfS sf172_ sf0) H169_)
        have H170_ := C170_.1
        have C173_ := C170_.trans (CHr.ext E148_ H170_)
        have H173_ := C173_.1
        have C174_ := C173_.trans (CHr.ext E151_ H173_)
        have H174_ := C174_.1
        have sf176_ : Safe Z own_EL s.vm h148_ b151_ := Safe.new (Nat.le_of_eq g151_.symm)
        have sf177_ : Safe Z own_EL s.vm h151_ b151_ := Safe.ext E151_ H173_ sf176_
        have C175_ := C174_.trans (CHr.wr W153_ sf177_ H174_)
        have H175_ := C175_.1
        have sf179_ : Safe Z own_EL s.vm h151_ b151_ := Safe.ext E151_ H173_ sf176_
        have sf180_ : Safe Z own_EL s.vm h153_ b151_ := Safe.wr W153_ sf179_ H174_ sf179_
        have C178_ := C175_.trans (CHr.wr W157_ sf180_ H175_)
        have H178_ := C178_.1
        have sf182_ : Safe Z own_EL s.vm T145_.heap b148_ := Safe.new (Nat.le_of_eq g148_.symm)
        have sf183_ : Safe Z own_EL s.vm h148_ b148_ := Safe.ext E148_ H170_ sf182_
        have sf184_ : Safe Z own_EL s.vm h151_ b148_ := Safe.ext E151_ H173_ sf183_
        have sf185_ : Safe Z own_EL s.vm h153_ b148_ := Safe.wr W153_ sf179_ H174_ sf184_
        have sf186_ : Safe Z own_EL s.vm h157_ b148_ := Safe.wr W157_ sf180_ H175_ sf185_
        have C181_ := C178_.trans (CHr.keep K158_ (sfS sf186_ sf0) H178_)
        have H181_ := C181_.1
        exact own_retAH X158_ hx Bd.returns Bd.notSynchronized (own_ew hw) hZ hS0 (Nat.le_trans hk0 (Nat.le_trans (Nat.le_trans (Nat.le_trans (Nat.le_trans (Nat.le_trans (Nat.le_trans E1_.1 K145_.1) E148_.1) E151_.1) (Keep.of_wr W153_).1) (Keep.of_wr W157_).1) K158_.1)) hh C181_ rfl rfl (hb hby own_d_5_102) rfl ⟨b148_, t, kt, cd, N2, vs, rfl, N158_, ((((((((Keep.refl h0 []).ext E1_).trans K145_ (allS (Or.inr (Nat.le_of_eq g1_.symm)) all0)).ext E148_).ext E151_).wr W153_ (Or.inr (Nat.le_trans (Nat.le_trans (Nat.le_trans E1_.1 K145_.1) E148_.1) (Nat.le_of_eq g151_.symm)))).wr W157_ (Or.inr (Nat.le_trans (Nat.le_trans (Nat.le_trans E1_.1 K145_.1) E148_.1) (Nat.le_of_eq g151_.symm)))).trans K158_ (allS (Or.inr (Nat.le_trans (Nat.le_trans E1_.1 K145_.1) (Nat.le_of_eq g148_.symm))) all0)), (Nat.le_trans (Nat.le_trans E1_.1 K145_.1) (Nat.le_of_eq g148_.symm)), r164_, r165_, r166_, r168_, (by rw [own_units1s hA hB hsc1]; exact hcod)⟩ (by decide) (by decide)
      · refine own_viaH (fun _ k => XS.icmpNo X145_.here hx rfl (hb hby own_d_5_23) rfl (flt hB).1 k) ?_
        show own_FinH _ _ _ _ _ _ _ _ _ T145_ (mkF m 26 #[.val (.int n), .val (.int c1), .val (.int c2), .val (.ref b1_), .val (.int (2 : Int32))] [])
        refine own_viaH (fun _ k => XS.aloadN X145_.here hx rfl (hb hby own_d_5_26) rfl rfl k) ?_
        show own_FinH _ _ _ _ _ _ _ _ _ T145_ (mkF m 27 #[.val (.int n), .val (.int c1), .val (.int c2), .val (.ref b1_), .val (.int (2 : Int32))] [(.ref b1_)])
        refine own_viaH (fun _ k => XS.iload X145_.here hx rfl (hb hby own_d_5_27) rfl k) ?_
        show own_FinH _ _ _ _ _ _ _ _ _ T145_ (mkF m 29 #[.val (.int n), .val (.int c1), .val (.int c2), .val (.ref b1_), .val (.int (2 : Int32))] [(.int (2 : Int32)), (.ref b1_)])
        refine own_viaH (fun _ k => XS.iloadN X145_.here hx rfl (hb hby own_d_5_29) rfl k) ?_
        show own_FinH _ _ _ _ _ _ _ _ _ T145_ (mkF m 30 #[.val (.int n), .val (.int c1), .val (.int c2), .val (.ref b1_), .val (.int (2 : Int32))] [(.int c2), (.int (2 : Int32)), (.ref b1_)])
        rcases h2 with hbc2 | hsc2
        · obtain ⟨_, _, ⟨T187_, L187_, k187_, n187_⟩, -, X187_, ⟨Lc187_, hQ187_, l187_, y187_, z187_⟩, st187_⟩ := Jvm.LawKit.callS X145_ hx (y := (⟨"com/example/co_occurrence_ranking/cooccurrenceranking/io/LineReaderCompareFieldsPinLaw", "put", "([CII)I"⟩ : MethodName)) hown (mvT hZ (hw _ (List.mem_of_getElem? (i := 65) rfl))) (mvT hZ (hw _ (List.mem_of_getElem? (i := 66) rfl))) (mvT hZ (hw _ (List.mem_of_getElem? (i := 2) rfl))) (mvT hZ (hw _ (List.mem_of_getElem? (i := 67) rfl))) (by decide) (backOf (W := 0) (own_rm_put20 l Z a0 hw [] b1_ k1_ c2 (own_hs c1) (own_ls c1) (0 : Int32) (0 : Int32) T145_.heap n0 (Nat.le_trans Z0 (Nat.le_trans E1_.1 K145_.1)) r147_ g146_ hbc2) hZ (hw _ (List.mem_of_getElem? (i := 67) rfl)) (hw _ (List.mem_of_getElem? (i := 2) rfl)) (by decide) (by decide)) (g := (mkF m 30 #[.val (.int n), .val (.int c1), .val (.int c2), .val (.ref b1_), .val (.int (2 : Int32))] [(.int c2), (.int (2 : Int32)), (.ref b1_)])) rfl (by rw [hml]; rfl) (argsL := [(.ref b1_), (.int (2 : Int32)), (.int c2)]) (rest := []) (lenOf own_pd22 rfl) rfl (by show 2 * 0 + _ ≤ _; exact Nat.le_of_eq rfl) (hb hby own_d_5_30) (fun _ _ => ⟨rfl, rfl, (by decide : 0 + 1 + 0 + 0 ≤ _), (by decide : 0 + 4 + 0 + 0 ≤ _)⟩)
          dsimp only [Pt.U, Pt.locs, Pt.cells, Pt.slots] at X187_ l187_ y187_ z187_ st187_ hQ187_
          subst l187_ y187_ z187_
          obtain ⟨rfl, Nq187_, K187_, r188_⟩ := hQ187_
          have N187_ := Fr.app N145_ Nq187_
          refine own_viaH (fun _ k => st187_ _ k) ?_
          show own_FinH _ _ _ _ _ _ _ _ _ T187_ (mkF m 33 #[.val (.int n), .val (.int c1), .val (.int c2), .val (.ref b1_), .val (.int (2 : Int32))] [(.int (3 : Int32))])
          refine own_viaH (fun _ k => XS.istore X187_.here hx rfl (hb hby own_d_5_33) rfl (l' := #[.val (.int n), .val (.int c1), .val (.int c2), .val (.ref b1_), .val (.int (3 : Int32))]) rfl k) ?_
          show own_FinH _ _ _ _ _ _ _ _ _ T187_ (mkF m 35 #[.val (.int n), .val (.int c1), .val (.int c2), .val (.ref b1_), .val (.int (3 : Int32))] [])
          refine own_viaH (fun _ k => XS.iload X187_.here hx rfl (hb hby own_d_5_35) rfl k) ?_
          show own_FinH _ _ _ _ _ _ _ _ _ T187_ (mkF m 37 #[.val (.int n), .val (.int c1), .val (.int c2), .val (.ref b1_), .val (.int (3 : Int32))] [(.int (3 : Int32))])
          refine own_viaH (fun _ k => XS.ifYes X187_.here hx rfl (pc0 := 37) (pc' := 51) rfl (hb hby own_d_5_37) rfl ((if0 _ _).trans (feq (by decide)).2) (by decide) (by decide) k) ?_
          show own_FinH _ _ _ _ _ _ _ _ _ T187_ (mkF m 51 #[.val (.int n), .val (.int c1), .val (.int c2), .val (.ref b1_), .val (.int (3 : Int32))] [])
          refine own_viaH (fun _ k => XS.iload X187_.here hx rfl (hb hby own_d_5_51) rfl k) ?_
          show own_FinH _ _ _ _ _ _ _ _ _ T187_ (mkF m 53 #[.val (.int n), .val (.int c1), .val (.int c2), .val (.ref b1_), .val (.int (3 : Int32))] [(.int (3 : Int32))])
          refine own_viaH (fun _ k => XS.iconst X187_.here hx rfl (hb hby own_d_5_53) k) ?_
          show own_FinH _ _ _ _ _ _ _ _ _ T187_ (mkF m 54 #[.val (.int n), .val (.int c1), .val (.int c2), .val (.ref b1_), .val (.int (3 : Int32))] [(.int (1 : Int32)), (.int (3 : Int32))])
          refine own_viaH (fun _ k => XS.icmpYes X187_.here hx rfl (pc0 := 54) (pc' := 74) rfl (hb hby own_d_5_54) rfl (feq (by decide)).2 (by decide) (by decide) k) ?_
          show own_FinH _ _ _ _ _ _ _ _ _ T187_ (mkF m 74 #[.val (.int n), .val (.int c1), .val (.int c2), .val (.ref b1_), .val (.int (3 : Int32))] [])
          refine own_viaH (fun _ k => XS.iload X187_.here hx rfl (hb hby own_d_5_74) rfl k) ?_
          show own_FinH _ _ _ _ _ _ _ _ _ T187_ (mkF m 76 #[.val (.int n), .val (.int c1), .val (.int c2), .val (.ref b1_), .val (.int (3 : Int32))] [(.int (3 : Int32))])
          refine own_viaH (fun _ k => XS.iconst X187_.here hx rfl (hb hby own_d_5_76) k) ?_
          show own_FinH _ _ _ _ _ _ _ _ _ T187_ (mkF m 77 #[.val (.int n), .val (.int c1), .val (.int c2), .val (.ref b1_), .val (.int (3 : Int32))] [(.int (2 : Int32)), (.int (3 : Int32))])
          refine own_viaH (fun _ k => XS.icmpYes X187_.here hx rfl (pc0 := 77) (pc' := 103) rfl (hb hby own_d_5_77) rfl (feq (by decide)).2 (by decide) (by decide) k) ?_
          show own_FinH _ _ _ _ _ _ _ _ _ T187_ (mkF m 103 #[.val (.int n), .val (.int c1), .val (.int c2), .val (.ref b1_), .val (.int (3 : Int32))] [])
          refine own_viaH (fun _ k => XS.iload X187_.here hx rfl (hb hby own_d_5_103) rfl k) ?_
          show own_FinH _ _ _ _ _ _ _ _ _ T187_ (mkF m 105 #[.val (.int n), .val (.int c1), .val (.int c2), .val (.ref b1_), .val (.int (3 : Int32))] [(.int (3 : Int32))])
          refine own_viaH (fun _ k => XS.iconst X187_.here hx rfl (hb hby own_d_5_105) k) ?_
          show own_FinH _ _ _ _ _ _ _ _ _ T187_ (mkF m 106 #[.val (.int n), .val (.int c1), .val (.int c2), .val (.ref b1_), .val (.int (3 : Int32))] [(.int (3 : Int32)), (.int (3 : Int32))])
          refine own_viaH (fun _ k => XS.icmpNo X187_.here hx rfl (hb hby own_d_5_106) rfl (teq rfl).2 k) ?_
          show own_FinH _ _ _ _ _ _ _ _ _ T187_ (mkF m 109 #[.val (.int n), .val (.int c1), .val (.int c2), .val (.ref b1_), .val (.int (3 : Int32))] [])
          obtain ⟨T189_, h189_, X189_, e189_, E189_, A189_, D189_, -, st189_⟩ := newO X187_ hx hZ hown (hw _ (List.mem_of_getElem? (i := 12) rfl)) (hw _ (List.mem_of_getElem? (i := 13) rfl)) (hw _ (List.mem_of_getElem? (i := 14) rfl)) rfl (g := (mkF m 109 #[.val (.int n), .val (.int c1), .val (.int c2), .val (.ref b1_), .val (.int (3 : Int32))] [])) rfl (hb hby own_d_5_109) (by decide) (by decide)
          obtain ⟨b189_, g189_⟩ : ∃ z, z = T187_.heap.size := ⟨_, rfl⟩
          rw [← g189_] at A189_ D189_ st189_
          have F190_ : Fld Z h189_ b189_ "java/lang/String" "value" "[B" .null := D189_ (Or.inr (hw _ (List.mem_of_getElem? (i := 27) rfl))) (ty := (.array .byte)) (by decide)
          have F191_ : Fld Z h189_ b189_ "java/lang/String" "coder" "B" (.int (0 : Int32)) := D189_ (Or.inr (hw _ (List.mem_of_getElem? (i := 28) rfl))) (ty := .byte) (by decide)
          refine own_viaH (fun _ k => st189_ _ k) ?_
          show own_FinH _ _ _ _ _ _ _ _ _ T189_ (mkF m 112 #[.val (.int n), .val (.int c1), .val (.int c2), .val (.ref b1_), .val (.int (3 : Int32))] [(.ref b189_)])
          refine own_viaH (fun _ k => XS.dup X189_.here hx rfl (hb hby own_d_5_112) rfl rfl k) ?_
          show own_FinH _ _ _ _ _ _ _ _ _ T189_ (mkF m 113 #[.val (.int n), .val (.int c1), .val (.int c2), .val (.ref b1_), .val (.int (3 : Int32))] [(.ref b189_), (.ref b189_)])
          refine own_viaH (fun _ k => XS.iconst X189_.here hx rfl (hb hby own_d_5_113) k) ?_
          show own_FinH _ _ _ _ _ _ _ _ _ T189_ (mkF m 114 #[.val (.int n), .val (.int c1), .val (.int c2), .val (.ref b1_), .val (.int (3 : Int32))] [(.int (3 : Int32)), (.ref b189_), (.ref b189_)])
          obtain ⟨T192_, h192_, k192_, X192_, e192_, E192_, A192_, st192_⟩ := newP X189_ hx hZ (hw _ (List.mem_of_getElem? (i := 11) rfl)) e189_ (g := (mkF m 114 #[.val (.int n), .val (.int c1), .val (.int c2), .val (.ref b1_), .val (.int (3 : Int32))] [(.int (3 : Int32)), (.ref b189_), (.ref b189_)])) rfl (hb hby own_d_5_114) rfl (by decide) (cap := 3) (by decide) (by decide) (by decide) (by decide)
          obtain ⟨b192_, g192_⟩ : ∃ z, z = h189_.size := ⟨_, rfl⟩
          rw [← g192_] at A192_ st192_
          have V192_ : Arv Z h192_ b192_ k192_ .char (3 : Int32) [(.int (0 : Int32)), (.int (0 : Int32)), (.int (0 : Int32))] (.int (0 : Int32)) := (Arv.new A192_ (by decide)).pad (pad_rep [] (.int (0 : Int32)) 3)
          refine own_viaH (fun _ k => st192_ _ k) ?_
          show own_FinH _ _ _ _ _ _ _ _ _ T192_ (mkF m 116 #[.val (.int n), .val (.int c1), .val (.int c2), .val (.ref b1_), .val (.int (3 : Int32))] [(.ref b192_), (.ref b189_), (.ref b189_)])
          refine own_viaH (fun _ k => XS.dup X192_.here hx rfl (hb hby own_d_5_116) rfl rfl k) ?_
          show own_FinH _ _ _ _ _ _ _ _ _ T192_ (mkF m 117 #[.val (.int n), .val (.int c1), .val (.int c2), .val (.ref b1_), .val (.int (3 : Int32))] [(.ref b192_), (.ref b192_), (.ref b189_), (.ref b189_)])
          refine own_viaH (fun _ k => XS.iconst X192_.here hx rfl (hb hby own_d_5_117) k) ?_
          show own_FinH _ _ _ _ _ _ _ _ _ T192_ (mkF m 118 #[.val (.int n), .val (.int c1), .val (.int c2), .val (.ref b1_), .val (.int (3 : Int32))] [(.int (0 : Int32)), (.ref b192_), (.ref b192_), (.ref b189_), (.ref b189_)])
          refine own_viaH (fun _ k => XS.aloadN X192_.here hx rfl (hb hby own_d_5_118) rfl rfl k) ?_
          show own_FinH _ _ _ _ _ _ _ _ _ T192_ (mkF m 119 #[.val (.int n), .val (.int c1), .val (.int c2), .val (.ref b1_), .val (.int (3 : Int32))] [(.ref b1_), (.int (0 : Int32)), (.ref b192_), (.ref b192_), (.ref b189_), (.ref b189_)])
          refine own_viaH (fun _ k => XS.iconst X192_.here hx rfl (hb hby own_d_5_119) k) ?_
          show own_FinH _ _ _ _ _ _ _ _ _ T192_ (mkF m 120 #[.val (.int n), .val (.int c1), .val (.int c2), .val (.ref b1_), .val (.int (3 : Int32))] [(.int (0 : Int32)), (.ref b1_), (.int (0 : Int32)), (.ref b192_), (.ref b192_), (.ref b189_), (.ref b189_)])
          obtain ⟨c193_, Ar193_, q193_, S193_, M193_, H193_, G193_⟩ := (id ((r188_.ext E189_).ext E192_))
          have hin193_ : ¬ ((0 : Int32) < 0 ∨ c193_.slots.size ≤ ((0 : Int32)).toNatClampNeg) := inb_of S193_ ⟨by decide, by decide⟩
          have hat193_ : c193_.slots[((0 : Int32)).toNatClampNeg]? = some (.int (own_hs c1)) := H193_.at hin193_ rfl
          refine own_viaH (fun _ k => X192_.caload hx (j := (0 : Int32)) (v := (.int (own_hs c1))) (own_eq e192_ Ar193_.1) (State.isArrayOf_alike hZ.alike Ar193_.2.1) Ar193_.2.2 hin193_ hat193_ (g := (mkF m 120 #[.val (.int n), .val (.int c1), .val (.int c2), .val (.ref b1_), .val (.int (3 : Int32))] [(.int (0 : Int32)), (.ref b1_), (.int (0 : Int32)), (.ref b192_), (.ref b192_), (.ref b189_), (.ref b189_)])) rfl rfl (hb hby own_d_5_120) _ k) ?_
          show own_FinH _ _ _ _ _ _ _ _ _ T192_ (mkF m 121 #[.val (.int n), .val (.int c1), .val (.int c2), .val (.ref b1_), .val (.int (3 : Int32))] [(.int (own_hs c1)), (.int (0 : Int32)), (.ref b192_), (.ref b192_), (.ref b189_), (.ref b189_)])
          obtain ⟨c194_, Ar194_, q194_, S194_, M194_, H194_, G194_⟩ := (id V192_)
          have hin194_ : ¬ ((0 : Int32) < 0 ∨ c194_.slots.size ≤ ((0 : Int32)).toNatClampNeg) := inb_of S194_ ⟨by decide, by decide⟩
          obtain ⟨T194_, h194_, X194_, e194_, W194_, st194_⟩ := stC X192_ hx hZ e192_ Ar194_ (j := (0 : Int32)) hin194_ (g := (mkF m 121 #[.val (.int n), .val (.int c1), .val (.int c2), .val (.ref b1_), .val (.int (3 : Int32))] [(.int (own_hs c1)), (.int (0 : Int32)), (.ref b192_), (.ref b192_), (.ref b189_), (.ref b189_)])) rfl rfl (hb hby own_d_5_121)
          have V194_ := Arv.set Ar194_ q194_ S194_ M194_ H194_ G194_ (fits_nar_char _) W194_ 0 rfl (Nat.le_of_ble_eq_true rfl)
          have U194_ : Arv Z h194_ b192_ k192_ .char (3 : Int32) [(.int (own_hs c1)), (.int (0 : Int32)), (.int (0 : Int32))] (.int (0 : Int32)) := by
            have hq := V194_
            rw [show nar .char (own_hs c1) = (own_hs c1) from (own_narch (own_hs_chr hsc1))] at hq
            exact hq
          have g195_ : n0 ≤ b192_ := Nat.le_trans (Nat.le_trans Z0 (Nat.le_trans (Nat.le_trans (Nat.le_trans E1_.1 K145_.1) K187_.1) E189_.1)) (Nat.le_of_eq g192_.symm)
          have N194_ := Fr.snoc X194_ N187_ g195_
          refine own_viaH (fun _ k => st194_ _ k) ?_
          show own_FinH _ _ _ _ _ _ _ _ _ T194_ (mkF m 122 #[.val (.int n), .val (.int c1), .val (.int c2), .val (.ref b1_), .val (.int (3 : Int32))] [(.ref b192_), (.ref b189_), (.ref b189_)])
          refine own_viaH (fun _ k => XS.dup X194_.here hx rfl (hb hby own_d_5_122) rfl rfl k) ?_
          show own_FinH _ _ _ _ _ _ _ _ _ T194_ (mkF m 123 #[.val (.int n), .val (.int c1), .val (.int c2), .val (.ref b1_), .val (.int (3 : Int32))] [(.ref b192_), (.ref b192_), (.ref b189_), (.ref b189_)])
          refine own_viaH (fun _ k => XS.iconst X194_.here hx rfl (hb hby own_d_5_123) k) ?_
          show own_FinH _ _ _ _ _ _ _ _ _ T194_ (mkF m 124 #[.val (.int n), .val (.int c1), .val (.int c2), .val (.ref b1_), .val (.int (3 : Int32))] [(.int (1 : Int32)), (.ref b192_), (.ref b192_), (.ref b189_), (.ref b189_)])
          refine own_viaH (fun _ k => XS.aloadN X194_.here hx rfl (hb hby own_d_5_124) rfl rfl k) ?_
          show own_FinH _ _ _ _ _ _ _ _ _ T194_ (mkF m 125 #[.val (.int n), .val (.int c1), .val (.int c2), .val (.ref b1_), .val (.int (3 : Int32))] [(.ref b1_), (.int (1 : Int32)), (.ref b192_), (.ref b192_), (.ref b189_), (.ref b189_)])
          refine own_viaH (fun _ k => XS.iconst X194_.here hx rfl (hb hby own_d_5_125) k) ?_
          show own_FinH _ _ _ _ _ _ _ _ _ T194_ (mkF m 126 #[.val (.int n), .val (.int c1), .val (.int c2), .val (.ref b1_), .val (.int (3 : Int32))] [(.int (1 : Int32)), (.ref b1_), (.int (1 : Int32)), (.ref b192_), (.ref b192_), (.ref b189_), (.ref b189_)])
          have q197_ : b1_ ≠ b192_ := Nat.ne_of_lt (Nat.lt_of_lt_of_le (r188_.ext E189_).lt (Nat.le_of_eq g192_.symm))
          obtain ⟨c196_, Ar196_, q196_, S196_, M196_, H196_, G196_⟩ := (id (((r188_.ext E189_).ext E192_).other W194_ q197_))
          have hin196_ : ¬ ((1 : Int32) < 0 ∨ c196_.slots.size ≤ ((1 : Int32)).toNatClampNeg) := inb_of S196_ ⟨by decide, by decide⟩
          have hat196_ : c196_.slots[((1 : Int32)).toNatClampNeg]? = some (.int (own_ls c1)) := H196_.at hin196_ rfl
          refine own_viaH (fun _ k => X194_.caload hx (j := (1 : Int32)) (v := (.int (own_ls c1))) (own_eq e194_ Ar196_.1) (State.isArrayOf_alike hZ.alike Ar196_.2.1) Ar196_.2.2 hin196_ hat196_ (g := (mkF m 126 #[.val (.int n), .val (.int c1), .val (.int c2), .val (.ref b1_), .val (.int (3 : Int32))] [(.int (1 : Int32)), (.ref b1_), (.int (1 : Int32)), (.ref b192_), (.ref b192_), (.ref b189_), (.ref b189_)])) rfl rfl (hb hby own_d_5_126) _ k) ?_
          show own_FinH _ _ _ _ _ _ _ _ _ T194_ (mkF m 127 #[.val (.int n), .val (.int c1), .val (.int c2), .val (.ref b1_), .val (.int (3 : Int32))] [(.int (own_ls c1)), (.int (1 : Int32)), (.ref b192_), (.ref b192_), (.ref b189_), (.ref b189_)])
          obtain ⟨c198_, Ar198_, q198_, S198_, M198_, H198_, G198_⟩ := (id U194_)
          have hin198_ : ¬ ((1 : Int32) < 0 ∨ c198_.slots.size ≤ ((1 : Int32)).toNatClampNeg) := inb_of S198_ ⟨by decide, by decide⟩
          obtain ⟨T198_, h198_, X198_, e198_, W198_, st198_⟩ := stC X194_ hx hZ e194_ Ar198_ (j := (1 : Int32)) hin198_ (g := (mkF m 127 #[.val (.int n), .val (.int c1), .val (.int c2), .val (.ref b1_), .val (.int (3 : Int32))] [(.int (own_ls c1)), (.int (1 : Int32)), (.ref b192_), (.ref b192_), (.ref b189_), (.ref b189_)])) rfl rfl (hb hby own_d_5_127)
          have V198_ := Arv.set Ar198_ q198_ S198_ M198_ H198_ G198_ (fits_nar_char _) W198_ 1 rfl (Nat.le_of_ble_eq_true rfl)
          have U198_ : Arv Z h198_ b192_ k192_ .char (3 : Int32) [(.int (own_hs c1)), (.int (own_ls c1)), (.int (0 : Int32))] (.int (0 : Int32)) := by
            have hq := V198_
            rw [show nar .char (own_ls c1) = (own_ls c1) from (own_narch (own_ls_chr hsc1))] at hq
            exact hq
          have N198_ := Fr.snoc X198_ N194_ g195_
          refine own_viaH (fun _ k => st198_ _ k) ?_
          show own_FinH _ _ _ _ _ _ _ _ _ T198_ (mkF m 128 #[.val (.int n), .val (.int c1), .val (.int c2), .val (.ref b1_), .val (.int (3 : Int32))] [(.ref b192_), (.ref b189_), (.ref b189_)])
          refine own_viaH (fun _ k => XS.dup X198_.here hx rfl (hb hby own_d_5_128) rfl rfl k) ?_
          show own_FinH _ _ _ _ _ _ _ _ _ T198_ (mkF m 129 #[.val (.int n), .val (.int c1), .val (.int c2), .val (.ref b1_), .val (.int (3 : Int32))] [(.ref b192_), (.ref b192_), (.ref b189_), (.ref b189_)])
          refine own_viaH (fun _ k => XS.iconst X198_.here hx rfl (hb hby own_d_5_129) k) ?_
          show own_FinH _ _ _ _ _ _ _ _ _ T198_ (mkF m 130 #[.val (.int n), .val (.int c1), .val (.int c2), .val (.ref b1_), .val (.int (3 : Int32))] [(.int (2 : Int32)), (.ref b192_), (.ref b192_), (.ref b189_), (.ref b189_)])
          refine own_viaH (fun _ k => XS.aloadN X198_.here hx rfl (hb hby own_d_5_130) rfl rfl k) ?_
          show own_FinH _ _ _ _ _ _ _ _ _ T198_ (mkF m 131 #[.val (.int n), .val (.int c1), .val (.int c2), .val (.ref b1_), .val (.int (3 : Int32))] [(.ref b1_), (.int (2 : Int32)), (.ref b192_), (.ref b192_), (.ref b189_), (.ref b189_)])
          refine own_viaH (fun _ k => XS.iconst X198_.here hx rfl (hb hby own_d_5_131) k) ?_
          show own_FinH _ _ _ _ _ _ _ _ _ T198_ (mkF m 132 #[.val (.int n), .val (.int c1), .val (.int c2), .val (.ref b1_), .val (.int (3 : Int32))] [(.int (2 : Int32)), (.ref b1_), (.int (2 : Int32)), (.ref b192_), (.ref b192_), (.ref b189_), (.ref b189_)])
          have f200_ := ((((r188_.ext E189_).ext E192_).other W194_ q197_).other W198_ q197_)
          obtain ⟨c199_, Ar199_, q199_, S199_, M199_, H199_, G199_⟩ := (id f200_)
          have hin199_ : ¬ ((2 : Int32) < 0 ∨ c199_.slots.size ≤ ((2 : Int32)).toNatClampNeg) := inb_of S199_ ⟨by decide, by decide⟩
          have hat199_ : c199_.slots[((2 : Int32)).toNatClampNeg]? = some (.int c2) := H199_.at hin199_ rfl
          refine own_viaH (fun _ k => X198_.caload hx (j := (2 : Int32)) (v := (.int c2)) (own_eq e198_ Ar199_.1) (State.isArrayOf_alike hZ.alike Ar199_.2.1) Ar199_.2.2 hin199_ hat199_ (g := (mkF m 132 #[.val (.int n), .val (.int c1), .val (.int c2), .val (.ref b1_), .val (.int (3 : Int32))] [(.int (2 : Int32)), (.ref b1_), (.int (2 : Int32)), (.ref b192_), (.ref b192_), (.ref b189_), (.ref b189_)])) rfl rfl (hb hby own_d_5_132) _ k) ?_
          show own_FinH _ _ _ _ _ _ _ _ _ T198_ (mkF m 133 #[.val (.int n), .val (.int c1), .val (.int c2), .val (.ref b1_), .val (.int (3 : Int32))] [(.int c2), (.int (2 : Int32)), (.ref b192_), (.ref b192_), (.ref b189_), (.ref b189_)])
          obtain ⟨c201_, Ar201_, q201_, S201_, M201_, H201_, G201_⟩ := (id U198_)
          have hin201_ : ¬ ((2 : Int32) < 0 ∨ c201_.slots.size ≤ ((2 : Int32)).toNatClampNeg) := inb_of S201_ ⟨by decide, by decide⟩
          obtain ⟨T201_, h201_, X201_, e201_, W201_, st201_⟩ := stC X198_ hx hZ e198_ Ar201_ (j := (2 : Int32)) hin201_ (g := (mkF m 133 #[.val (.int n), .val (.int c1), .val (.int c2), .val (.ref b1_), .val (.int (3 : Int32))] [(.int c2), (.int (2 : Int32)), (.ref b192_), (.ref b192_), (.ref b189_), (.ref b189_)])) rfl rfl (hb hby own_d_5_133)
          have V201_ := Arv.set Ar201_ q201_ S201_ M201_ H201_ G201_ (fits_nar_char _) W201_ 2 rfl (Nat.le_of_ble_eq_true rfl)
          have U201_ : Arv Z h201_ b192_ k192_ .char (3 : Int32) [(.int (own_hs c1)), (.int (own_ls c1)), (.int c2)] (.int (0 : Int32)) := by
            have hq := V201_
            rw [show nar .char c2 = c2 from (own_narch (own_bmp_chr hbc2))] at hq
            exact hq
          have N201_ := Fr.snoc X201_ N198_ g195_
          refine own_viaH (fun _ k => st201_ _ k) ?_
          show own_FinH _ _ _ _ _ _ _ _ _ T201_ (mkF m 134 #[.val (.int n), .val (.int c1), .val (.int c2), .val (.ref b1_), .val (.int (3 : Int32))] [(.ref b192_), (.ref b189_), (.ref b189_)])
          have f203_ := ((((((((O0.ext E1_).keep K145_ (allS g146_ all0)).keep K187_ (allS g146_ all0)).ext E189_).ext E192_).wr W194_ g195_).wr W198_ g195_).wr W201_ g195_)
          have q204_ : b189_ ≠ b192_ := Nat.ne_of_lt (Nat.lt_of_lt_of_le A189_.lt (Nat.le_of_eq g192_.symm))
          have f205_ := ((((F190_.ext E192_).other W194_ (Or.inl q204_)).other W198_ (Or.inl q204_)).other W201_ (Or.inl q204_))
          have f206_ := ((((F191_.ext E192_).other W194_ (Or.inl q204_)).other W198_ (Or.inl q204_)).other W201_ (Or.inl q204_))
          have g207_ : n0 ≤ b189_ := Nat.le_trans (Nat.le_trans Z0 (Nat.le_trans (Nat.le_trans E1_.1 K145_.1) K187_.1)) (Nat.le_of_eq g189_.symm)
          obtain ⟨_, _, ⟨T202_, L202_, k202_, n202_⟩, -, X202_, ⟨Lc202_, hQ202_, l202_, y202_, z202_⟩, st202_⟩ := X201_.specialBack hx (y := (⟨"java/lang/String", "<init>", "([C)V"⟩ : MethodName)) rfl hown (mvT hZ (hw _ (List.mem_of_getElem? (i := 15) rfl))) (mvT hZ (hw _ (List.mem_of_getElem? (i := 16) rfl))) (mvT hZ (hw _ (List.mem_of_getElem? (i := 17) rfl))) (by decide) (backOf (W := 1) (own_rm_sInitC l Z a0 hw [] b189_ cz .null (.int (0 : Int32)) b192_ k192_ (3 : Int32) [(own_hs c1), (own_ls c1), c2] h201_ n0 (Nat.le_trans Z0 (Nat.le_trans (Nat.le_trans (Nat.le_trans (Nat.le_trans (Nat.le_trans (Nat.le_trans (Nat.le_trans E1_.1 K145_.1) K187_.1) E189_.1) E192_.1) (Keep.of_wr W194_).1) (Keep.of_wr W198_).1) (Keep.of_wr W201_).1)) f203_ S1 (by first | assumption | decide) S3 S4 S5 ((((A189_.ext E192_).wr W194_).wr W198_).wr W201_) f205_ f206_ g207_ U201_ rfl (by simp) (by simp) (own_ch3 (own_hs_chr hsc1) (own_ls_chr hsc1) (own_bmp_chr hbc2))) hZ (hw _ (List.mem_of_getElem? (i := 17) rfl)) (hw _ (List.mem_of_getElem? (i := 14) rfl)) (by decide) (by decide)) (g := (mkF m 134 #[.val (.int n), .val (.int c1), .val (.int c2), .val (.ref b1_), .val (.int (3 : Int32))] [(.ref b192_), (.ref b189_), (.ref b189_)])) rfl (by rw [hml]; rfl) (Steps.refl _) (a := b189_) (argsL := [(.ref b192_)]) (rest := [(.ref b189_)]) (lenOf own_pd21 rfl) rfl (by show 2 * 0 + _ ≤ _; exact Nat.le_of_eq rfl) (hb hby own_d_5_134) (fun _ _ => ⟨rfl, e201_, (by decide : 0 + 1 + 0 + 0 + 1 + 1 + 2 ≤ _), (by decide : 0 + 4 + 0 + 0 + 4 + 3 + 12 ≤ _)⟩)
          dsimp only [Pt.U, Pt.locs, Pt.cells, Pt.slots] at X202_ l202_ y202_ z202_ st202_ hQ202_
          subst l202_ y202_ z202_
          obtain ⟨t, kt, cd, N2, vs, rfl, Nq202_, K202_, r208_, r209_, r210_, r211_, r212_, hcod⟩ := hQ202_
          have N202_ := Fr.app N201_ Nq202_
          refine own_viaH (fun _ k => st202_.trans k) ?_
          show own_FinH _ _ _ _ _ _ _ _ _ T202_ (mkF m 137 #[.val (.int n), .val (.int c1), .val (.int c2), .val (.ref b1_), .val (.int (3 : Int32))] [(.ref b189_)])
          have C213_ := C0.trans (CHr.ext E1_ H0)
          have H213_ := C213_.1
          have sf215_ : Safe Z own_EL s.vm h0 b1_ := Safe.new (Nat.le_of_eq g1_.symm)
          have sf216_ : Safe Z own_EL s.vm h1_ b1_ := Safe.ext E1_ H0 sf215_
          have C214_ := C213_.trans (CHr.keep K145_ (sfS sf216_ sf0) H213_)
          have H214_ := C214_.1
          have sf218_ : Safe Z own_EL s.vm h1_ b1_ := Safe.ext E1_ H0 sf215_
          have sf219_ : Safe Z own_EL s.vm T145_.heap b1_ := Safe.keep K145_ (sfS sf218_ sf0) H213_ sf218_
          have C217_ := C214_.trans (CHr.keep K187_ (sfS sf219_ sf0) H214_)
          have H217_ := C217_.1
          have C220_ := C217_.trans (CHr.ext E189_ H217_)
          have H220_ := C220_.1
          have C221_ := C220_.trans (CHr.ext E192_ H220_)
          have H221_ := C221_.1
          have sf223_ : Safe Z own_EL s.vm h189_ b192_ := Safe.new (Nat.le_of_eq g192_.symm)
          have sf224_ : Safe Z own_EL s.vm h192_ b192_ := Safe.ext E192_ H220_ sf223_
          have C222_ := C221_.trans (CHr.wr W194_ sf224_ H221_)
          have H222_ := C222_.1
          have sf226_ : Safe Z own_EL s.vm h192_ b192_ := Safe.ext E192_ H220_ sf223_
          have sf227_ : Safe Z own_EL s.vm h194_ b192_ := Safe.wr W194_ sf226_ H221_ sf226_
          have C225_ := C222_.trans (CHr.wr W198_ sf227_ H222_)
          have H225_ := C225_.1
          have sf229_ : Safe Z own_EL s.vm h192_ b192_ := Safe.ext E192_ H220_ sf223_
          have sf230_ : Safe Z own_EL s.vm h194_ b192_ := Safe.wr W194_ sf229_ H221_ sf229_
          have sf231_ : Safe Z own_EL s.vm h198_ b192_ := Safe.wr W198_ sf230_ H222_ sf230_
          have C228_ := C225_.trans (CHr.wr W201_ sf231_ H225_)
          have H228_ := C228_.1
          have sf233_ : Safe Z own_EL s.vm T187_.heap b189_ := Safe.new (Nat.le_of_eq g189_.symm)
          have sf234_ : Safe Z own_EL s.vm h189_ b189_ := Safe.ext E189_ H217_ sf233_
          have sf235_ : Safe Z own_EL s.vm h192_ b189_ := Safe.ext E192_ H220_ sf234_
          have sf236_ : Safe Z own_EL s.vm h194_ b189_ := Safe.wr W194_ sf229_ H221_ sf235_
          have sf237_ : Safe Z own_EL s.vm h198_ b189_ := Safe.wr W198_ sf230_ H222_ sf236_
          have sf238_ : Safe Z own_EL s.vm h201_ b189_ := Safe.wr W201_ sf231_ H225_ sf237_
          have C232_ := C228_.trans (CHr.keep K202_ (sfS sf238_ sf0) H228_)
          have H232_ := C232_.1
          exact own_retAH X202_ hx Bd.returns Bd.notSynchronized (own_ew hw) hZ hS0 (Nat.le_trans hk0 (Nat.le_trans (Nat.le_trans (Nat.le_trans (Nat.le_trans (Nat.le_trans (Nat.le_trans (Nat.le_trans (Nat.le_trans E1_.1 K145_.1) K187_.1) E189_.1) E192_.1) (Keep.of_wr W194_).1) (Keep.of_wr W198_).1) (Keep.of_wr W201_).1) K202_.1)) hh C232_ rfl rfl (hb hby own_d_5_137) rfl ⟨b189_, t, kt, cd, N2, vs, rfl, N202_, ((((((((((Keep.refl h0 []).ext E1_).trans K145_ (allS (Or.inr (Nat.le_of_eq g1_.symm)) all0)).trans K187_ (allS (Or.inr (Nat.le_of_eq g1_.symm)) all0)).ext E189_).ext E192_).wr W194_ (Or.inr (Nat.le_trans (Nat.le_trans (Nat.le_trans (Nat.le_trans E1_.1 K145_.1) K187_.1) E189_.1) (Nat.le_of_eq g192_.symm)))).wr W198_ (Or.inr (Nat.le_trans (Nat.le_trans (Nat.le_trans (Nat.le_trans E1_.1 K145_.1) K187_.1) E189_.1) (Nat.le_of_eq g192_.symm)))).wr W201_ (Or.inr (Nat.le_trans (Nat.le_trans (Nat.le_trans (Nat.le_trans E1_.1 K145_.1) K187_.1) E189_.1) (Nat.le_of_eq g192_.symm)))).trans K202_ (allS (Or.inr (Nat.le_trans (Nat.le_trans (Nat.le_trans E1_.1 K145_.1) K187_.1) (Nat.le_of_eq g189_.symm))) all0)), (Nat.le_trans (Nat.le_trans (Nat.le_trans E1_.1 K145_.1) K187_.1) (Nat.le_of_eq g189_.symm)), r208_, r209_, r210_, r212_, (by rw [own_units2sb hA hB hsc1 hbc2]; exact hcod)⟩ (by decide) (by decide)
        · obtain ⟨_, _, ⟨T239_, L239_, k239_, n239_⟩, -, X239_, ⟨Lc239_, hQ239_, l239_, y239_, z239_⟩, st239_⟩ := Jvm.LawKit.callS X145_ hx (y := (⟨"com/example/co_occurrence_ranking/cooccurrenceranking/io/LineReaderCompareFieldsPinLaw", "put", "([CII)I"⟩ : MethodName)) hown (mvT hZ (hw _ (List.mem_of_getElem? (i := 65) rfl))) (mvT hZ (hw _ (List.mem_of_getElem? (i := 66) rfl))) (mvT hZ (hw _ (List.mem_of_getElem? (i := 2) rfl))) (mvT hZ (hw _ (List.mem_of_getElem? (i := 67) rfl))) (by decide) (backOf (W := 0) (own_rm_put21 l Z a0 hw [] b1_ k1_ c2 (own_hs c1) (own_ls c1) (0 : Int32) (0 : Int32) T145_.heap n0 (Nat.le_trans Z0 (Nat.le_trans E1_.1 K145_.1)) r147_ g146_ hsc2) hZ (hw _ (List.mem_of_getElem? (i := 67) rfl)) (hw _ (List.mem_of_getElem? (i := 2) rfl)) (by decide) (by decide)) (g := (mkF m 30 #[.val (.int n), .val (.int c1), .val (.int c2), .val (.ref b1_), .val (.int (2 : Int32))] [(.int c2), (.int (2 : Int32)), (.ref b1_)])) rfl (by rw [hml]; rfl) (argsL := [(.ref b1_), (.int (2 : Int32)), (.int c2)]) (rest := []) (lenOf own_pd22 rfl) rfl (by show 2 * 0 + _ ≤ _; exact Nat.le_of_eq rfl) (hb hby own_d_5_30) (fun _ _ => ⟨rfl, rfl, (by decide : 0 + 1 + 0 + 0 ≤ _), (by decide : 0 + 4 + 0 + 0 ≤ _)⟩)
          dsimp only [Pt.U, Pt.locs, Pt.cells, Pt.slots] at X239_ l239_ y239_ z239_ st239_ hQ239_
          subst l239_ y239_ z239_
          obtain ⟨rfl, Nq239_, K239_, r240_⟩ := hQ239_
          have N239_ := Fr.app N145_ Nq239_
          refine own_viaH (fun _ k => st239_ _ k) ?_
          show own_FinH _ _ _ _ _ _ _ _ _ T239_ (mkF m 33 #[.val (.int n), .val (.int c1), .val (.int c2), .val (.ref b1_), .val (.int (2 : Int32))] [(.int (4 : Int32))])
          refine own_viaH (fun _ k => XS.istore X239_.here hx rfl (hb hby own_d_5_33) rfl (l' := #[.val (.int n), .val (.int c1), .val (.int c2), .val (.ref b1_), .val (.int (4 : Int32))]) rfl k) ?_
          show own_FinH _ _ _ _ _ _ _ _ _ T239_ (mkF m 35 #[.val (.int n), .val (.int c1), .val (.int c2), .val (.ref b1_), .val (.int (4 : Int32))] [])
          refine own_viaH (fun _ k => XS.iload X239_.here hx rfl (hb hby own_d_5_35) rfl k) ?_
          show own_FinH _ _ _ _ _ _ _ _ _ T239_ (mkF m 37 #[.val (.int n), .val (.int c1), .val (.int c2), .val (.ref b1_), .val (.int (4 : Int32))] [(.int (4 : Int32))])
          refine own_viaH (fun _ k => XS.ifYes X239_.here hx rfl (pc0 := 37) (pc' := 51) rfl (hb hby own_d_5_37) rfl ((if0 _ _).trans (feq (by decide)).2) (by decide) (by decide) k) ?_
          show own_FinH _ _ _ _ _ _ _ _ _ T239_ (mkF m 51 #[.val (.int n), .val (.int c1), .val (.int c2), .val (.ref b1_), .val (.int (4 : Int32))] [])
          refine own_viaH (fun _ k => XS.iload X239_.here hx rfl (hb hby own_d_5_51) rfl k) ?_
          show own_FinH _ _ _ _ _ _ _ _ _ T239_ (mkF m 53 #[.val (.int n), .val (.int c1), .val (.int c2), .val (.ref b1_), .val (.int (4 : Int32))] [(.int (4 : Int32))])
          refine own_viaH (fun _ k => XS.iconst X239_.here hx rfl (hb hby own_d_5_53) k) ?_
          show own_FinH _ _ _ _ _ _ _ _ _ T239_ (mkF m 54 #[.val (.int n), .val (.int c1), .val (.int c2), .val (.ref b1_), .val (.int (4 : Int32))] [(.int (1 : Int32)), (.int (4 : Int32))])
          refine own_viaH (fun _ k => XS.icmpYes X239_.here hx rfl (pc0 := 54) (pc' := 74) rfl (hb hby own_d_5_54) rfl (feq (by decide)).2 (by decide) (by decide) k) ?_
          show own_FinH _ _ _ _ _ _ _ _ _ T239_ (mkF m 74 #[.val (.int n), .val (.int c1), .val (.int c2), .val (.ref b1_), .val (.int (4 : Int32))] [])
          refine own_viaH (fun _ k => XS.iload X239_.here hx rfl (hb hby own_d_5_74) rfl k) ?_
          show own_FinH _ _ _ _ _ _ _ _ _ T239_ (mkF m 76 #[.val (.int n), .val (.int c1), .val (.int c2), .val (.ref b1_), .val (.int (4 : Int32))] [(.int (4 : Int32))])
          refine own_viaH (fun _ k => XS.iconst X239_.here hx rfl (hb hby own_d_5_76) k) ?_
          show own_FinH _ _ _ _ _ _ _ _ _ T239_ (mkF m 77 #[.val (.int n), .val (.int c1), .val (.int c2), .val (.ref b1_), .val (.int (4 : Int32))] [(.int (2 : Int32)), (.int (4 : Int32))])
          refine own_viaH (fun _ k => XS.icmpYes X239_.here hx rfl (pc0 := 77) (pc' := 103) rfl (hb hby own_d_5_77) rfl (feq (by decide)).2 (by decide) (by decide) k) ?_
          show own_FinH _ _ _ _ _ _ _ _ _ T239_ (mkF m 103 #[.val (.int n), .val (.int c1), .val (.int c2), .val (.ref b1_), .val (.int (4 : Int32))] [])
          refine own_viaH (fun _ k => XS.iload X239_.here hx rfl (hb hby own_d_5_103) rfl k) ?_
          show own_FinH _ _ _ _ _ _ _ _ _ T239_ (mkF m 105 #[.val (.int n), .val (.int c1), .val (.int c2), .val (.ref b1_), .val (.int (4 : Int32))] [(.int (4 : Int32))])
          refine own_viaH (fun _ k => XS.iconst X239_.here hx rfl (hb hby own_d_5_105) k) ?_
          show own_FinH _ _ _ _ _ _ _ _ _ T239_ (mkF m 106 #[.val (.int n), .val (.int c1), .val (.int c2), .val (.ref b1_), .val (.int (4 : Int32))] [(.int (3 : Int32)), (.int (4 : Int32))])
          refine own_viaH (fun _ k => XS.icmpYes X239_.here hx rfl (pc0 := 106) (pc' := 138) rfl (hb hby own_d_5_106) rfl (feq (by decide)).2 (by decide) (by decide) k) ?_
          show own_FinH _ _ _ _ _ _ _ _ _ T239_ (mkF m 138 #[.val (.int n), .val (.int c1), .val (.int c2), .val (.ref b1_), .val (.int (4 : Int32))] [])
          obtain ⟨T241_, h241_, X241_, e241_, E241_, A241_, D241_, -, st241_⟩ := newO X239_ hx hZ hown (hw _ (List.mem_of_getElem? (i := 12) rfl)) (hw _ (List.mem_of_getElem? (i := 13) rfl)) (hw _ (List.mem_of_getElem? (i := 14) rfl)) rfl (g := (mkF m 138 #[.val (.int n), .val (.int c1), .val (.int c2), .val (.ref b1_), .val (.int (4 : Int32))] [])) rfl (hb hby own_d_5_138) (by decide) (by decide)
          obtain ⟨b241_, g241_⟩ : ∃ z, z = T239_.heap.size := ⟨_, rfl⟩
          rw [← g241_] at A241_ D241_ st241_
          have F242_ : Fld Z h241_ b241_ "java/lang/String" "value" "[B" .null := D241_ (Or.inr (hw _ (List.mem_of_getElem? (i := 27) rfl))) (ty := (.array .byte)) (by decide)
          have F243_ : Fld Z h241_ b241_ "java/lang/String" "coder" "B" (.int (0 : Int32)) := D241_ (Or.inr (hw _ (List.mem_of_getElem? (i := 28) rfl))) (ty := .byte) (by decide)
          refine own_viaH (fun _ k => st241_ _ k) ?_
          show own_FinH _ _ _ _ _ _ _ _ _ T241_ (mkF m 141 #[.val (.int n), .val (.int c1), .val (.int c2), .val (.ref b1_), .val (.int (4 : Int32))] [(.ref b241_)])
          refine own_viaH (fun _ k => XS.dup X241_.here hx rfl (hb hby own_d_5_141) rfl rfl k) ?_
          show own_FinH _ _ _ _ _ _ _ _ _ T241_ (mkF m 142 #[.val (.int n), .val (.int c1), .val (.int c2), .val (.ref b1_), .val (.int (4 : Int32))] [(.ref b241_), (.ref b241_)])
          refine own_viaH (fun _ k => XS.aloadN X241_.here hx rfl (hb hby own_d_5_142) rfl rfl k) ?_
          show own_FinH _ _ _ _ _ _ _ _ _ T241_ (mkF m 143 #[.val (.int n), .val (.int c1), .val (.int c2), .val (.ref b1_), .val (.int (4 : Int32))] [(.ref b1_), (.ref b241_), (.ref b241_)])
          have f245_ := ((((O0.ext E1_).keep K145_ (allS g146_ all0)).keep K239_ (allS g146_ all0)).ext E241_)
          have g246_ : n0 ≤ b241_ := Nat.le_trans (Nat.le_trans Z0 (Nat.le_trans (Nat.le_trans E1_.1 K145_.1) K239_.1)) (Nat.le_of_eq g241_.symm)
          obtain ⟨_, _, ⟨T244_, L244_, k244_, n244_⟩, -, X244_, ⟨Lc244_, hQ244_, l244_, y244_, z244_⟩, st244_⟩ := X241_.specialBack hx (y := (⟨"java/lang/String", "<init>", "([C)V"⟩ : MethodName)) rfl hown (mvT hZ (hw _ (List.mem_of_getElem? (i := 15) rfl))) (mvT hZ (hw _ (List.mem_of_getElem? (i := 16) rfl))) (mvT hZ (hw _ (List.mem_of_getElem? (i := 17) rfl))) (by decide) (backOf (W := 1) (own_rm_sInitC l Z a0 hw [] b241_ cz .null (.int (0 : Int32)) b1_ k1_ (4 : Int32) [(own_hs c1), (own_ls c1), (own_hs c2), (own_ls c2)] h241_ n0 (Nat.le_trans Z0 (Nat.le_trans (Nat.le_trans (Nat.le_trans E1_.1 K145_.1) K239_.1) E241_.1)) f245_ S1 (by first | assumption | decide) S3 S4 S5 A241_ F242_ F243_ g246_ (r240_.ext E241_) rfl (by simp) (by simp) (own_ch4 (own_hs_chr hsc1) (own_ls_chr hsc1) (own_hs_chr hsc2) (own_ls_chr hsc2))) hZ (hw _ (List.mem_of_getElem? (i := 17) rfl)) (hw _ (List.mem_of_getElem? (i := 14) rfl)) (by decide) (by decide)) (g := (mkF m 143 #[.val (.int n), .val (.int c1), .val (.int c2), .val (.ref b1_), .val (.int (4 : Int32))] [(.ref b1_), (.ref b241_), (.ref b241_)])) rfl (by rw [hml]; rfl) (Steps.refl _) (a := b241_) (argsL := [(.ref b1_)]) (rest := [(.ref b241_)]) (lenOf own_pd21 rfl) rfl (by show 2 * 0 + _ ≤ _; exact Nat.le_of_eq rfl) (hb hby own_d_5_143) (fun _ _ => ⟨rfl, e241_, (by decide : 0 + 1 + 0 + 0 + 1 + 2 ≤ _), (by decide : 0 + 4 + 0 + 0 + 4 + 12 ≤ _)⟩)
          dsimp only [Pt.U, Pt.locs, Pt.cells, Pt.slots] at X244_ l244_ y244_ z244_ st244_ hQ244_
          subst l244_ y244_ z244_
          obtain ⟨t, kt, cd, N2, vs, rfl, Nq244_, K244_, r247_, r248_, r249_, r250_, r251_, hcod⟩ := hQ244_
          have N244_ := Fr.app N239_ Nq244_
          refine own_viaH (fun _ k => st244_.trans k) ?_
          show own_FinH _ _ _ _ _ _ _ _ _ T244_ (mkF m 146 #[.val (.int n), .val (.int c1), .val (.int c2), .val (.ref b1_), .val (.int (4 : Int32))] [(.ref b241_)])
          have C252_ := C0.trans (CHr.ext E1_ H0)
          have H252_ := C252_.1
          have sf254_ : Safe Z own_EL s.vm h0 b1_ := Safe.new (Nat.le_of_eq g1_.symm)
          have sf255_ : Safe Z own_EL s.vm h1_ b1_ := Safe.ext E1_ H0 sf254_
          have C253_ := C252_.trans (CHr.keep K145_ (sfS sf255_ sf0) H252_)
          have H253_ := C253_.1
          have sf257_ : Safe Z own_EL s.vm h1_ b1_ := Safe.ext E1_ H0 sf254_
          have sf258_ : Safe Z own_EL s.vm T145_.heap b1_ := Safe.keep K145_ (sfS sf257_ sf0) H252_ sf257_
          have C256_ := C253_.trans (CHr.keep K239_ (sfS sf258_ sf0) H253_)
          have H256_ := C256_.1
          have C259_ := C256_.trans (CHr.ext E241_ H256_)
          have H259_ := C259_.1
          have sf261_ : Safe Z own_EL s.vm T239_.heap b241_ := Safe.new (Nat.le_of_eq g241_.symm)
          have sf262_ : Safe Z own_EL s.vm h241_ b241_ := Safe.ext E241_ H256_ sf261_
          have C260_ := C259_.trans (CHr.keep K244_ (sfS sf262_ sf0) H259_)
          have H260_ := C260_.1
          exact own_retAH X244_ hx Bd.returns Bd.notSynchronized (own_ew hw) hZ hS0 (Nat.le_trans hk0 (Nat.le_trans (Nat.le_trans (Nat.le_trans (Nat.le_trans E1_.1 K145_.1) K239_.1) E241_.1) K244_.1)) hh C260_ rfl rfl (hb hby own_d_5_146) rfl ⟨b241_, t, kt, cd, N2, vs, rfl, N244_, ((((((Keep.refl h0 []).ext E1_).trans K145_ (allS (Or.inr (Nat.le_of_eq g1_.symm)) all0)).trans K239_ (allS (Or.inr (Nat.le_of_eq g1_.symm)) all0)).ext E241_).trans K244_ (allS (Or.inr (Nat.le_trans (Nat.le_trans (Nat.le_trans E1_.1 K145_.1) K239_.1) (Nat.le_of_eq g241_.symm))) all0)), (Nat.le_trans (Nat.le_trans (Nat.le_trans E1_.1 K145_.1) K239_.1) (Nat.le_of_eq g241_.symm)), r247_, r248_, r249_, r251_, (by rw [own_units2ss hA hB hsc1 hsc2]; exact hcod)⟩ (by decide) (by decide)
theorem own_d_8_0 : decode method_8_code 0 = .ok (.iload_n 0, 1) := by decide +kernel
theorem own_d_8_1 : decode method_8_code 1 = .ok (.iconst 1, 1) := by decide +kernel
theorem own_d_8_2 : decode method_8_code 2 = .ok (.if_icmp .lt 44, 3) := by decide +kernel
theorem own_d_8_46 : decode method_8_code 46 = .ok (.iload_n 0, 1) := by decide +kernel
theorem own_d_8_47 : decode method_8_code 47 = .ok (.iload_n 3, 1) := by decide +kernel
theorem own_d_8_48 : decode method_8_code 48 = .ok (.invokestatic 45, 3) := by decide +kernel
theorem own_d_8_51 : decode method_8_code 51 = .ok (.ireturn, 1) := by decide +kernel
theorem own_d_8_5 : decode method_8_code 5 = .ok (.iload_n 3, 1) := by decide +kernel
theorem own_d_8_6 : decode method_8_code 6 = .ok (.iconst 1, 1) := by decide +kernel
theorem own_d_8_7 : decode method_8_code 7 = .ok (.if_icmp .lt 39, 3) := by decide +kernel
theorem own_d_8_10 : decode method_8_code 10 = .ok (.iload_n 1, 1) := by decide +kernel
theorem own_d_8_11 : decode method_8_code 11 = .ok (.iload 4, 2) := by decide +kernel
theorem own_d_8_13 : decode method_8_code 13 = .ok (.if_icmp .eq 10, 3) := by decide +kernel
theorem own_d_8_16 : decode method_8_code 16 = .ok (.iload_n 1, 1) := by decide +kernel
theorem own_d_8_17 : decode method_8_code 17 = .ok (.iload 4, 2) := by decide +kernel
theorem own_d_8_19 : decode method_8_code 19 = .ok (.invokestatic 45, 3) := by decide +kernel
theorem own_d_8_22 : decode method_8_code 22 = .ok (.ireturn, 1) := by decide +kernel
theorem own_d_8_23 : decode method_8_code 23 = .ok (.iload_n 0, 1) := by decide +kernel
theorem own_d_8_24 : decode method_8_code 24 = .ok (.iconst 2, 1) := by decide +kernel
theorem own_d_8_25 : decode method_8_code 25 = .ok (.if_icmp .lt 21, 3) := by decide +kernel
theorem own_d_8_28 : decode method_8_code 28 = .ok (.iload_n 3, 1) := by decide +kernel
theorem own_d_8_29 : decode method_8_code 29 = .ok (.iconst 2, 1) := by decide +kernel
theorem own_d_8_30 : decode method_8_code 30 = .ok (.if_icmp .lt 16, 3) := by decide +kernel
theorem own_d_8_33 : decode method_8_code 33 = .ok (.iload_n 2, 1) := by decide +kernel
theorem own_d_8_34 : decode method_8_code 34 = .ok (.iload 5, 2) := by decide +kernel
theorem own_d_8_36 : decode method_8_code 36 = .ok (.if_icmp .eq 10, 3) := by decide +kernel
theorem own_d_8_39 : decode method_8_code 39 = .ok (.iload_n 2, 1) := by decide +kernel
theorem own_d_8_40 : decode method_8_code 40 = .ok (.iload 5, 2) := by decide +kernel
theorem own_d_8_42 : decode method_8_code 42 = .ok (.invokestatic 45, 3) := by decide +kernel
theorem own_d_8_45 : decode method_8_code 45 = .ok (.ireturn, 1) := by decide +kernel
theorem own_ef_ref (m : MethodId) (n : Int32) (x1 : Int32) (x2 : Int32) (k : Int32) (y1 : Int32) (y2 : Int32) : entryFrame m #[(.int n), (.int x1), (.int x2), (.int k), (.int y1), (.int y2)] 6 = mkF m 0 #[.val (.int n), .val (.int x1), .val (.int x2), .val (.int k), .val (.int y1), .val (.int y2)] [] := by (first | (simp [entryFrame, mkF, argsToLocals, Value.category]; done) | rfl)
def own_Q_ref (Z : State) (n : Int32) (x1 : Int32) (x2 : Int32) (k : Int32) (y1 : Int32) (y2 : Int32) (h0 : Heap) (n0 : Nat) (vq : Option Value) (h : Heap) (Lq : List Loc) : Prop := ∃ (r : Int32), (vq = some (.int r)) ∧ (Fr n0 Lq) ∧ (h = h0) ∧ (own_ref n x1 x2 k y1 y2 r)
set_option maxRecDepth 65536 in
set_option maxHeartbeats 40000000 in
theorem own_rm_ref (l : Launch) (Z : State) (a0 : Array Value) (hw : ∀ d ∈ tables_1, d.before a0 Z = true) (wsq : List Jvm.Cond) (n : Int32) (x1 : Int32) (x2 : Int32) (k : Int32) (y1 : Int32) (y2 : Int32) (h0 : Heap) (n0 : Nat) (Z0 : n0 ≤ h0.size) :
    MetFree l (⟨"com/example/co_occurrence_ranking/cooccurrenceranking/io/LineReaderCompareFieldsPinLaw", "ref", "(IIIIII)I"⟩ : MethodName) (head1 (Jvm.Cond.code (⟨"com/example/co_occurrence_ranking/cooccurrenceranking/io/LineReaderCompareFieldsPinLaw", "ref", "(IIIIII)I"⟩ : MethodName) method_8_code 6 (some .int) :: wsq) ({ frames := 1, cells := 0, slots := 0, locals := 13 } : Room)) (fun aq Uq => aq = #[(.int n), (.int x1), (.int x2), (.int k), (.int y1), (.int y2)] ∧ Z.Warmed39 Uq.vm ∧ Uq.heap = h0) (fun _ _ _ _ _ => True) (fun _ Uq oq Uq' => ∃ vq Lq, oq = .returned vq ∧ own_Q_ref Z n x1 x2 k y1 y2 h0 n0 vq Uq'.heap Lq ∧ FrameEnd Uq oq Uq' Lq ({ frames := 1, cells := 0, slots := 0, locals := 13 } : Room).cells ({ frames := 1, cells := 0, slots := 0, locals := 13 } : Room).slots) := by
  refine MetFree.of_bodySF (plainFor_of_name own_pn6) hisR ?_
  intro p e s m args below meth cde s₁ Bd hml0 hP hK
  obtain ⟨rfl, hZ, hh⟩ := hP
  have hx := Bd.exec
  have hby := Bd.bytes
  have hml : cde.maxLocals = 6 := hml0
  have hown : s.vm.findClass "com/example/co_occurrence_ranking/cooccurrenceranking/io/LineReaderCompareFieldsPinLaw" = some m.cls := findClass_of_methodNamed Bd.named
  have hnm := (name_of_methodNamed Bd.named Bd.method).1
  have X0 : Stand p l e ({ frames := 1, cells := 0, slots := 0, locals := 13 } : Room) s m #[(.int n), (.int x1), (.int x2), (.int k), (.int y1), (.int y2)] below meth cde s₁ [] 0 0 := Stand.of_body Bd
  have e0 : s₁.heap = h0 := by rw [← hh, Bd.state]; rfl
  have N0 := Fr.nil n0
  show own_Fin p e s below (own_Q_ref Z n x1 x2 k y1 y2 h0 n0) ({ frames := 1, cells := 0, slots := 0, locals := 13 } : Room).cells ({ frames := 1, cells := 0, slots := 0, locals := 13 } : Room).slots s₁ (entryFrame m #[(.int n), (.int x1), (.int x2), (.int k), (.int y1), (.int y2)] 6)
  rw [own_ef_ref m n x1 x2 k y1 y2]
  refine own_via (fun _ k => XS.iloadN X0.here hx rfl (hb hby own_d_8_0) rfl k) ?_
  show own_Fin _ _ _ _ _ _ _ s₁ (mkF m 1 #[.val (.int n), .val (.int x1), .val (.int x2), .val (.int k), .val (.int y1), .val (.int y2)] [(.int n)])
  refine own_via (fun _ k => XS.iconst X0.here hx rfl (hb hby own_d_8_1) k) ?_
  show own_Fin _ _ _ _ _ _ _ s₁ (mkF m 2 #[.val (.int n), .val (.int x1), .val (.int x2), .val (.int k), .val (.int y1), .val (.int y2)] [(.int (1 : Int32)), (.int n)])
  rcases Classical.em (n < (1 : Int32)) with h1 | h1
  · refine own_via (fun _ k => XS.icmpYes X0.here hx rfl (pc0 := 2) (pc' := 46) rfl (hb hby own_d_8_2) rfl (tlt h1).1 (by decide) (by decide) k) ?_
    show own_Fin _ _ _ _ _ _ _ s₁ (mkF m 46 #[.val (.int n), .val (.int x1), .val (.int x2), .val (.int k), .val (.int y1), .val (.int y2)] [])
    refine own_via (fun _ k => XS.iloadN X0.here hx rfl (hb hby own_d_8_46) rfl k) ?_
    show own_Fin _ _ _ _ _ _ _ s₁ (mkF m 47 #[.val (.int n), .val (.int x1), .val (.int x2), .val (.int k), .val (.int y1), .val (.int y2)] [(.int n)])
    refine own_via (fun _ k => XS.iloadN X0.here hx rfl (hb hby own_d_8_47) rfl k) ?_
    show own_Fin _ _ _ _ _ _ _ s₁ (mkF m 48 #[.val (.int n), .val (.int x1), .val (.int x2), .val (.int k), .val (.int y1), .val (.int y2)] [(.int k), (.int n)])
    obtain ⟨_, _, ⟨T1_, L1_, k1_, n1_⟩, -, X1_, ⟨Lc1_, hQ1_, l1_, y1_, z1_⟩, st1_⟩ := Jvm.LawKit.callS X0 hx (y := (⟨"com/example/co_occurrence_ranking/cooccurrenceranking/io/LineReaderCompareFieldsPinLaw", "cmp", "(II)I"⟩ : MethodName)) hown (mvT hZ (hw _ (List.mem_of_getElem? (i := 36) rfl))) (mvT hZ (hw _ (List.mem_of_getElem? (i := 37) rfl))) (mvT hZ (hw _ (List.mem_of_getElem? (i := 2) rfl))) (mvT hZ (hw _ (List.mem_of_getElem? (i := 38) rfl))) (by decide) (backOf (W := 0) (own_rm_cmpL l Z a0 hw [] n k h0 n0 Z0 ) hZ (hw _ (List.mem_of_getElem? (i := 38) rfl)) (hw _ (List.mem_of_getElem? (i := 2) rfl)) (by decide) (by decide)) (g := (mkF m 48 #[.val (.int n), .val (.int x1), .val (.int x2), .val (.int k), .val (.int y1), .val (.int y2)] [(.int k), (.int n)])) rfl (by rw [hml]; rfl) (argsL := [(.int n), (.int k)]) (rest := []) (lenOf own_pd19 rfl) rfl (by show 2 * 0 + _ ≤ _; exact Nat.le_of_eq rfl) (hb hby own_d_8_48) (fun _ _ => ⟨rfl, e0, (by decide : 0 + 0 ≤ _), (by decide : 0 + 0 ≤ _)⟩)
    dsimp only [Pt.U, Pt.locs, Pt.cells, Pt.slots] at X1_ l1_ y1_ z1_ st1_ hQ1_
    subst l1_ y1_ z1_
    obtain ⟨rc, rfl, Nq1_, hh1_, hqc⟩ := hQ1_
    have N1_ := Fr.app N0 Nq1_
    refine own_via (fun _ k => st1_ _ k) ?_
    show own_Fin _ _ _ _ _ _ _ T1_ (mkF m 51 #[.val (.int n), .val (.int x1), .val (.int x2), .val (.int k), .val (.int y1), .val (.int y2)] [(.int rc)])
    exact own_retI X1_ hx Bd.returns Bd.notSynchronized (hb hby own_d_8_51) hh1_ rfl ⟨rc, rfl, N1_, rfl, (Or.inl ⟨Or.inl h1, hqc⟩)⟩ (by decide) (by decide)
  · refine own_via (fun _ k => XS.icmpNo X0.here hx rfl (hb hby own_d_8_2) rfl (flt h1).1 k) ?_
    show own_Fin _ _ _ _ _ _ _ s₁ (mkF m 5 #[.val (.int n), .val (.int x1), .val (.int x2), .val (.int k), .val (.int y1), .val (.int y2)] [])
    refine own_via (fun _ k => XS.iloadN X0.here hx rfl (hb hby own_d_8_5) rfl k) ?_
    show own_Fin _ _ _ _ _ _ _ s₁ (mkF m 6 #[.val (.int n), .val (.int x1), .val (.int x2), .val (.int k), .val (.int y1), .val (.int y2)] [(.int k)])
    refine own_via (fun _ k => XS.iconst X0.here hx rfl (hb hby own_d_8_6) k) ?_
    show own_Fin _ _ _ _ _ _ _ s₁ (mkF m 7 #[.val (.int n), .val (.int x1), .val (.int x2), .val (.int k), .val (.int y1), .val (.int y2)] [(.int (1 : Int32)), (.int k)])
    rcases Classical.em (k < (1 : Int32)) with h2 | h2
    · refine own_via (fun _ k => XS.icmpYes X0.here hx rfl (pc0 := 7) (pc' := 46) rfl (hb hby own_d_8_7) rfl (tlt h2).1 (by decide) (by decide) k) ?_
      show own_Fin _ _ _ _ _ _ _ s₁ (mkF m 46 #[.val (.int n), .val (.int x1), .val (.int x2), .val (.int k), .val (.int y1), .val (.int y2)] [])
      refine own_via (fun _ k => XS.iloadN X0.here hx rfl (hb hby own_d_8_46) rfl k) ?_
      show own_Fin _ _ _ _ _ _ _ s₁ (mkF m 47 #[.val (.int n), .val (.int x1), .val (.int x2), .val (.int k), .val (.int y1), .val (.int y2)] [(.int n)])
      refine own_via (fun _ k => XS.iloadN X0.here hx rfl (hb hby own_d_8_47) rfl k) ?_
      show own_Fin _ _ _ _ _ _ _ s₁ (mkF m 48 #[.val (.int n), .val (.int x1), .val (.int x2), .val (.int k), .val (.int y1), .val (.int y2)] [(.int k), (.int n)])
      obtain ⟨_, _, ⟨T2_, L2_, k2_, n2_⟩, -, X2_, ⟨Lc2_, hQ2_, l2_, y2_, z2_⟩, st2_⟩ := Jvm.LawKit.callS X0 hx (y := (⟨"com/example/co_occurrence_ranking/cooccurrenceranking/io/LineReaderCompareFieldsPinLaw", "cmp", "(II)I"⟩ : MethodName)) hown (mvT hZ (hw _ (List.mem_of_getElem? (i := 36) rfl))) (mvT hZ (hw _ (List.mem_of_getElem? (i := 37) rfl))) (mvT hZ (hw _ (List.mem_of_getElem? (i := 2) rfl))) (mvT hZ (hw _ (List.mem_of_getElem? (i := 38) rfl))) (by decide) (backOf (W := 0) (own_rm_cmpL l Z a0 hw [] n k h0 n0 Z0 ) hZ (hw _ (List.mem_of_getElem? (i := 38) rfl)) (hw _ (List.mem_of_getElem? (i := 2) rfl)) (by decide) (by decide)) (g := (mkF m 48 #[.val (.int n), .val (.int x1), .val (.int x2), .val (.int k), .val (.int y1), .val (.int y2)] [(.int k), (.int n)])) rfl (by rw [hml]; rfl) (argsL := [(.int n), (.int k)]) (rest := []) (lenOf own_pd19 rfl) rfl (by show 2 * 0 + _ ≤ _; exact Nat.le_of_eq rfl) (hb hby own_d_8_48) (fun _ _ => ⟨rfl, e0, (by decide : 0 + 0 ≤ _), (by decide : 0 + 0 ≤ _)⟩)
      dsimp only [Pt.U, Pt.locs, Pt.cells, Pt.slots] at X2_ l2_ y2_ z2_ st2_ hQ2_
      subst l2_ y2_ z2_
      obtain ⟨rc, rfl, Nq2_, hh2_, hqc⟩ := hQ2_
      have N2_ := Fr.app N0 Nq2_
      refine own_via (fun _ k => st2_ _ k) ?_
      show own_Fin _ _ _ _ _ _ _ T2_ (mkF m 51 #[.val (.int n), .val (.int x1), .val (.int x2), .val (.int k), .val (.int y1), .val (.int y2)] [(.int rc)])
      exact own_retI X2_ hx Bd.returns Bd.notSynchronized (hb hby own_d_8_51) hh2_ rfl ⟨rc, rfl, N2_, rfl, (Or.inl ⟨Or.inr h2, hqc⟩)⟩ (by decide) (by decide)
    · refine own_via (fun _ k => XS.icmpNo X0.here hx rfl (hb hby own_d_8_7) rfl (flt h2).1 k) ?_
      show own_Fin _ _ _ _ _ _ _ s₁ (mkF m 10 #[.val (.int n), .val (.int x1), .val (.int x2), .val (.int k), .val (.int y1), .val (.int y2)] [])
      refine own_via (fun _ k => XS.iloadN X0.here hx rfl (hb hby own_d_8_10) rfl k) ?_
      show own_Fin _ _ _ _ _ _ _ s₁ (mkF m 11 #[.val (.int n), .val (.int x1), .val (.int x2), .val (.int k), .val (.int y1), .val (.int y2)] [(.int x1)])
      refine own_via (fun _ k => XS.iload X0.here hx rfl (hb hby own_d_8_11) rfl k) ?_
      show own_Fin _ _ _ _ _ _ _ s₁ (mkF m 13 #[.val (.int n), .val (.int x1), .val (.int x2), .val (.int k), .val (.int y1), .val (.int y2)] [(.int y1), (.int x1)])
      rcases Classical.em (x1 = y1) with h3 | h3
      · refine own_via (fun _ k => XS.icmpYes X0.here hx rfl (pc0 := 13) (pc' := 23) rfl (hb hby own_d_8_13) rfl (teq h3).1 (by decide) (by decide) k) ?_
        show own_Fin _ _ _ _ _ _ _ s₁ (mkF m 23 #[.val (.int n), .val (.int x1), .val (.int x2), .val (.int k), .val (.int y1), .val (.int y2)] [])
        refine own_via (fun _ k => XS.iloadN X0.here hx rfl (hb hby own_d_8_23) rfl k) ?_
        show own_Fin _ _ _ _ _ _ _ s₁ (mkF m 24 #[.val (.int n), .val (.int x1), .val (.int x2), .val (.int k), .val (.int y1), .val (.int y2)] [(.int n)])
        refine own_via (fun _ k => XS.iconst X0.here hx rfl (hb hby own_d_8_24) k) ?_
        show own_Fin _ _ _ _ _ _ _ s₁ (mkF m 25 #[.val (.int n), .val (.int x1), .val (.int x2), .val (.int k), .val (.int y1), .val (.int y2)] [(.int (2 : Int32)), (.int n)])
        rcases Classical.em (n < (2 : Int32)) with h4 | h4
        · refine own_via (fun _ k => XS.icmpYes X0.here hx rfl (pc0 := 25) (pc' := 46) rfl (hb hby own_d_8_25) rfl (tlt h4).1 (by decide) (by decide) k) ?_
          show own_Fin _ _ _ _ _ _ _ s₁ (mkF m 46 #[.val (.int n), .val (.int x1), .val (.int x2), .val (.int k), .val (.int y1), .val (.int y2)] [])
          refine own_via (fun _ k => XS.iloadN X0.here hx rfl (hb hby own_d_8_46) rfl k) ?_
          show own_Fin _ _ _ _ _ _ _ s₁ (mkF m 47 #[.val (.int n), .val (.int x1), .val (.int x2), .val (.int k), .val (.int y1), .val (.int y2)] [(.int n)])
          refine own_via (fun _ k => XS.iloadN X0.here hx rfl (hb hby own_d_8_47) rfl k) ?_
          show own_Fin _ _ _ _ _ _ _ s₁ (mkF m 48 #[.val (.int n), .val (.int x1), .val (.int x2), .val (.int k), .val (.int y1), .val (.int y2)] [(.int k), (.int n)])
          obtain ⟨_, _, ⟨T4_, L4_, k4_, n4_⟩, -, X4_, ⟨Lc4_, hQ4_, l4_, y4_, z4_⟩, st4_⟩ := Jvm.LawKit.callS X0 hx (y := (⟨"com/example/co_occurrence_ranking/cooccurrenceranking/io/LineReaderCompareFieldsPinLaw", "cmp", "(II)I"⟩ : MethodName)) hown (mvT hZ (hw _ (List.mem_of_getElem? (i := 36) rfl))) (mvT hZ (hw _ (List.mem_of_getElem? (i := 37) rfl))) (mvT hZ (hw _ (List.mem_of_getElem? (i := 2) rfl))) (mvT hZ (hw _ (List.mem_of_getElem? (i := 38) rfl))) (by decide) (backOf (W := 0) (own_rm_cmpL l Z a0 hw [] n k h0 n0 Z0 ) hZ (hw _ (List.mem_of_getElem? (i := 38) rfl)) (hw _ (List.mem_of_getElem? (i := 2) rfl)) (by decide) (by decide)) (g := (mkF m 48 #[.val (.int n), .val (.int x1), .val (.int x2), .val (.int k), .val (.int y1), .val (.int y2)] [(.int k), (.int n)])) rfl (by rw [hml]; rfl) (argsL := [(.int n), (.int k)]) (rest := []) (lenOf own_pd19 rfl) rfl (by show 2 * 0 + _ ≤ _; exact Nat.le_of_eq rfl) (hb hby own_d_8_48) (fun _ _ => ⟨rfl, e0, (by decide : 0 + 0 ≤ _), (by decide : 0 + 0 ≤ _)⟩)
          dsimp only [Pt.U, Pt.locs, Pt.cells, Pt.slots] at X4_ l4_ y4_ z4_ st4_ hQ4_
          subst l4_ y4_ z4_
          obtain ⟨rc, rfl, Nq4_, hh4_, hqc⟩ := hQ4_
          have N4_ := Fr.app N0 Nq4_
          refine own_via (fun _ k => st4_ _ k) ?_
          show own_Fin _ _ _ _ _ _ _ T4_ (mkF m 51 #[.val (.int n), .val (.int x1), .val (.int x2), .val (.int k), .val (.int y1), .val (.int y2)] [(.int rc)])
          exact own_retI X4_ hx Bd.returns Bd.notSynchronized (hb hby own_d_8_51) hh4_ rfl ⟨rc, rfl, N4_, rfl, (Or.inr (Or.inr (Or.inl ⟨h1, h2, h3, Or.inl h4, hqc⟩)))⟩ (by decide) (by decide)
        · refine own_via (fun _ k => XS.icmpNo X0.here hx rfl (hb hby own_d_8_25) rfl (flt h4).1 k) ?_
          show own_Fin _ _ _ _ _ _ _ s₁ (mkF m 28 #[.val (.int n), .val (.int x1), .val (.int x2), .val (.int k), .val (.int y1), .val (.int y2)] [])
          refine own_via (fun _ k => XS.iloadN X0.here hx rfl (hb hby own_d_8_28) rfl k) ?_
          show own_Fin _ _ _ _ _ _ _ s₁ (mkF m 29 #[.val (.int n), .val (.int x1), .val (.int x2), .val (.int k), .val (.int y1), .val (.int y2)] [(.int k)])
          refine own_via (fun _ k => XS.iconst X0.here hx rfl (hb hby own_d_8_29) k) ?_
          show own_Fin _ _ _ _ _ _ _ s₁ (mkF m 30 #[.val (.int n), .val (.int x1), .val (.int x2), .val (.int k), .val (.int y1), .val (.int y2)] [(.int (2 : Int32)), (.int k)])
          rcases Classical.em (k < (2 : Int32)) with h5 | h5
          · refine own_via (fun _ k => XS.icmpYes X0.here hx rfl (pc0 := 30) (pc' := 46) rfl (hb hby own_d_8_30) rfl (tlt h5).1 (by decide) (by decide) k) ?_
            show own_Fin _ _ _ _ _ _ _ s₁ (mkF m 46 #[.val (.int n), .val (.int x1), .val (.int x2), .val (.int k), .val (.int y1), .val (.int y2)] [])
            refine own_via (fun _ k => XS.iloadN X0.here hx rfl (hb hby own_d_8_46) rfl k) ?_
            show own_Fin _ _ _ _ _ _ _ s₁ (mkF m 47 #[.val (.int n), .val (.int x1), .val (.int x2), .val (.int k), .val (.int y1), .val (.int y2)] [(.int n)])
            refine own_via (fun _ k => XS.iloadN X0.here hx rfl (hb hby own_d_8_47) rfl k) ?_
            show own_Fin _ _ _ _ _ _ _ s₁ (mkF m 48 #[.val (.int n), .val (.int x1), .val (.int x2), .val (.int k), .val (.int y1), .val (.int y2)] [(.int k), (.int n)])
            obtain ⟨_, _, ⟨T5_, L5_, k5_, n5_⟩, -, X5_, ⟨Lc5_, hQ5_, l5_, y5_, z5_⟩, st5_⟩ := Jvm.LawKit.callS X0 hx (y := (⟨"com/example/co_occurrence_ranking/cooccurrenceranking/io/LineReaderCompareFieldsPinLaw", "cmp", "(II)I"⟩ : MethodName)) hown (mvT hZ (hw _ (List.mem_of_getElem? (i := 36) rfl))) (mvT hZ (hw _ (List.mem_of_getElem? (i := 37) rfl))) (mvT hZ (hw _ (List.mem_of_getElem? (i := 2) rfl))) (mvT hZ (hw _ (List.mem_of_getElem? (i := 38) rfl))) (by decide) (backOf (W := 0) (own_rm_cmpL l Z a0 hw [] n k h0 n0 Z0 ) hZ (hw _ (List.mem_of_getElem? (i := 38) rfl)) (hw _ (List.mem_of_getElem? (i := 2) rfl)) (by decide) (by decide)) (g := (mkF m 48 #[.val (.int n), .val (.int x1), .val (.int x2), .val (.int k), .val (.int y1), .val (.int y2)] [(.int k), (.int n)])) rfl (by rw [hml]; rfl) (argsL := [(.int n), (.int k)]) (rest := []) (lenOf own_pd19 rfl) rfl (by show 2 * 0 + _ ≤ _; exact Nat.le_of_eq rfl) (hb hby own_d_8_48) (fun _ _ => ⟨rfl, e0, (by decide : 0 + 0 ≤ _), (by decide : 0 + 0 ≤ _)⟩)
            dsimp only [Pt.U, Pt.locs, Pt.cells, Pt.slots] at X5_ l5_ y5_ z5_ st5_ hQ5_
            subst l5_ y5_ z5_
            obtain ⟨rc, rfl, Nq5_, hh5_, hqc⟩ := hQ5_
            have N5_ := Fr.app N0 Nq5_
            refine own_via (fun _ k => st5_ _ k) ?_
            show own_Fin _ _ _ _ _ _ _ T5_ (mkF m 51 #[.val (.int n), .val (.int x1), .val (.int x2), .val (.int k), .val (.int y1), .val (.int y2)] [(.int rc)])
            exact own_retI X5_ hx Bd.returns Bd.notSynchronized (hb hby own_d_8_51) hh5_ rfl ⟨rc, rfl, N5_, rfl, (Or.inr (Or.inr (Or.inl ⟨h1, h2, h3, Or.inr (Or.inl h5), hqc⟩)))⟩ (by decide) (by decide)
          · refine own_via (fun _ k => XS.icmpNo X0.here hx rfl (hb hby own_d_8_30) rfl (flt h5).1 k) ?_
            show own_Fin _ _ _ _ _ _ _ s₁ (mkF m 33 #[.val (.int n), .val (.int x1), .val (.int x2), .val (.int k), .val (.int y1), .val (.int y2)] [])
            refine own_via (fun _ k => XS.iloadN X0.here hx rfl (hb hby own_d_8_33) rfl k) ?_
            show own_Fin _ _ _ _ _ _ _ s₁ (mkF m 34 #[.val (.int n), .val (.int x1), .val (.int x2), .val (.int k), .val (.int y1), .val (.int y2)] [(.int x2)])
            refine own_via (fun _ k => XS.iload X0.here hx rfl (hb hby own_d_8_34) rfl k) ?_
            show own_Fin _ _ _ _ _ _ _ s₁ (mkF m 36 #[.val (.int n), .val (.int x1), .val (.int x2), .val (.int k), .val (.int y1), .val (.int y2)] [(.int y2), (.int x2)])
            rcases Classical.em (x2 = y2) with h6 | h6
            · refine own_via (fun _ k => XS.icmpYes X0.here hx rfl (pc0 := 36) (pc' := 46) rfl (hb hby own_d_8_36) rfl (teq h6).1 (by decide) (by decide) k) ?_
              show own_Fin _ _ _ _ _ _ _ s₁ (mkF m 46 #[.val (.int n), .val (.int x1), .val (.int x2), .val (.int k), .val (.int y1), .val (.int y2)] [])
              refine own_via (fun _ k => XS.iloadN X0.here hx rfl (hb hby own_d_8_46) rfl k) ?_
              show own_Fin _ _ _ _ _ _ _ s₁ (mkF m 47 #[.val (.int n), .val (.int x1), .val (.int x2), .val (.int k), .val (.int y1), .val (.int y2)] [(.int n)])
              refine own_via (fun _ k => XS.iloadN X0.here hx rfl (hb hby own_d_8_47) rfl k) ?_
              show own_Fin _ _ _ _ _ _ _ s₁ (mkF m 48 #[.val (.int n), .val (.int x1), .val (.int x2), .val (.int k), .val (.int y1), .val (.int y2)] [(.int k), (.int n)])
              obtain ⟨_, _, ⟨T6_, L6_, k6_, n6_⟩, -, X6_, ⟨Lc6_, hQ6_, l6_, y6_, z6_⟩, st6_⟩ := Jvm.LawKit.callS X0 hx (y := (⟨"com/example/co_occurrence_ranking/cooccurrenceranking/io/LineReaderCompareFieldsPinLaw", "cmp", "(II)I"⟩ : MethodName)) hown (mvT hZ (hw _ (List.mem_of_getElem? (i := 36) rfl))) (mvT hZ (hw _ (List.mem_of_getElem? (i := 37) rfl))) (mvT hZ (hw _ (List.mem_of_getElem? (i := 2) rfl))) (mvT hZ (hw _ (List.mem_of_getElem? (i := 38) rfl))) (by decide) (backOf (W := 0) (own_rm_cmpL l Z a0 hw [] n k h0 n0 Z0 ) hZ (hw _ (List.mem_of_getElem? (i := 38) rfl)) (hw _ (List.mem_of_getElem? (i := 2) rfl)) (by decide) (by decide)) (g := (mkF m 48 #[.val (.int n), .val (.int x1), .val (.int x2), .val (.int k), .val (.int y1), .val (.int y2)] [(.int k), (.int n)])) rfl (by rw [hml]; rfl) (argsL := [(.int n), (.int k)]) (rest := []) (lenOf own_pd19 rfl) rfl (by show 2 * 0 + _ ≤ _; exact Nat.le_of_eq rfl) (hb hby own_d_8_48) (fun _ _ => ⟨rfl, e0, (by decide : 0 + 0 ≤ _), (by decide : 0 + 0 ≤ _)⟩)
              dsimp only [Pt.U, Pt.locs, Pt.cells, Pt.slots] at X6_ l6_ y6_ z6_ st6_ hQ6_
              subst l6_ y6_ z6_
              obtain ⟨rc, rfl, Nq6_, hh6_, hqc⟩ := hQ6_
              have N6_ := Fr.app N0 Nq6_
              refine own_via (fun _ k => st6_ _ k) ?_
              show own_Fin _ _ _ _ _ _ _ T6_ (mkF m 51 #[.val (.int n), .val (.int x1), .val (.int x2), .val (.int k), .val (.int y1), .val (.int y2)] [(.int rc)])
              exact own_retI X6_ hx Bd.returns Bd.notSynchronized (hb hby own_d_8_51) hh6_ rfl ⟨rc, rfl, N6_, rfl, (Or.inr (Or.inr (Or.inl ⟨h1, h2, h3, Or.inr (Or.inr h6), hqc⟩)))⟩ (by decide) (by decide)
            · refine own_via (fun _ k => XS.icmpNo X0.here hx rfl (hb hby own_d_8_36) rfl (feq h6).1 k) ?_
              show own_Fin _ _ _ _ _ _ _ s₁ (mkF m 39 #[.val (.int n), .val (.int x1), .val (.int x2), .val (.int k), .val (.int y1), .val (.int y2)] [])
              refine own_via (fun _ k => XS.iloadN X0.here hx rfl (hb hby own_d_8_39) rfl k) ?_
              show own_Fin _ _ _ _ _ _ _ s₁ (mkF m 40 #[.val (.int n), .val (.int x1), .val (.int x2), .val (.int k), .val (.int y1), .val (.int y2)] [(.int x2)])
              refine own_via (fun _ k => XS.iload X0.here hx rfl (hb hby own_d_8_40) rfl k) ?_
              show own_Fin _ _ _ _ _ _ _ s₁ (mkF m 42 #[.val (.int n), .val (.int x1), .val (.int x2), .val (.int k), .val (.int y1), .val (.int y2)] [(.int y2), (.int x2)])
              obtain ⟨_, _, ⟨T7_, L7_, k7_, n7_⟩, -, X7_, ⟨Lc7_, hQ7_, l7_, y7_, z7_⟩, st7_⟩ := Jvm.LawKit.callS X0 hx (y := (⟨"com/example/co_occurrence_ranking/cooccurrenceranking/io/LineReaderCompareFieldsPinLaw", "cmp", "(II)I"⟩ : MethodName)) hown (mvT hZ (hw _ (List.mem_of_getElem? (i := 36) rfl))) (mvT hZ (hw _ (List.mem_of_getElem? (i := 37) rfl))) (mvT hZ (hw _ (List.mem_of_getElem? (i := 2) rfl))) (mvT hZ (hw _ (List.mem_of_getElem? (i := 38) rfl))) (by decide) (backOf (W := 0) (own_rm_cmpL l Z a0 hw [] x2 y2 h0 n0 Z0 ) hZ (hw _ (List.mem_of_getElem? (i := 38) rfl)) (hw _ (List.mem_of_getElem? (i := 2) rfl)) (by decide) (by decide)) (g := (mkF m 42 #[.val (.int n), .val (.int x1), .val (.int x2), .val (.int k), .val (.int y1), .val (.int y2)] [(.int y2), (.int x2)])) rfl (by rw [hml]; rfl) (argsL := [(.int x2), (.int y2)]) (rest := []) (lenOf own_pd19 rfl) rfl (by show 2 * 0 + _ ≤ _; exact Nat.le_of_eq rfl) (hb hby own_d_8_42) (fun _ _ => ⟨rfl, e0, (by decide : 0 + 0 ≤ _), (by decide : 0 + 0 ≤ _)⟩)
              dsimp only [Pt.U, Pt.locs, Pt.cells, Pt.slots] at X7_ l7_ y7_ z7_ st7_ hQ7_
              subst l7_ y7_ z7_
              obtain ⟨rc, rfl, Nq7_, hh7_, hqc⟩ := hQ7_
              have N7_ := Fr.app N0 Nq7_
              refine own_via (fun _ k => st7_ _ k) ?_
              show own_Fin _ _ _ _ _ _ _ T7_ (mkF m 45 #[.val (.int n), .val (.int x1), .val (.int x2), .val (.int k), .val (.int y1), .val (.int y2)] [(.int rc)])
              exact own_retI X7_ hx Bd.returns Bd.notSynchronized (hb hby own_d_8_45) hh7_ rfl ⟨rc, rfl, N7_, rfl, (Or.inr (Or.inr (Or.inr ⟨h4, h5, h3, h6, hqc⟩)))⟩ (by decide) (by decide)
      · refine own_via (fun _ k => XS.icmpNo X0.here hx rfl (hb hby own_d_8_13) rfl (feq h3).1 k) ?_
        show own_Fin _ _ _ _ _ _ _ s₁ (mkF m 16 #[.val (.int n), .val (.int x1), .val (.int x2), .val (.int k), .val (.int y1), .val (.int y2)] [])
        refine own_via (fun _ k => XS.iloadN X0.here hx rfl (hb hby own_d_8_16) rfl k) ?_
        show own_Fin _ _ _ _ _ _ _ s₁ (mkF m 17 #[.val (.int n), .val (.int x1), .val (.int x2), .val (.int k), .val (.int y1), .val (.int y2)] [(.int x1)])
        refine own_via (fun _ k => XS.iload X0.here hx rfl (hb hby own_d_8_17) rfl k) ?_
        show own_Fin _ _ _ _ _ _ _ s₁ (mkF m 19 #[.val (.int n), .val (.int x1), .val (.int x2), .val (.int k), .val (.int y1), .val (.int y2)] [(.int y1), (.int x1)])
        obtain ⟨_, _, ⟨T3_, L3_, k3_, n3_⟩, -, X3_, ⟨Lc3_, hQ3_, l3_, y3_, z3_⟩, st3_⟩ := Jvm.LawKit.callS X0 hx (y := (⟨"com/example/co_occurrence_ranking/cooccurrenceranking/io/LineReaderCompareFieldsPinLaw", "cmp", "(II)I"⟩ : MethodName)) hown (mvT hZ (hw _ (List.mem_of_getElem? (i := 36) rfl))) (mvT hZ (hw _ (List.mem_of_getElem? (i := 37) rfl))) (mvT hZ (hw _ (List.mem_of_getElem? (i := 2) rfl))) (mvT hZ (hw _ (List.mem_of_getElem? (i := 38) rfl))) (by decide) (backOf (W := 0) (own_rm_cmpL l Z a0 hw [] x1 y1 h0 n0 Z0 ) hZ (hw _ (List.mem_of_getElem? (i := 38) rfl)) (hw _ (List.mem_of_getElem? (i := 2) rfl)) (by decide) (by decide)) (g := (mkF m 19 #[.val (.int n), .val (.int x1), .val (.int x2), .val (.int k), .val (.int y1), .val (.int y2)] [(.int y1), (.int x1)])) rfl (by rw [hml]; rfl) (argsL := [(.int x1), (.int y1)]) (rest := []) (lenOf own_pd19 rfl) rfl (by show 2 * 0 + _ ≤ _; exact Nat.le_of_eq rfl) (hb hby own_d_8_19) (fun _ _ => ⟨rfl, e0, (by decide : 0 + 0 ≤ _), (by decide : 0 + 0 ≤ _)⟩)
        dsimp only [Pt.U, Pt.locs, Pt.cells, Pt.slots] at X3_ l3_ y3_ z3_ st3_ hQ3_
        subst l3_ y3_ z3_
        obtain ⟨rc, rfl, Nq3_, hh3_, hqc⟩ := hQ3_
        have N3_ := Fr.app N0 Nq3_
        refine own_via (fun _ k => st3_ _ k) ?_
        show own_Fin _ _ _ _ _ _ _ T3_ (mkF m 22 #[.val (.int n), .val (.int x1), .val (.int x2), .val (.int k), .val (.int y1), .val (.int y2)] [(.int rc)])
        exact own_retI X3_ hx Bd.returns Bd.notSynchronized (hb hby own_d_8_22) hh3_ rfl ⟨rc, rfl, N3_, rfl, (Or.inr (Or.inl ⟨h1, h2, h3, hqc⟩))⟩ (by decide) (by decide)
theorem own_pd23 : parseMethodDescriptor "(III)Ljava/lang/String;" = some ⟨[.int, .int, .int], some (.object "java/lang/String")⟩ := by decide +kernel
theorem own_pd24 : parseMethodDescriptor "(IIIIII)I" = some ⟨[.int, .int, .int, .int, .int, .int], some .int⟩ := by decide +kernel
theorem own_pd25 : parseMethodDescriptor "(Ljava/lang/String;Ljava/lang/String;)I" = some ⟨[(.object "java/lang/String"), (.object "java/lang/String")], some .int⟩ := by decide +kernel
theorem own_ef_law (m : MethodId) (p1 : Int32) (p2 : Int32) (p3 : Int32) (p4 : Int32) (p5 : Int32) : entryFrame m #[(.int p1), (.int p2), (.int p3), (.int p4), (.int p5)] maxLocals = mkF m 0 #[.val (.int p1), .val (.int p2), .val (.int p3), .val (.int p4), .val (.int p5), .unset, .unset, .unset, .unset, .unset, .unset, .unset, .unset, .unset] [] := by (first | (simp [entryFrame, mkF, argsToLocals, Value.category, maxLocals]; done) | rfl)
def own_Q_law (Z : State) (p1 : Int32) (p2 : Int32) (p3 : Int32) (p4 : Int32) (p5 : Int32) (cz : Int32) (fm : Value) (h0 : Heap) (n0 : Nat) (vq : Option Value) (h : Heap) (Lq : List Loc) : Prop := (vq = some (.int (1 : Int32))) ∧ (Fr n0 Lq)
set_option maxRecDepth 65536 in
set_option maxHeartbeats 40000000 in
theorem own_rm_law (l : Launch) (Z : State) (a0 : Array Value) (hw : ∀ d ∈ tables_1, d.before a0 Z = true) (wsq : List Jvm.Cond) (p1 : Int32) (p2 : Int32) (p3 : Int32) (p4 : Int32) (p5 : Int32) (cz : Int32) (fm : Value) (h0 : Heap) (n0 : Nat) (Z0 : n0 ≤ h0.size) (O0 : Old Z n0 h0) (S1 : Sta Z Z.heap "java/lang/String" "COMPACT_STRINGS" "Z" (.int cz)) (P5 : ¬ cz = (0 : Int32)) (S2 : Sta Z Z.heap "jdk/internal/util/Preconditions" "SIOOBE_FORMATTER" "Ljava/util/function/BiFunction;" fm) (r_fm : fm.isRef = true) (S3 : Sta Z Z.heap "java/lang/StringUTF16" "$assertionsDisabled" "Z" (.int (1 : Int32))) (S4 : Sta Z Z.heap "java/lang/StringUTF16" "HI_BYTE_SHIFT" "I" (.int (0 : Int32))) (S5 : Sta Z Z.heap "java/lang/StringUTF16" "LO_BYTE_SHIFT" "I" (.int (8 : Int32))) :
    MetFree l x (head1 (Jvm.Cond.code x code maxLocals ret :: wsq) room_1) (fun aq Uq => aq = #[(.int p1), (.int p2), (.int p3), (.int p4), (.int p5)] ∧ Z.Warmed39 Uq.vm ∧ Uq.heap = h0 ∧ CHv Z own_EL Uq.vm h0) (fun _ _ _ _ _ => True) (fun _ Uq oq Uq' => ∃ vq Lq, oq = .returned vq ∧ own_Q_law Z p1 p2 p3 p4 p5 cz fm h0 n0 vq Uq'.heap Lq ∧ CHr Z own_EL Uq.vm Uq.heap Uq'.vm Uq'.heap ∧ ReturnedEndW Uq oq Uq' Lq room_1.cells room_1.slots) := by
  refine MetFree.of_bodySF (plainFor_of_name own_pn6) hisR ?_
  intro p e s m args below meth cde s₁ Bd hml0 hP hK
  obtain ⟨rfl, hZ, hh, H0⟩ := hP
  have hx := Bd.exec
  have hby := Bd.bytes
  have hml : cde.maxLocals = 14 := hml0
  have hown : s.vm.findClass "com/example/co_occurrence_ranking/cooccurrenceranking/io/LineReaderCompareFieldsPinLaw" = some m.cls := findClass_of_methodNamed Bd.named
  have hnm := (name_of_methodNamed Bd.named Bd.method).1
  have X0 : Stand p l e room_1 (s.setVm s.vm) m #[(.int p1), (.int p2), (.int p3), (.int p4), (.int p5)] below meth cde s₁ [] 0 0 := Stand.of_body Bd
  have e0 : s₁.heap = h0 := by rw [← hh, Bd.state]; rfl
  have N0 := Fr.nil n0
  have hS0 : s.Since s.vm h0.size := (State.WarmedH.refl s).since _
  have hk0 : h0.size ≤ h0.size := Nat.le_refl _
  have C0 : CHr Z own_EL s.vm h0 s.vm h0 := CHr.refl H0
  show own_FinH p e s below Z own_EL (own_Q_law Z p1 p2 p3 p4 p5 cz fm h0 n0) room_1.cells room_1.slots s₁ (entryFrame m #[(.int p1), (.int p2), (.int p3), (.int p4), (.int p5)] maxLocals)
  rw [own_ef_law m p1 p2 p3 p4 p5]
  refine own_viaH (fun _ k => XS.iload X0.here hx rfl (hb hby at_0) rfl k) ?_
  show own_FinH _ _ _ _ _ _ _ _ _ s₁ (mkF m 2 #[.val (.int p1), .val (.int p2), .val (.int p3), .val (.int p4), .val (.int p5), .unset, .unset, .unset, .unset, .unset, .unset, .unset, .unset, .unset] [(.int p5)])
  refine own_viaH (fun _ k => XS.sipush X0.here hx rfl (hb hby at_2) k) ?_
  show own_FinH _ _ _ _ _ _ _ _ _ s₁ (mkF m 5 #[.val (.int p1), .val (.int p2), .val (.int p3), .val (.int p4), .val (.int p5), .unset, .unset, .unset, .unset, .unset, .unset, .unset, .unset, .unset] [(.int (255 : Int32)), (.int p5)])
  refine own_viaH (fun _ k => XS.iand X0.here hx rfl (hb hby at_5) rfl k) ?_
  show own_FinH _ _ _ _ _ _ _ _ _ s₁ (mkF m 6 #[.val (.int p1), .val (.int p2), .val (.int p3), .val (.int p4), .val (.int p5), .unset, .unset, .unset, .unset, .unset, .unset, .unset, .unset, .unset] [(.int (p5 &&& (255 : Int32)))])
  refine own_viaH (fun _ k => XS.iconst X0.here hx rfl (hb hby at_6) k) ?_
  show own_FinH _ _ _ _ _ _ _ _ _ s₁ (mkF m 7 #[.val (.int p1), .val (.int p2), .val (.int p3), .val (.int p4), .val (.int p5), .unset, .unset, .unset, .unset, .unset, .unset, .unset, .unset, .unset] [(.int (3 : Int32)), (.int (p5 &&& (255 : Int32)))])
  refine own_viaH (fun _ k => iremM (g := (mkF m 7 #[.val (.int p1), .val (.int p2), .val (.int p3), .val (.int p4), .val (.int p5), .unset, .unset, .unset, .unset, .unset, .unset, .unset, .unset, .unset] [(.int (3 : Int32)), (.int (p5 &&& (255 : Int32)))])) X0 hx rfl (hb hby at_7) rfl (by decide) k) ?_
  show own_FinH _ _ _ _ _ _ _ _ _ s₁ (mkF m 8 #[.val (.int p1), .val (.int p2), .val (.int p3), .val (.int p4), .val (.int p5), .unset, .unset, .unset, .unset, .unset, .unset, .unset, .unset, .unset] [(.int ((p5 &&& (255 : Int32)) % (3 : Int32)))])
  refine own_viaH (fun _ k => XS.istore X0.here hx rfl (hb hby at_8) rfl (l' := #[.val (.int p1), .val (.int p2), .val (.int p3), .val (.int p4), .val (.int p5), .val (.int ((p5 &&& (255 : Int32)) % (3 : Int32))), .unset, .unset, .unset, .unset, .unset, .unset, .unset, .unset]) rfl k) ?_
  show own_FinH _ _ _ _ _ _ _ _ _ s₁ (mkF m 10 #[.val (.int p1), .val (.int p2), .val (.int p3), .val (.int p4), .val (.int p5), .val (.int ((p5 &&& (255 : Int32)) % (3 : Int32))), .unset, .unset, .unset, .unset, .unset, .unset, .unset, .unset] [])
  refine own_viaH (fun _ k => XS.iload X0.here hx rfl (hb hby at_10) rfl k) ?_
  show own_FinH _ _ _ _ _ _ _ _ _ s₁ (mkF m 12 #[.val (.int p1), .val (.int p2), .val (.int p3), .val (.int p4), .val (.int p5), .val (.int ((p5 &&& (255 : Int32)) % (3 : Int32))), .unset, .unset, .unset, .unset, .unset, .unset, .unset, .unset] [(.int p5)])
  refine own_viaH (fun _ k => XS.bipush X0.here hx rfl (hb hby at_12) k) ?_
  show own_FinH _ _ _ _ _ _ _ _ _ s₁ (mkF m 14 #[.val (.int p1), .val (.int p2), .val (.int p3), .val (.int p4), .val (.int p5), .val (.int ((p5 &&& (255 : Int32)) % (3 : Int32))), .unset, .unset, .unset, .unset, .unset, .unset, .unset, .unset] [(.int (8 : Int32)), (.int p5)])
  refine own_viaH (fun _ k => XS.iushr X0.here hx rfl (hb hby at_14) rfl k) ?_
  show own_FinH _ _ _ _ _ _ _ _ _ s₁ (mkF m 15 #[.val (.int p1), .val (.int p2), .val (.int p3), .val (.int p4), .val (.int p5), .val (.int ((p5 &&& (255 : Int32)) % (3 : Int32))), .unset, .unset, .unset, .unset, .unset, .unset, .unset, .unset] [(.int ((p5.toUInt32 >>> ((8 : Int32) &&& 31).toUInt32).toInt32))])
  refine own_viaH (fun _ k => XS.sipush X0.here hx rfl (hb hby at_15) k) ?_
  show own_FinH _ _ _ _ _ _ _ _ _ s₁ (mkF m 18 #[.val (.int p1), .val (.int p2), .val (.int p3), .val (.int p4), .val (.int p5), .val (.int ((p5 &&& (255 : Int32)) % (3 : Int32))), .unset, .unset, .unset, .unset, .unset, .unset, .unset, .unset] [(.int (255 : Int32)), (.int ((p5.toUInt32 >>> ((8 : Int32) &&& 31).toUInt32).toInt32))])
  refine own_viaH (fun _ k => XS.iand X0.here hx rfl (hb hby at_18) rfl k) ?_
  show own_FinH _ _ _ _ _ _ _ _ _ s₁ (mkF m 19 #[.val (.int p1), .val (.int p2), .val (.int p3), .val (.int p4), .val (.int p5), .val (.int ((p5 &&& (255 : Int32)) % (3 : Int32))), .unset, .unset, .unset, .unset, .unset, .unset, .unset, .unset] [(.int (((p5.toUInt32 >>> ((8 : Int32) &&& 31).toUInt32).toInt32) &&& (255 : Int32)))])
  refine own_viaH (fun _ k => XS.iconst X0.here hx rfl (hb hby at_19) k) ?_
  show own_FinH _ _ _ _ _ _ _ _ _ s₁ (mkF m 20 #[.val (.int p1), .val (.int p2), .val (.int p3), .val (.int p4), .val (.int p5), .val (.int ((p5 &&& (255 : Int32)) % (3 : Int32))), .unset, .unset, .unset, .unset, .unset, .unset, .unset, .unset] [(.int (3 : Int32)), (.int (((p5.toUInt32 >>> ((8 : Int32) &&& 31).toUInt32).toInt32) &&& (255 : Int32)))])
  refine own_viaH (fun _ k => iremM (g := (mkF m 20 #[.val (.int p1), .val (.int p2), .val (.int p3), .val (.int p4), .val (.int p5), .val (.int ((p5 &&& (255 : Int32)) % (3 : Int32))), .unset, .unset, .unset, .unset, .unset, .unset, .unset, .unset] [(.int (3 : Int32)), (.int (((p5.toUInt32 >>> ((8 : Int32) &&& 31).toUInt32).toInt32) &&& (255 : Int32)))])) X0 hx rfl (hb hby at_20) rfl (by decide) k) ?_
  show own_FinH _ _ _ _ _ _ _ _ _ s₁ (mkF m 21 #[.val (.int p1), .val (.int p2), .val (.int p3), .val (.int p4), .val (.int p5), .val (.int ((p5 &&& (255 : Int32)) % (3 : Int32))), .unset, .unset, .unset, .unset, .unset, .unset, .unset, .unset] [(.int ((((p5.toUInt32 >>> ((8 : Int32) &&& 31).toUInt32).toInt32) &&& (255 : Int32)) % (3 : Int32)))])
  refine own_viaH (fun _ k => XS.istore X0.here hx rfl (hb hby at_21) rfl (l' := #[.val (.int p1), .val (.int p2), .val (.int p3), .val (.int p4), .val (.int p5), .val (.int ((p5 &&& (255 : Int32)) % (3 : Int32))), .val (.int ((((p5.toUInt32 >>> ((8 : Int32) &&& 31).toUInt32).toInt32) &&& (255 : Int32)) % (3 : Int32))), .unset, .unset, .unset, .unset, .unset, .unset, .unset]) rfl k) ?_
  show own_FinH _ _ _ _ _ _ _ _ _ s₁ (mkF m 23 #[.val (.int p1), .val (.int p2), .val (.int p3), .val (.int p4), .val (.int p5), .val (.int ((p5 &&& (255 : Int32)) % (3 : Int32))), .val (.int ((((p5.toUInt32 >>> ((8 : Int32) &&& 31).toUInt32).toInt32) &&& (255 : Int32)) % (3 : Int32))), .unset, .unset, .unset, .unset, .unset, .unset, .unset] [])
  refine own_viaH (fun _ k => XS.iloadN X0.here hx rfl (hb hby at_23) rfl k) ?_
  show own_FinH _ _ _ _ _ _ _ _ _ s₁ (mkF m 24 #[.val (.int p1), .val (.int p2), .val (.int p3), .val (.int p4), .val (.int p5), .val (.int ((p5 &&& (255 : Int32)) % (3 : Int32))), .val (.int ((((p5.toUInt32 >>> ((8 : Int32) &&& 31).toUInt32).toInt32) &&& (255 : Int32)) % (3 : Int32))), .unset, .unset, .unset, .unset, .unset, .unset, .unset] [(.int p1)])
  obtain ⟨_, _, ⟨T1_, L1_, k1_, n1_⟩, -, X1_, ⟨Lc1_, hQ1_, l1_, y1_, z1_⟩, st1_⟩ := Jvm.LawKit.callS X0 hx (y := (⟨"com/example/co_occurrence_ranking/cooccurrenceranking/io/LineReaderCompareFieldsPinLaw", "cp", "(I)I"⟩ : MethodName)) hown (mvT hZ (hw _ (List.mem_of_getElem? (i := 0) rfl))) (mvT hZ (hw _ (List.mem_of_getElem? (i := 1) rfl))) (mvT hZ (hw _ (List.mem_of_getElem? (i := 2) rfl))) (mvT hZ (hw _ (List.mem_of_getElem? (i := 3) rfl))) (by decide) (backOf (W := 0) (own_rm_cp l Z a0 hw [] p1 h0 n0 Z0 ) hZ (hw _ (List.mem_of_getElem? (i := 3) rfl)) (hw _ (List.mem_of_getElem? (i := 2) rfl)) (by decide) (by decide)) (g := (mkF m 24 #[.val (.int p1), .val (.int p2), .val (.int p3), .val (.int p4), .val (.int p5), .val (.int ((p5 &&& (255 : Int32)) % (3 : Int32))), .val (.int ((((p5.toUInt32 >>> ((8 : Int32) &&& 31).toUInt32).toInt32) &&& (255 : Int32)) % (3 : Int32))), .unset, .unset, .unset, .unset, .unset, .unset, .unset] [(.int p1)])) rfl (by rw [hml]; rfl) (argsL := [(.int p1)]) (rest := []) (lenOf own_pd7 rfl) rfl (by show 2 * 0 + _ ≤ _; exact Nat.le_of_eq rfl) (hb hby at_24) (fun _ _ => ⟨rfl, e0, (by decide : 0 + 0 ≤ _), (by decide : 0 + 0 ≤ _)⟩)
  dsimp only [Pt.U, Pt.locs, Pt.cells, Pt.slots] at X1_ l1_ y1_ z1_ st1_ hQ1_
  subst l1_ y1_ z1_
  obtain ⟨x1, rfl, Nq1_, hh1_, hx1⟩ := hQ1_
  have N1_ := Fr.app N0 Nq1_
  refine own_viaH (fun _ k => st1_ _ k) ?_
  show own_FinH _ _ _ _ _ _ _ _ _ T1_ (mkF m 27 #[.val (.int p1), .val (.int p2), .val (.int p3), .val (.int p4), .val (.int p5), .val (.int ((p5 &&& (255 : Int32)) % (3 : Int32))), .val (.int ((((p5.toUInt32 >>> ((8 : Int32) &&& 31).toUInt32).toInt32) &&& (255 : Int32)) % (3 : Int32))), .unset, .unset, .unset, .unset, .unset, .unset, .unset] [(.int x1)])
  refine own_viaH (fun _ k => XS.istore X1_.here hx rfl (hb hby at_27) rfl (l' := #[.val (.int p1), .val (.int p2), .val (.int p3), .val (.int p4), .val (.int p5), .val (.int ((p5 &&& (255 : Int32)) % (3 : Int32))), .val (.int ((((p5.toUInt32 >>> ((8 : Int32) &&& 31).toUInt32).toInt32) &&& (255 : Int32)) % (3 : Int32))), .val (.int x1), .unset, .unset, .unset, .unset, .unset, .unset]) rfl k) ?_
  show own_FinH _ _ _ _ _ _ _ _ _ T1_ (mkF m 29 #[.val (.int p1), .val (.int p2), .val (.int p3), .val (.int p4), .val (.int p5), .val (.int ((p5 &&& (255 : Int32)) % (3 : Int32))), .val (.int ((((p5.toUInt32 >>> ((8 : Int32) &&& 31).toUInt32).toInt32) &&& (255 : Int32)) % (3 : Int32))), .val (.int x1), .unset, .unset, .unset, .unset, .unset, .unset] [])
  refine own_viaH (fun _ k => XS.iloadN X1_.here hx rfl (hb hby at_29) rfl k) ?_
  show own_FinH _ _ _ _ _ _ _ _ _ T1_ (mkF m 30 #[.val (.int p1), .val (.int p2), .val (.int p3), .val (.int p4), .val (.int p5), .val (.int ((p5 &&& (255 : Int32)) % (3 : Int32))), .val (.int ((((p5.toUInt32 >>> ((8 : Int32) &&& 31).toUInt32).toInt32) &&& (255 : Int32)) % (3 : Int32))), .val (.int x1), .unset, .unset, .unset, .unset, .unset, .unset] [(.int p2)])
  obtain ⟨_, _, ⟨T2_, L2_, k2_, n2_⟩, -, X2_, ⟨Lc2_, hQ2_, l2_, y2_, z2_⟩, st2_⟩ := Jvm.LawKit.callS X1_ hx (y := (⟨"com/example/co_occurrence_ranking/cooccurrenceranking/io/LineReaderCompareFieldsPinLaw", "cp", "(I)I"⟩ : MethodName)) hown (mvT hZ (hw _ (List.mem_of_getElem? (i := 0) rfl))) (mvT hZ (hw _ (List.mem_of_getElem? (i := 1) rfl))) (mvT hZ (hw _ (List.mem_of_getElem? (i := 2) rfl))) (mvT hZ (hw _ (List.mem_of_getElem? (i := 3) rfl))) (by decide) (backOf (W := 0) (own_rm_cp l Z a0 hw [] p2 h0 n0 Z0 ) hZ (hw _ (List.mem_of_getElem? (i := 3) rfl)) (hw _ (List.mem_of_getElem? (i := 2) rfl)) (by decide) (by decide)) (g := (mkF m 30 #[.val (.int p1), .val (.int p2), .val (.int p3), .val (.int p4), .val (.int p5), .val (.int ((p5 &&& (255 : Int32)) % (3 : Int32))), .val (.int ((((p5.toUInt32 >>> ((8 : Int32) &&& 31).toUInt32).toInt32) &&& (255 : Int32)) % (3 : Int32))), .val (.int x1), .unset, .unset, .unset, .unset, .unset, .unset] [(.int p2)])) rfl (by rw [hml]; rfl) (argsL := [(.int p2)]) (rest := []) (lenOf own_pd7 rfl) rfl (by show 2 * 0 + _ ≤ _; exact Nat.le_of_eq rfl) (hb hby at_30) (fun _ _ => ⟨rfl, hh1_, (by decide : 0 + 0 + 0 ≤ _), (by decide : 0 + 0 + 0 ≤ _)⟩)
  dsimp only [Pt.U, Pt.locs, Pt.cells, Pt.slots] at X2_ l2_ y2_ z2_ st2_ hQ2_
  subst l2_ y2_ z2_
  obtain ⟨x2, rfl, Nq2_, hh2_, hx2⟩ := hQ2_
  have N2_ := Fr.app N1_ Nq2_
  refine own_viaH (fun _ k => st2_ _ k) ?_
  show own_FinH _ _ _ _ _ _ _ _ _ T2_ (mkF m 33 #[.val (.int p1), .val (.int p2), .val (.int p3), .val (.int p4), .val (.int p5), .val (.int ((p5 &&& (255 : Int32)) % (3 : Int32))), .val (.int ((((p5.toUInt32 >>> ((8 : Int32) &&& 31).toUInt32).toInt32) &&& (255 : Int32)) % (3 : Int32))), .val (.int x1), .unset, .unset, .unset, .unset, .unset, .unset] [(.int x2)])
  refine own_viaH (fun _ k => XS.istore X2_.here hx rfl (hb hby at_33) rfl (l' := #[.val (.int p1), .val (.int p2), .val (.int p3), .val (.int p4), .val (.int p5), .val (.int ((p5 &&& (255 : Int32)) % (3 : Int32))), .val (.int ((((p5.toUInt32 >>> ((8 : Int32) &&& 31).toUInt32).toInt32) &&& (255 : Int32)) % (3 : Int32))), .val (.int x1), .val (.int x2), .unset, .unset, .unset, .unset, .unset]) rfl k) ?_
  show own_FinH _ _ _ _ _ _ _ _ _ T2_ (mkF m 35 #[.val (.int p1), .val (.int p2), .val (.int p3), .val (.int p4), .val (.int p5), .val (.int ((p5 &&& (255 : Int32)) % (3 : Int32))), .val (.int ((((p5.toUInt32 >>> ((8 : Int32) &&& 31).toUInt32).toInt32) &&& (255 : Int32)) % (3 : Int32))), .val (.int x1), .val (.int x2), .unset, .unset, .unset, .unset, .unset] [])
  refine own_viaH (fun _ k => XS.iload X2_.here hx rfl (hb hby at_35) rfl k) ?_
  show own_FinH _ _ _ _ _ _ _ _ _ T2_ (mkF m 37 #[.val (.int p1), .val (.int p2), .val (.int p3), .val (.int p4), .val (.int p5), .val (.int ((p5 &&& (255 : Int32)) % (3 : Int32))), .val (.int ((((p5.toUInt32 >>> ((8 : Int32) &&& 31).toUInt32).toInt32) &&& (255 : Int32)) % (3 : Int32))), .val (.int x1), .val (.int x2), .unset, .unset, .unset, .unset, .unset] [(.int p5)])
  refine own_viaH (fun _ k => XS.bipush X2_.here hx rfl (hb hby at_37) k) ?_
  show own_FinH _ _ _ _ _ _ _ _ _ T2_ (mkF m 39 #[.val (.int p1), .val (.int p2), .val (.int p3), .val (.int p4), .val (.int p5), .val (.int ((p5 &&& (255 : Int32)) % (3 : Int32))), .val (.int ((((p5.toUInt32 >>> ((8 : Int32) &&& 31).toUInt32).toInt32) &&& (255 : Int32)) % (3 : Int32))), .val (.int x1), .val (.int x2), .unset, .unset, .unset, .unset, .unset] [(.int (16 : Int32)), (.int p5)])
  refine own_viaH (fun _ k => XS.iushr X2_.here hx rfl (hb hby at_39) rfl k) ?_
  show own_FinH _ _ _ _ _ _ _ _ _ T2_ (mkF m 40 #[.val (.int p1), .val (.int p2), .val (.int p3), .val (.int p4), .val (.int p5), .val (.int ((p5 &&& (255 : Int32)) % (3 : Int32))), .val (.int ((((p5.toUInt32 >>> ((8 : Int32) &&& 31).toUInt32).toInt32) &&& (255 : Int32)) % (3 : Int32))), .val (.int x1), .val (.int x2), .unset, .unset, .unset, .unset, .unset] [(.int ((p5.toUInt32 >>> ((16 : Int32) &&& 31).toUInt32).toInt32))])
  refine own_viaH (fun _ k => XS.iconst X2_.here hx rfl (hb hby at_40) k) ?_
  show own_FinH _ _ _ _ _ _ _ _ _ T2_ (mkF m 41 #[.val (.int p1), .val (.int p2), .val (.int p3), .val (.int p4), .val (.int p5), .val (.int ((p5 &&& (255 : Int32)) % (3 : Int32))), .val (.int ((((p5.toUInt32 >>> ((8 : Int32) &&& 31).toUInt32).toInt32) &&& (255 : Int32)) % (3 : Int32))), .val (.int x1), .val (.int x2), .unset, .unset, .unset, .unset, .unset] [(.int (1 : Int32)), (.int ((p5.toUInt32 >>> ((16 : Int32) &&& 31).toUInt32).toInt32))])
  refine own_viaH (fun _ k => XS.iand X2_.here hx rfl (hb hby at_41) rfl k) ?_
  show own_FinH _ _ _ _ _ _ _ _ _ T2_ (mkF m 42 #[.val (.int p1), .val (.int p2), .val (.int p3), .val (.int p4), .val (.int p5), .val (.int ((p5 &&& (255 : Int32)) % (3 : Int32))), .val (.int ((((p5.toUInt32 >>> ((8 : Int32) &&& 31).toUInt32).toInt32) &&& (255 : Int32)) % (3 : Int32))), .val (.int x1), .val (.int x2), .unset, .unset, .unset, .unset, .unset] [(.int (((p5.toUInt32 >>> ((16 : Int32) &&& 31).toUInt32).toInt32) &&& (1 : Int32)))])
  rcases Classical.em ((((p5.toUInt32 >>> ((16 : Int32) &&& 31).toUInt32).toInt32) &&& (1 : Int32)) = (0 : Int32)) with hA | hA
  · refine own_viaH (fun _ k => XS.ifYes X2_.here hx rfl (pc0 := 42) (pc' := 50) rfl (hb hby at_42) rfl ((if0 _ _).trans (teq hA).1) (by decide) (by decide) k) ?_
    show own_FinH _ _ _ _ _ _ _ _ _ T2_ (mkF m 50 #[.val (.int p1), .val (.int p2), .val (.int p3), .val (.int p4), .val (.int p5), .val (.int ((p5 &&& (255 : Int32)) % (3 : Int32))), .val (.int ((((p5.toUInt32 >>> ((8 : Int32) &&& 31).toUInt32).toInt32) &&& (255 : Int32)) % (3 : Int32))), .val (.int x1), .val (.int x2), .unset, .unset, .unset, .unset, .unset] [])
    refine own_viaH (fun _ k => XS.iloadN X2_.here hx rfl (hb hby at_50) rfl k) ?_
    show own_FinH _ _ _ _ _ _ _ _ _ T2_ (mkF m 51 #[.val (.int p1), .val (.int p2), .val (.int p3), .val (.int p4), .val (.int p5), .val (.int ((p5 &&& (255 : Int32)) % (3 : Int32))), .val (.int ((((p5.toUInt32 >>> ((8 : Int32) &&& 31).toUInt32).toInt32) &&& (255 : Int32)) % (3 : Int32))), .val (.int x1), .val (.int x2), .unset, .unset, .unset, .unset, .unset] [(.int p3)])
    obtain ⟨_, _, ⟨T3_, L3_, k3_, n3_⟩, -, X3_, ⟨Lc3_, hQ3_, l3_, y3_, z3_⟩, st3_⟩ := Jvm.LawKit.callS X2_ hx (y := (⟨"com/example/co_occurrence_ranking/cooccurrenceranking/io/LineReaderCompareFieldsPinLaw", "cp", "(I)I"⟩ : MethodName)) hown (mvT hZ (hw _ (List.mem_of_getElem? (i := 0) rfl))) (mvT hZ (hw _ (List.mem_of_getElem? (i := 1) rfl))) (mvT hZ (hw _ (List.mem_of_getElem? (i := 2) rfl))) (mvT hZ (hw _ (List.mem_of_getElem? (i := 3) rfl))) (by decide) (backOf (W := 0) (own_rm_cp l Z a0 hw [] p3 h0 n0 Z0 ) hZ (hw _ (List.mem_of_getElem? (i := 3) rfl)) (hw _ (List.mem_of_getElem? (i := 2) rfl)) (by decide) (by decide)) (g := (mkF m 51 #[.val (.int p1), .val (.int p2), .val (.int p3), .val (.int p4), .val (.int p5), .val (.int ((p5 &&& (255 : Int32)) % (3 : Int32))), .val (.int ((((p5.toUInt32 >>> ((8 : Int32) &&& 31).toUInt32).toInt32) &&& (255 : Int32)) % (3 : Int32))), .val (.int x1), .val (.int x2), .unset, .unset, .unset, .unset, .unset] [(.int p3)])) rfl (by rw [hml]; rfl) (argsL := [(.int p3)]) (rest := []) (lenOf own_pd7 rfl) rfl (by show 2 * 0 + _ ≤ _; exact Nat.le_of_eq rfl) (hb hby at_51) (fun _ _ => ⟨rfl, hh2_, (by decide : 0 + 0 + 0 + 0 ≤ _), (by decide : 0 + 0 + 0 + 0 ≤ _)⟩)
    dsimp only [Pt.U, Pt.locs, Pt.cells, Pt.slots] at X3_ l3_ y3_ z3_ st3_ hQ3_
    subst l3_ y3_ z3_
    obtain ⟨y1, rfl, Nq3_, hh3_, hy1⟩ := hQ3_
    have N3_ := Fr.app N2_ Nq3_
    refine own_viaH (fun _ k => st3_ _ k) ?_
    show own_FinH _ _ _ _ _ _ _ _ _ T3_ (mkF m 54 #[.val (.int p1), .val (.int p2), .val (.int p3), .val (.int p4), .val (.int p5), .val (.int ((p5 &&& (255 : Int32)) % (3 : Int32))), .val (.int ((((p5.toUInt32 >>> ((8 : Int32) &&& 31).toUInt32).toInt32) &&& (255 : Int32)) % (3 : Int32))), .val (.int x1), .val (.int x2), .unset, .unset, .unset, .unset, .unset] [(.int y1)])
    refine own_viaH (fun _ k => XS.istore X3_.here hx rfl (hb hby at_54) rfl (l' := #[.val (.int p1), .val (.int p2), .val (.int p3), .val (.int p4), .val (.int p5), .val (.int ((p5 &&& (255 : Int32)) % (3 : Int32))), .val (.int ((((p5.toUInt32 >>> ((8 : Int32) &&& 31).toUInt32).toInt32) &&& (255 : Int32)) % (3 : Int32))), .val (.int x1), .val (.int x2), .val (.int y1), .unset, .unset, .unset, .unset]) rfl k) ?_
    show own_FinH _ _ _ _ _ _ _ _ _ T3_ (mkF m 56 #[.val (.int p1), .val (.int p2), .val (.int p3), .val (.int p4), .val (.int p5), .val (.int ((p5 &&& (255 : Int32)) % (3 : Int32))), .val (.int ((((p5.toUInt32 >>> ((8 : Int32) &&& 31).toUInt32).toInt32) &&& (255 : Int32)) % (3 : Int32))), .val (.int x1), .val (.int x2), .val (.int y1), .unset, .unset, .unset, .unset] [])
    refine own_viaH (fun _ k => XS.iload X3_.here hx rfl (hb hby at_56) rfl k) ?_
    show own_FinH _ _ _ _ _ _ _ _ _ T3_ (mkF m 58 #[.val (.int p1), .val (.int p2), .val (.int p3), .val (.int p4), .val (.int p5), .val (.int ((p5 &&& (255 : Int32)) % (3 : Int32))), .val (.int ((((p5.toUInt32 >>> ((8 : Int32) &&& 31).toUInt32).toInt32) &&& (255 : Int32)) % (3 : Int32))), .val (.int x1), .val (.int x2), .val (.int y1), .unset, .unset, .unset, .unset] [(.int p5)])
    refine own_viaH (fun _ k => XS.bipush X3_.here hx rfl (hb hby at_58) k) ?_
    show own_FinH _ _ _ _ _ _ _ _ _ T3_ (mkF m 60 #[.val (.int p1), .val (.int p2), .val (.int p3), .val (.int p4), .val (.int p5), .val (.int ((p5 &&& (255 : Int32)) % (3 : Int32))), .val (.int ((((p5.toUInt32 >>> ((8 : Int32) &&& 31).toUInt32).toInt32) &&& (255 : Int32)) % (3 : Int32))), .val (.int x1), .val (.int x2), .val (.int y1), .unset, .unset, .unset, .unset] [(.int (17 : Int32)), (.int p5)])
    refine own_viaH (fun _ k => XS.iushr X3_.here hx rfl (hb hby at_60) rfl k) ?_
    show own_FinH _ _ _ _ _ _ _ _ _ T3_ (mkF m 61 #[.val (.int p1), .val (.int p2), .val (.int p3), .val (.int p4), .val (.int p5), .val (.int ((p5 &&& (255 : Int32)) % (3 : Int32))), .val (.int ((((p5.toUInt32 >>> ((8 : Int32) &&& 31).toUInt32).toInt32) &&& (255 : Int32)) % (3 : Int32))), .val (.int x1), .val (.int x2), .val (.int y1), .unset, .unset, .unset, .unset] [(.int ((p5.toUInt32 >>> ((17 : Int32) &&& 31).toUInt32).toInt32))])
    refine own_viaH (fun _ k => XS.iconst X3_.here hx rfl (hb hby at_61) k) ?_
    show own_FinH _ _ _ _ _ _ _ _ _ T3_ (mkF m 62 #[.val (.int p1), .val (.int p2), .val (.int p3), .val (.int p4), .val (.int p5), .val (.int ((p5 &&& (255 : Int32)) % (3 : Int32))), .val (.int ((((p5.toUInt32 >>> ((8 : Int32) &&& 31).toUInt32).toInt32) &&& (255 : Int32)) % (3 : Int32))), .val (.int x1), .val (.int x2), .val (.int y1), .unset, .unset, .unset, .unset] [(.int (1 : Int32)), (.int ((p5.toUInt32 >>> ((17 : Int32) &&& 31).toUInt32).toInt32))])
    refine own_viaH (fun _ k => XS.iand X3_.here hx rfl (hb hby at_62) rfl k) ?_
    show own_FinH _ _ _ _ _ _ _ _ _ T3_ (mkF m 63 #[.val (.int p1), .val (.int p2), .val (.int p3), .val (.int p4), .val (.int p5), .val (.int ((p5 &&& (255 : Int32)) % (3 : Int32))), .val (.int ((((p5.toUInt32 >>> ((8 : Int32) &&& 31).toUInt32).toInt32) &&& (255 : Int32)) % (3 : Int32))), .val (.int x1), .val (.int x2), .val (.int y1), .unset, .unset, .unset, .unset] [(.int (((p5.toUInt32 >>> ((17 : Int32) &&& 31).toUInt32).toInt32) &&& (1 : Int32)))])
    rcases Classical.em ((((p5.toUInt32 >>> ((17 : Int32) &&& 31).toUInt32).toInt32) &&& (1 : Int32)) = (0 : Int32)) with hB | hB
    · refine own_viaH (fun _ k => XS.ifYes X3_.here hx rfl (pc0 := 63) (pc' := 71) rfl (hb hby at_63) rfl ((if0 _ _).trans (teq hB).1) (by decide) (by decide) k) ?_
      show own_FinH _ _ _ _ _ _ _ _ _ T3_ (mkF m 71 #[.val (.int p1), .val (.int p2), .val (.int p3), .val (.int p4), .val (.int p5), .val (.int ((p5 &&& (255 : Int32)) % (3 : Int32))), .val (.int ((((p5.toUInt32 >>> ((8 : Int32) &&& 31).toUInt32).toInt32) &&& (255 : Int32)) % (3 : Int32))), .val (.int x1), .val (.int x2), .val (.int y1), .unset, .unset, .unset, .unset] [])
      refine own_viaH (fun _ k => XS.iloadN X3_.here hx rfl (hb hby at_71) rfl k) ?_
      show own_FinH _ _ _ _ _ _ _ _ _ T3_ (mkF m 72 #[.val (.int p1), .val (.int p2), .val (.int p3), .val (.int p4), .val (.int p5), .val (.int ((p5 &&& (255 : Int32)) % (3 : Int32))), .val (.int ((((p5.toUInt32 >>> ((8 : Int32) &&& 31).toUInt32).toInt32) &&& (255 : Int32)) % (3 : Int32))), .val (.int x1), .val (.int x2), .val (.int y1), .unset, .unset, .unset, .unset] [(.int p4)])
      obtain ⟨_, _, ⟨T4_, L4_, k4_, n4_⟩, -, X4_, ⟨Lc4_, hQ4_, l4_, y4_, z4_⟩, st4_⟩ := Jvm.LawKit.callS X3_ hx (y := (⟨"com/example/co_occurrence_ranking/cooccurrenceranking/io/LineReaderCompareFieldsPinLaw", "cp", "(I)I"⟩ : MethodName)) hown (mvT hZ (hw _ (List.mem_of_getElem? (i := 0) rfl))) (mvT hZ (hw _ (List.mem_of_getElem? (i := 1) rfl))) (mvT hZ (hw _ (List.mem_of_getElem? (i := 2) rfl))) (mvT hZ (hw _ (List.mem_of_getElem? (i := 3) rfl))) (by decide) (backOf (W := 0) (own_rm_cp l Z a0 hw [] p4 h0 n0 Z0 ) hZ (hw _ (List.mem_of_getElem? (i := 3) rfl)) (hw _ (List.mem_of_getElem? (i := 2) rfl)) (by decide) (by decide)) (g := (mkF m 72 #[.val (.int p1), .val (.int p2), .val (.int p3), .val (.int p4), .val (.int p5), .val (.int ((p5 &&& (255 : Int32)) % (3 : Int32))), .val (.int ((((p5.toUInt32 >>> ((8 : Int32) &&& 31).toUInt32).toInt32) &&& (255 : Int32)) % (3 : Int32))), .val (.int x1), .val (.int x2), .val (.int y1), .unset, .unset, .unset, .unset] [(.int p4)])) rfl (by rw [hml]; rfl) (argsL := [(.int p4)]) (rest := []) (lenOf own_pd7 rfl) rfl (by show 2 * 0 + _ ≤ _; exact Nat.le_of_eq rfl) (hb hby at_72) (fun _ _ => ⟨rfl, hh3_, (by decide : 0 + 0 + 0 + 0 + 0 ≤ _), (by decide : 0 + 0 + 0 + 0 + 0 ≤ _)⟩)
      dsimp only [Pt.U, Pt.locs, Pt.cells, Pt.slots] at X4_ l4_ y4_ z4_ st4_ hQ4_
      subst l4_ y4_ z4_
      obtain ⟨y2, rfl, Nq4_, hh4_, hy2⟩ := hQ4_
      have N4_ := Fr.app N3_ Nq4_
      refine own_viaH (fun _ k => st4_ _ k) ?_
      show own_FinH _ _ _ _ _ _ _ _ _ T4_ (mkF m 75 #[.val (.int p1), .val (.int p2), .val (.int p3), .val (.int p4), .val (.int p5), .val (.int ((p5 &&& (255 : Int32)) % (3 : Int32))), .val (.int ((((p5.toUInt32 >>> ((8 : Int32) &&& 31).toUInt32).toInt32) &&& (255 : Int32)) % (3 : Int32))), .val (.int x1), .val (.int x2), .val (.int y1), .unset, .unset, .unset, .unset] [(.int y2)])
      refine own_viaH (fun _ k => XS.istore X4_.here hx rfl (hb hby at_75) rfl (l' := #[.val (.int p1), .val (.int p2), .val (.int p3), .val (.int p4), .val (.int p5), .val (.int ((p5 &&& (255 : Int32)) % (3 : Int32))), .val (.int ((((p5.toUInt32 >>> ((8 : Int32) &&& 31).toUInt32).toInt32) &&& (255 : Int32)) % (3 : Int32))), .val (.int x1), .val (.int x2), .val (.int y1), .val (.int y2), .unset, .unset, .unset]) rfl k) ?_
      show own_FinH _ _ _ _ _ _ _ _ _ T4_ (mkF m 77 #[.val (.int p1), .val (.int p2), .val (.int p3), .val (.int p4), .val (.int p5), .val (.int ((p5 &&& (255 : Int32)) % (3 : Int32))), .val (.int ((((p5.toUInt32 >>> ((8 : Int32) &&& 31).toUInt32).toInt32) &&& (255 : Int32)) % (3 : Int32))), .val (.int x1), .val (.int x2), .val (.int y1), .val (.int y2), .unset, .unset, .unset] [])
      refine own_viaH (fun _ k => XS.iload X4_.here hx rfl (hb hby at_77) rfl k) ?_
      show own_FinH _ _ _ _ _ _ _ _ _ T4_ (mkF m 79 #[.val (.int p1), .val (.int p2), .val (.int p3), .val (.int p4), .val (.int p5), .val (.int ((p5 &&& (255 : Int32)) % (3 : Int32))), .val (.int ((((p5.toUInt32 >>> ((8 : Int32) &&& 31).toUInt32).toInt32) &&& (255 : Int32)) % (3 : Int32))), .val (.int x1), .val (.int x2), .val (.int y1), .val (.int y2), .unset, .unset, .unset] [(.int ((p5 &&& (255 : Int32)) % (3 : Int32)))])
      refine own_viaH (fun _ k => XS.iload X4_.here hx rfl (hb hby at_79) rfl k) ?_
      show own_FinH _ _ _ _ _ _ _ _ _ T4_ (mkF m 81 #[.val (.int p1), .val (.int p2), .val (.int p3), .val (.int p4), .val (.int p5), .val (.int ((p5 &&& (255 : Int32)) % (3 : Int32))), .val (.int ((((p5.toUInt32 >>> ((8 : Int32) &&& 31).toUInt32).toInt32) &&& (255 : Int32)) % (3 : Int32))), .val (.int x1), .val (.int x2), .val (.int y1), .val (.int y2), .unset, .unset, .unset] [(.int x1), (.int ((p5 &&& (255 : Int32)) % (3 : Int32)))])
      refine own_viaH (fun _ k => XS.iload X4_.here hx rfl (hb hby at_81) rfl k) ?_
      show own_FinH _ _ _ _ _ _ _ _ _ T4_ (mkF m 83 #[.val (.int p1), .val (.int p2), .val (.int p3), .val (.int p4), .val (.int p5), .val (.int ((p5 &&& (255 : Int32)) % (3 : Int32))), .val (.int ((((p5.toUInt32 >>> ((8 : Int32) &&& 31).toUInt32).toInt32) &&& (255 : Int32)) % (3 : Int32))), .val (.int x1), .val (.int x2), .val (.int y1), .val (.int y2), .unset, .unset, .unset] [(.int x2), (.int x1), (.int ((p5 &&& (255 : Int32)) % (3 : Int32)))])
      obtain ⟨_, _, ⟨T5_, L5_, k5_, n5_⟩, -, Y5_, hSq5_, hgq5_, ⟨Lc5_, hQ5_, l5_, y5_, z5_, Cq5_⟩, st5_⟩ := callSS X4_ hx (y := (⟨"com/example/co_occurrence_ranking/cooccurrenceranking/io/LineReaderCompareFieldsPinLaw", "str", "(III)Ljava/lang/String;"⟩ : MethodName)) hown (mvT hZ (hw _ (List.mem_of_getElem? (i := 8) rfl))) (mvT hZ (hw _ (List.mem_of_getElem? (i := 9) rfl))) (mvT hZ (hw _ (List.mem_of_getElem? (i := 2) rfl))) (mvT hZ (hw _ (List.mem_of_getElem? (i := 10) rfl))) (by decide) (backOfSH (s := s) (vm0 := s.vm) (W := 0) (own_rm_str l Z a0 hw [] ((p5 &&& (255 : Int32)) % (3 : Int32)) x1 x2 cz h0 n0 Z0 O0 S1 (by first | assumption | decide) S3 S4 S5 (own_n03 _) hx1 hx2) hZ (hw _ (List.mem_of_getElem? (i := 10) rfl)) (hw _ (List.mem_of_getElem? (i := 2) rfl)) (by decide) (by decide) (own_ew hw) H0) (g := (mkF m 83 #[.val (.int p1), .val (.int p2), .val (.int p3), .val (.int p4), .val (.int p5), .val (.int ((p5 &&& (255 : Int32)) % (3 : Int32))), .val (.int ((((p5.toUInt32 >>> ((8 : Int32) &&& 31).toUInt32).toInt32) &&& (255 : Int32)) % (3 : Int32))), .val (.int x1), .val (.int x2), .val (.int y1), .val (.int y2), .unset, .unset, .unset] [(.int x2), (.int x1), (.int ((p5 &&& (255 : Int32)) % (3 : Int32)))])) rfl (by rw [hml]; rfl) (argsL := [(.int ((p5 &&& (255 : Int32)) % (3 : Int32))), (.int x1), (.int x2)]) (rest := []) (lenOf own_pd23 rfl) rfl (by show 2 * 0 + _ ≤ _; exact Nat.le_of_eq rfl) (hb hby at_83) (fun _ _ => ⟨rfl, hh4_, (by decide : 0 + 0 + 0 + 0 + 0 + 7 ≤ _), (by decide : 0 + 0 + 0 + 0 + 0 + 23 ≤ _)⟩)
      dsimp only [Pt.U, Pt.locs, Pt.cells, Pt.slots] at Y5_ l5_ y5_ z5_ st5_ hQ5_ hSq5_ hgq5_ Cq5_
      subst l5_ y5_ z5_
      obtain ⟨X5_, hS5_, hZ5_, hown5_⟩ := rebS hS0 (by rw [hh4_]; exact hk0) Y5_ hSq5_ hgq5_ hZ hown
      obtain ⟨xA, tA, ktA, cdA, NA, vsA, rfl, Nq5_, K5_, r6_, r7_, r8_, r9_, r10_, hcodA⟩ := hQ5_
      have N5_ := Fr.app N4_ Nq5_
      refine own_viaH (fun _ k => st5_.trans k) ?_
      show own_FinH _ _ _ _ _ _ _ _ _ T5_ (mkF m 86 #[.val (.int p1), .val (.int p2), .val (.int p3), .val (.int p4), .val (.int p5), .val (.int ((p5 &&& (255 : Int32)) % (3 : Int32))), .val (.int ((((p5.toUInt32 >>> ((8 : Int32) &&& 31).toUInt32).toInt32) &&& (255 : Int32)) % (3 : Int32))), .val (.int x1), .val (.int x2), .val (.int y1), .val (.int y2), .unset, .unset, .unset] [(.ref xA)])
      refine own_viaH (fun _ k => XS.astore X5_.here hx rfl (hb hby at_86) rfl rfl (l' := #[.val (.int p1), .val (.int p2), .val (.int p3), .val (.int p4), .val (.int p5), .val (.int ((p5 &&& (255 : Int32)) % (3 : Int32))), .val (.int ((((p5.toUInt32 >>> ((8 : Int32) &&& 31).toUInt32).toInt32) &&& (255 : Int32)) % (3 : Int32))), .val (.int x1), .val (.int x2), .val (.int y1), .val (.int y2), .val (.ref xA), .unset, .unset]) rfl k) ?_
      show own_FinH _ _ _ _ _ _ _ _ _ T5_ (mkF m 88 #[.val (.int p1), .val (.int p2), .val (.int p3), .val (.int p4), .val (.int p5), .val (.int ((p5 &&& (255 : Int32)) % (3 : Int32))), .val (.int ((((p5.toUInt32 >>> ((8 : Int32) &&& 31).toUInt32).toInt32) &&& (255 : Int32)) % (3 : Int32))), .val (.int x1), .val (.int x2), .val (.int y1), .val (.int y2), .val (.ref xA), .unset, .unset] [])
      refine own_viaH (fun _ k => XS.iload X5_.here hx rfl (hb hby at_88) rfl k) ?_
      show own_FinH _ _ _ _ _ _ _ _ _ T5_ (mkF m 90 #[.val (.int p1), .val (.int p2), .val (.int p3), .val (.int p4), .val (.int p5), .val (.int ((p5 &&& (255 : Int32)) % (3 : Int32))), .val (.int ((((p5.toUInt32 >>> ((8 : Int32) &&& 31).toUInt32).toInt32) &&& (255 : Int32)) % (3 : Int32))), .val (.int x1), .val (.int x2), .val (.int y1), .val (.int y2), .val (.ref xA), .unset, .unset] [(.int ((((p5.toUInt32 >>> ((8 : Int32) &&& 31).toUInt32).toInt32) &&& (255 : Int32)) % (3 : Int32)))])
      refine own_viaH (fun _ k => XS.iload X5_.here hx rfl (hb hby at_90) rfl k) ?_
      show own_FinH _ _ _ _ _ _ _ _ _ T5_ (mkF m 92 #[.val (.int p1), .val (.int p2), .val (.int p3), .val (.int p4), .val (.int p5), .val (.int ((p5 &&& (255 : Int32)) % (3 : Int32))), .val (.int ((((p5.toUInt32 >>> ((8 : Int32) &&& 31).toUInt32).toInt32) &&& (255 : Int32)) % (3 : Int32))), .val (.int x1), .val (.int x2), .val (.int y1), .val (.int y2), .val (.ref xA), .unset, .unset] [(.int y1), (.int ((((p5.toUInt32 >>> ((8 : Int32) &&& 31).toUInt32).toInt32) &&& (255 : Int32)) % (3 : Int32)))])
      refine own_viaH (fun _ k => XS.iload X5_.here hx rfl (hb hby at_92) rfl k) ?_
      show own_FinH _ _ _ _ _ _ _ _ _ T5_ (mkF m 94 #[.val (.int p1), .val (.int p2), .val (.int p3), .val (.int p4), .val (.int p5), .val (.int ((p5 &&& (255 : Int32)) % (3 : Int32))), .val (.int ((((p5.toUInt32 >>> ((8 : Int32) &&& 31).toUInt32).toInt32) &&& (255 : Int32)) % (3 : Int32))), .val (.int x1), .val (.int x2), .val (.int y1), .val (.int y2), .val (.ref xA), .unset, .unset] [(.int y2), (.int y1), (.int ((((p5.toUInt32 >>> ((8 : Int32) &&& 31).toUInt32).toInt32) &&& (255 : Int32)) % (3 : Int32)))])
      have C12_ := C0.trans Cq5_
      have H12_ := C12_.1
      obtain ⟨_, _, ⟨T11_, L11_, k11_, n11_⟩, -, Y11_, hSq11_, hgq11_, ⟨Lc11_, hQ11_, l11_, y11_, z11_, Cq11_⟩, st11_⟩ := callSS X5_ hx (y := (⟨"com/example/co_occurrence_ranking/cooccurrenceranking/io/LineReaderCompareFieldsPinLaw", "str", "(III)Ljava/lang/String;"⟩ : MethodName)) hown5_ (mvT hZ5_ (hw _ (List.mem_of_getElem? (i := 8) rfl))) (mvT hZ5_ (hw _ (List.mem_of_getElem? (i := 9) rfl))) (mvT hZ5_ (hw _ (List.mem_of_getElem? (i := 2) rfl))) (mvT hZ5_ (hw _ (List.mem_of_getElem? (i := 10) rfl))) (by decide) (backOfSH (s := s) (vm0 := T5_.vm) (W := 0) (own_rm_str l Z a0 hw [] ((((p5.toUInt32 >>> ((8 : Int32) &&& 31).toUInt32).toInt32) &&& (255 : Int32)) % (3 : Int32)) y1 y2 cz T5_.heap n0 (Nat.le_trans Z0 K5_.1) (O0.keep K5_ all0) S1 (by first | assumption | decide) S3 S4 S5 (own_n03 _) hy1 hy2) hZ5_ (hw _ (List.mem_of_getElem? (i := 10) rfl)) (hw _ (List.mem_of_getElem? (i := 2) rfl)) (by decide) (by decide) (own_ew hw) H12_) (g := (mkF m 94 #[.val (.int p1), .val (.int p2), .val (.int p3), .val (.int p4), .val (.int p5), .val (.int ((p5 &&& (255 : Int32)) % (3 : Int32))), .val (.int ((((p5.toUInt32 >>> ((8 : Int32) &&& 31).toUInt32).toInt32) &&& (255 : Int32)) % (3 : Int32))), .val (.int x1), .val (.int x2), .val (.int y1), .val (.int y2), .val (.ref xA), .unset, .unset] [(.int y2), (.int y1), (.int ((((p5.toUInt32 >>> ((8 : Int32) &&& 31).toUInt32).toInt32) &&& (255 : Int32)) % (3 : Int32)))])) rfl (by rw [hml]; rfl) (argsL := [(.int ((((p5.toUInt32 >>> ((8 : Int32) &&& 31).toUInt32).toInt32) &&& (255 : Int32)) % (3 : Int32))), (.int y1), (.int y2)]) (rest := []) (lenOf own_pd23 rfl) rfl (by show 2 * 0 + _ ≤ _; exact Nat.le_of_eq rfl) (hb hby at_94) (fun _ _ => ⟨rfl, rfl, (by decide : 0 + 0 + 0 + 0 + 0 + 7 + 7 ≤ _), (by decide : 0 + 0 + 0 + 0 + 0 + 23 + 23 ≤ _)⟩)
      dsimp only [Pt.U, Pt.locs, Pt.cells, Pt.slots] at Y11_ l11_ y11_ z11_ st11_ hQ11_ hSq11_ hgq11_ Cq11_
      subst l11_ y11_ z11_
      obtain ⟨X11_, hS11_, hZ11_, hown11_⟩ := rebS hS5_ ((Nat.le_refl _)) Y11_ hSq11_ hgq11_ hZ5_ hown5_
      obtain ⟨xB, tB, ktB, cdB, NB, vsB, rfl, Nq11_, K11_, r13_, r14_, r15_, r16_, r17_, hcodB⟩ := hQ11_
      have N11_ := Fr.app N5_ Nq11_
      refine own_viaH (fun _ k => st11_.trans k) ?_
      show own_FinH _ _ _ _ _ _ _ _ _ T11_ (mkF m 97 #[.val (.int p1), .val (.int p2), .val (.int p3), .val (.int p4), .val (.int p5), .val (.int ((p5 &&& (255 : Int32)) % (3 : Int32))), .val (.int ((((p5.toUInt32 >>> ((8 : Int32) &&& 31).toUInt32).toInt32) &&& (255 : Int32)) % (3 : Int32))), .val (.int x1), .val (.int x2), .val (.int y1), .val (.int y2), .val (.ref xA), .unset, .unset] [(.ref xB)])
      refine own_viaH (fun _ k => XS.astore X11_.here hx rfl (hb hby at_97) rfl rfl (l' := #[.val (.int p1), .val (.int p2), .val (.int p3), .val (.int p4), .val (.int p5), .val (.int ((p5 &&& (255 : Int32)) % (3 : Int32))), .val (.int ((((p5.toUInt32 >>> ((8 : Int32) &&& 31).toUInt32).toInt32) &&& (255 : Int32)) % (3 : Int32))), .val (.int x1), .val (.int x2), .val (.int y1), .val (.int y2), .val (.ref xA), .val (.ref xB), .unset]) rfl k) ?_
      show own_FinH _ _ _ _ _ _ _ _ _ T11_ (mkF m 99 #[.val (.int p1), .val (.int p2), .val (.int p3), .val (.int p4), .val (.int p5), .val (.int ((p5 &&& (255 : Int32)) % (3 : Int32))), .val (.int ((((p5.toUInt32 >>> ((8 : Int32) &&& 31).toUInt32).toInt32) &&& (255 : Int32)) % (3 : Int32))), .val (.int x1), .val (.int x2), .val (.int y1), .val (.int y2), .val (.ref xA), .val (.ref xB), .unset] [])
      refine own_viaH (fun _ k => XS.iload X11_.here hx rfl (hb hby at_99) rfl k) ?_
      show own_FinH _ _ _ _ _ _ _ _ _ T11_ (mkF m 101 #[.val (.int p1), .val (.int p2), .val (.int p3), .val (.int p4), .val (.int p5), .val (.int ((p5 &&& (255 : Int32)) % (3 : Int32))), .val (.int ((((p5.toUInt32 >>> ((8 : Int32) &&& 31).toUInt32).toInt32) &&& (255 : Int32)) % (3 : Int32))), .val (.int x1), .val (.int x2), .val (.int y1), .val (.int y2), .val (.ref xA), .val (.ref xB), .unset] [(.int ((p5 &&& (255 : Int32)) % (3 : Int32)))])
      refine own_viaH (fun _ k => XS.iload X11_.here hx rfl (hb hby at_101) rfl k) ?_
      show own_FinH _ _ _ _ _ _ _ _ _ T11_ (mkF m 103 #[.val (.int p1), .val (.int p2), .val (.int p3), .val (.int p4), .val (.int p5), .val (.int ((p5 &&& (255 : Int32)) % (3 : Int32))), .val (.int ((((p5.toUInt32 >>> ((8 : Int32) &&& 31).toUInt32).toInt32) &&& (255 : Int32)) % (3 : Int32))), .val (.int x1), .val (.int x2), .val (.int y1), .val (.int y2), .val (.ref xA), .val (.ref xB), .unset] [(.int x1), (.int ((p5 &&& (255 : Int32)) % (3 : Int32)))])
      refine own_viaH (fun _ k => XS.iload X11_.here hx rfl (hb hby at_103) rfl k) ?_
      show own_FinH _ _ _ _ _ _ _ _ _ T11_ (mkF m 105 #[.val (.int p1), .val (.int p2), .val (.int p3), .val (.int p4), .val (.int p5), .val (.int ((p5 &&& (255 : Int32)) % (3 : Int32))), .val (.int ((((p5.toUInt32 >>> ((8 : Int32) &&& 31).toUInt32).toInt32) &&& (255 : Int32)) % (3 : Int32))), .val (.int x1), .val (.int x2), .val (.int y1), .val (.int y2), .val (.ref xA), .val (.ref xB), .unset] [(.int x2), (.int x1), (.int ((p5 &&& (255 : Int32)) % (3 : Int32)))])
      refine own_viaH (fun _ k => XS.iload X11_.here hx rfl (hb hby at_105) rfl k) ?_
      show own_FinH _ _ _ _ _ _ _ _ _ T11_ (mkF m 107 #[.val (.int p1), .val (.int p2), .val (.int p3), .val (.int p4), .val (.int p5), .val (.int ((p5 &&& (255 : Int32)) % (3 : Int32))), .val (.int ((((p5.toUInt32 >>> ((8 : Int32) &&& 31).toUInt32).toInt32) &&& (255 : Int32)) % (3 : Int32))), .val (.int x1), .val (.int x2), .val (.int y1), .val (.int y2), .val (.ref xA), .val (.ref xB), .unset] [(.int ((((p5.toUInt32 >>> ((8 : Int32) &&& 31).toUInt32).toInt32) &&& (255 : Int32)) % (3 : Int32))), (.int x2), (.int x1), (.int ((p5 &&& (255 : Int32)) % (3 : Int32)))])
      refine own_viaH (fun _ k => XS.iload X11_.here hx rfl (hb hby at_107) rfl k) ?_
      show own_FinH _ _ _ _ _ _ _ _ _ T11_ (mkF m 109 #[.val (.int p1), .val (.int p2), .val (.int p3), .val (.int p4), .val (.int p5), .val (.int ((p5 &&& (255 : Int32)) % (3 : Int32))), .val (.int ((((p5.toUInt32 >>> ((8 : Int32) &&& 31).toUInt32).toInt32) &&& (255 : Int32)) % (3 : Int32))), .val (.int x1), .val (.int x2), .val (.int y1), .val (.int y2), .val (.ref xA), .val (.ref xB), .unset] [(.int y1), (.int ((((p5.toUInt32 >>> ((8 : Int32) &&& 31).toUInt32).toInt32) &&& (255 : Int32)) % (3 : Int32))), (.int x2), (.int x1), (.int ((p5 &&& (255 : Int32)) % (3 : Int32)))])
      refine own_viaH (fun _ k => XS.iload X11_.here hx rfl (hb hby at_109) rfl k) ?_
      show own_FinH _ _ _ _ _ _ _ _ _ T11_ (mkF m 111 #[.val (.int p1), .val (.int p2), .val (.int p3), .val (.int p4), .val (.int p5), .val (.int ((p5 &&& (255 : Int32)) % (3 : Int32))), .val (.int ((((p5.toUInt32 >>> ((8 : Int32) &&& 31).toUInt32).toInt32) &&& (255 : Int32)) % (3 : Int32))), .val (.int x1), .val (.int x2), .val (.int y1), .val (.int y2), .val (.ref xA), .val (.ref xB), .unset] [(.int y2), (.int y1), (.int ((((p5.toUInt32 >>> ((8 : Int32) &&& 31).toUInt32).toInt32) &&& (255 : Int32)) % (3 : Int32))), (.int x2), (.int x1), (.int ((p5 &&& (255 : Int32)) % (3 : Int32)))])
      obtain ⟨_, _, ⟨T18_, L18_, k18_, n18_⟩, -, X18_, ⟨Lc18_, hQ18_, l18_, y18_, z18_⟩, st18_⟩ := Jvm.LawKit.callS X11_ hx (y := (⟨"com/example/co_occurrence_ranking/cooccurrenceranking/io/LineReaderCompareFieldsPinLaw", "ref", "(IIIIII)I"⟩ : MethodName)) hown11_ (mvT hZ11_ (hw _ (List.mem_of_getElem? (i := 33) rfl))) (mvT hZ11_ (hw _ (List.mem_of_getElem? (i := 34) rfl))) (mvT hZ11_ (hw _ (List.mem_of_getElem? (i := 2) rfl))) (mvT hZ11_ (hw _ (List.mem_of_getElem? (i := 35) rfl))) (by decide) (backOf (W := 0) (own_rm_ref l Z a0 hw [] ((p5 &&& (255 : Int32)) % (3 : Int32)) x1 x2 ((((p5.toUInt32 >>> ((8 : Int32) &&& 31).toUInt32).toInt32) &&& (255 : Int32)) % (3 : Int32)) y1 y2 T11_.heap n0 (Nat.le_trans Z0 (Nat.le_trans K5_.1 K11_.1)) ) hZ11_ (hw _ (List.mem_of_getElem? (i := 35) rfl)) (hw _ (List.mem_of_getElem? (i := 2) rfl)) (by decide) (by decide)) (g := (mkF m 111 #[.val (.int p1), .val (.int p2), .val (.int p3), .val (.int p4), .val (.int p5), .val (.int ((p5 &&& (255 : Int32)) % (3 : Int32))), .val (.int ((((p5.toUInt32 >>> ((8 : Int32) &&& 31).toUInt32).toInt32) &&& (255 : Int32)) % (3 : Int32))), .val (.int x1), .val (.int x2), .val (.int y1), .val (.int y2), .val (.ref xA), .val (.ref xB), .unset] [(.int y2), (.int y1), (.int ((((p5.toUInt32 >>> ((8 : Int32) &&& 31).toUInt32).toInt32) &&& (255 : Int32)) % (3 : Int32))), (.int x2), (.int x1), (.int ((p5 &&& (255 : Int32)) % (3 : Int32)))])) rfl (by rw [hml]; rfl) (argsL := [(.int ((p5 &&& (255 : Int32)) % (3 : Int32))), (.int x1), (.int x2), (.int ((((p5.toUInt32 >>> ((8 : Int32) &&& 31).toUInt32).toInt32) &&& (255 : Int32)) % (3 : Int32))), (.int y1), (.int y2)]) (rest := []) (lenOf own_pd24 rfl) rfl (by show 2 * 0 + _ ≤ _; exact Nat.le_of_eq rfl) (hb hby at_111) (fun _ _ => ⟨rfl, rfl, (by decide : 0 + 0 + 0 + 0 + 0 + 7 + 7 + 0 ≤ _), (by decide : 0 + 0 + 0 + 0 + 0 + 23 + 23 + 0 ≤ _)⟩)
      dsimp only [Pt.U, Pt.locs, Pt.cells, Pt.slots] at X18_ l18_ y18_ z18_ st18_ hQ18_
      subst l18_ y18_ z18_
      obtain ⟨rr, rfl, Nq18_, hh18_, hrr⟩ := hQ18_
      have N18_ := Fr.app N11_ Nq18_
      refine own_viaH (fun _ k => st18_ _ k) ?_
      show own_FinH _ _ _ _ _ _ _ _ _ T18_ (mkF m 114 #[.val (.int p1), .val (.int p2), .val (.int p3), .val (.int p4), .val (.int p5), .val (.int ((p5 &&& (255 : Int32)) % (3 : Int32))), .val (.int ((((p5.toUInt32 >>> ((8 : Int32) &&& 31).toUInt32).toInt32) &&& (255 : Int32)) % (3 : Int32))), .val (.int x1), .val (.int x2), .val (.int y1), .val (.int y2), .val (.ref xA), .val (.ref xB), .unset] [(.int rr)])
      refine own_viaH (fun _ k => XS.istore X18_.here hx rfl (hb hby at_114) rfl (l' := #[.val (.int p1), .val (.int p2), .val (.int p3), .val (.int p4), .val (.int p5), .val (.int ((p5 &&& (255 : Int32)) % (3 : Int32))), .val (.int ((((p5.toUInt32 >>> ((8 : Int32) &&& 31).toUInt32).toInt32) &&& (255 : Int32)) % (3 : Int32))), .val (.int x1), .val (.int x2), .val (.int y1), .val (.int y2), .val (.ref xA), .val (.ref xB), .val (.int rr)]) rfl k) ?_
      show own_FinH _ _ _ _ _ _ _ _ _ T18_ (mkF m 116 #[.val (.int p1), .val (.int p2), .val (.int p3), .val (.int p4), .val (.int p5), .val (.int ((p5 &&& (255 : Int32)) % (3 : Int32))), .val (.int ((((p5.toUInt32 >>> ((8 : Int32) &&& 31).toUInt32).toInt32) &&& (255 : Int32)) % (3 : Int32))), .val (.int x1), .val (.int x2), .val (.int y1), .val (.int y2), .val (.ref xA), .val (.ref xB), .val (.int rr)] [])
      refine own_viaH (fun _ k => XS.aload X18_.here hx rfl (hb hby at_116) rfl rfl k) ?_
      show own_FinH _ _ _ _ _ _ _ _ _ T18_ (mkF m 118 #[.val (.int p1), .val (.int p2), .val (.int p3), .val (.int p4), .val (.int p5), .val (.int ((p5 &&& (255 : Int32)) % (3 : Int32))), .val (.int ((((p5.toUInt32 >>> ((8 : Int32) &&& 31).toUInt32).toInt32) &&& (255 : Int32)) % (3 : Int32))), .val (.int x1), .val (.int x2), .val (.int y1), .val (.int y2), .val (.ref xA), .val (.ref xB), .val (.int rr)] [(.ref xA)])
      refine own_viaH (fun _ k => XS.aload X18_.here hx rfl (hb hby at_118) rfl rfl k) ?_
      show own_FinH _ _ _ _ _ _ _ _ _ T18_ (mkF m 120 #[.val (.int p1), .val (.int p2), .val (.int p3), .val (.int p4), .val (.int p5), .val (.int ((p5 &&& (255 : Int32)) % (3 : Int32))), .val (.int ((((p5.toUInt32 >>> ((8 : Int32) &&& 31).toUInt32).toInt32) &&& (255 : Int32)) % (3 : Int32))), .val (.int x1), .val (.int x2), .val (.int y1), .val (.int y2), .val (.ref xA), .val (.ref xB), .val (.int rr)] [(.ref xB), (.ref xA)])
      obtain ⟨_, _, ⟨T19_, L19_, k19_, n19_⟩, -, X19_, ⟨Lc19_, hQ19_, l19_, y19_, z19_⟩, st19_⟩ := Jvm.LawKit.callS X18_ hx (y := (⟨"com/example/co_occurrence_ranking/cooccurrenceranking/io/LineReader", "compareFields", "(Ljava/lang/String;Ljava/lang/String;)I"⟩ : MethodName)) hown11_ (mvT hZ11_ (hw _ (List.mem_of_getElem? (i := 39) rfl))) (mvT hZ11_ (hw _ (List.mem_of_getElem? (i := 40) rfl))) (mvT hZ11_ (hw _ (List.mem_of_getElem? (i := 41) rfl))) (mvT hZ11_ (hw _ (List.mem_of_getElem? (i := 42) rfl))) (by decide) (backOf (W := 0) (own_rm_cmpF l Z a0 hw [] xA cz tA ktA cdA NA vsA (own_units ((p5 &&& (255 : Int32)) % (3 : Int32)) x1 x2) fm xB tB ktB cdB NB vsB (own_units ((((p5.toUInt32 >>> ((8 : Int32) &&& 31).toUInt32).toInt32) &&& (255 : Int32)) % (3 : Int32)) y1 y2) T11_.heap n0 (Nat.le_trans Z0 (Nat.le_trans K5_.1 K11_.1)) ((O0.keep K5_ all0).keep K11_ all0) S1 (by first | assumption | decide) S2 r_fm S3 S4 S5 (r7_.keep K11_) (r8_.keep K11_ nin0) (r9_.keep K11_ nin0) (r10_.keep K11_ nin0) hcodA (own_ulen _ _ _) (own_uchs (own_n03 _) hx1 hx2) r14_ r15_ r16_ r17_ hcodB (own_ulen _ _ _) (own_uchs (own_n03 _) hy1 hy2)) hZ11_ (hw _ (List.mem_of_getElem? (i := 42) rfl)) (hw _ (List.mem_of_getElem? (i := 41) rfl)) (by decide) (by decide)) (g := (mkF m 120 #[.val (.int p1), .val (.int p2), .val (.int p3), .val (.int p4), .val (.int p5), .val (.int ((p5 &&& (255 : Int32)) % (3 : Int32))), .val (.int ((((p5.toUInt32 >>> ((8 : Int32) &&& 31).toUInt32).toInt32) &&& (255 : Int32)) % (3 : Int32))), .val (.int x1), .val (.int x2), .val (.int y1), .val (.int y2), .val (.ref xA), .val (.ref xB), .val (.int rr)] [(.ref xB), (.ref xA)])) rfl (by rw [hml]; rfl) (argsL := [(.ref xA), (.ref xB)]) (rest := []) (lenOf own_pd25 rfl) rfl (by show 2 * 0 + _ ≤ _; exact Nat.le_of_eq rfl) (hb hby at_120) (fun _ _ => ⟨rfl, hh18_, (by decide : 0 + 0 + 0 + 0 + 0 + 7 + 7 + 0 + 0 ≤ _), (by decide : 0 + 0 + 0 + 0 + 0 + 23 + 23 + 0 + 0 ≤ _)⟩)
      dsimp only [Pt.U, Pt.locs, Pt.cells, Pt.slots] at X19_ l19_ y19_ z19_ st19_ hQ19_
      subst l19_ y19_ z19_
      obtain ⟨rc, rfl, Nq19_, hh19_, hrc⟩ := hQ19_
      have N19_ := Fr.app N18_ Nq19_
      refine own_viaH (fun _ k => st19_ _ k) ?_
      show own_FinH _ _ _ _ _ _ _ _ _ T19_ (mkF m 123 #[.val (.int p1), .val (.int p2), .val (.int p3), .val (.int p4), .val (.int p5), .val (.int ((p5 &&& (255 : Int32)) % (3 : Int32))), .val (.int ((((p5.toUInt32 >>> ((8 : Int32) &&& 31).toUInt32).toInt32) &&& (255 : Int32)) % (3 : Int32))), .val (.int x1), .val (.int x2), .val (.int y1), .val (.int y2), .val (.ref xA), .val (.ref xB), .val (.int rr)] [(.int rc)])
      obtain ⟨_, _, ⟨T20_, L20_, k20_, n20_⟩, -, X20_, ⟨Lc20_, hQ20_, l20_, y20_, z20_⟩, st20_⟩ := Jvm.LawKit.callS X19_ hx (y := (⟨"com/example/co_occurrence_ranking/cooccurrenceranking/io/LineReaderCompareFieldsPinLaw", "sgn", "(I)I"⟩ : MethodName)) hown11_ (mvT hZ11_ (hw _ (List.mem_of_getElem? (i := 62) rfl))) (mvT hZ11_ (hw _ (List.mem_of_getElem? (i := 63) rfl))) (mvT hZ11_ (hw _ (List.mem_of_getElem? (i := 2) rfl))) (mvT hZ11_ (hw _ (List.mem_of_getElem? (i := 64) rfl))) (by decide) (backOf (W := 0) (own_rm_sgn l Z a0 hw [] rc T11_.heap n0 (Nat.le_trans Z0 (Nat.le_trans K5_.1 K11_.1)) ) hZ11_ (hw _ (List.mem_of_getElem? (i := 64) rfl)) (hw _ (List.mem_of_getElem? (i := 2) rfl)) (by decide) (by decide)) (g := (mkF m 123 #[.val (.int p1), .val (.int p2), .val (.int p3), .val (.int p4), .val (.int p5), .val (.int ((p5 &&& (255 : Int32)) % (3 : Int32))), .val (.int ((((p5.toUInt32 >>> ((8 : Int32) &&& 31).toUInt32).toInt32) &&& (255 : Int32)) % (3 : Int32))), .val (.int x1), .val (.int x2), .val (.int y1), .val (.int y2), .val (.ref xA), .val (.ref xB), .val (.int rr)] [(.int rc)])) rfl (by rw [hml]; rfl) (argsL := [(.int rc)]) (rest := []) (lenOf own_pd7 rfl) rfl (by show 2 * 0 + _ ≤ _; exact Nat.le_of_eq rfl) (hb hby at_123) (fun _ _ => ⟨rfl, hh19_, (by decide : 0 + 0 + 0 + 0 + 0 + 7 + 7 + 0 + 0 + 0 ≤ _), (by decide : 0 + 0 + 0 + 0 + 0 + 23 + 23 + 0 + 0 + 0 ≤ _)⟩)
      dsimp only [Pt.U, Pt.locs, Pt.cells, Pt.slots] at X20_ l20_ y20_ z20_ st20_ hQ20_
      subst l20_ y20_ z20_
      obtain ⟨rs, rfl, Nq20_, hh20_, hrs⟩ := hQ20_
      have N20_ := Fr.app N19_ Nq20_
      refine own_viaH (fun _ k => st20_ _ k) ?_
      show own_FinH _ _ _ _ _ _ _ _ _ T20_ (mkF m 126 #[.val (.int p1), .val (.int p2), .val (.int p3), .val (.int p4), .val (.int p5), .val (.int ((p5 &&& (255 : Int32)) % (3 : Int32))), .val (.int ((((p5.toUInt32 >>> ((8 : Int32) &&& 31).toUInt32).toInt32) &&& (255 : Int32)) % (3 : Int32))), .val (.int x1), .val (.int x2), .val (.int y1), .val (.int y2), .val (.ref xA), .val (.ref xB), .val (.int rr)] [(.int rs)])
      refine own_viaH (fun _ k => XS.iload X20_.here hx rfl (hb hby at_126) rfl k) ?_
      show own_FinH _ _ _ _ _ _ _ _ _ T20_ (mkF m 128 #[.val (.int p1), .val (.int p2), .val (.int p3), .val (.int p4), .val (.int p5), .val (.int ((p5 &&& (255 : Int32)) % (3 : Int32))), .val (.int ((((p5.toUInt32 >>> ((8 : Int32) &&& 31).toUInt32).toInt32) &&& (255 : Int32)) % (3 : Int32))), .val (.int x1), .val (.int x2), .val (.int y1), .val (.int y2), .val (.ref xA), .val (.ref xB), .val (.int rr)] [(.int rr), (.int rs)])
      refine own_viaH (fun _ k => XS.icmpNo X20_.here hx rfl (hb hby at_128) rfl (teq (own_final (own_n03 _) (own_n03 _) hx1 hx2 hy1 hy2 hrc hrr hrs)).2 k) ?_
      show own_FinH _ _ _ _ _ _ _ _ _ T20_ (mkF m 131 #[.val (.int p1), .val (.int p2), .val (.int p3), .val (.int p4), .val (.int p5), .val (.int ((p5 &&& (255 : Int32)) % (3 : Int32))), .val (.int ((((p5.toUInt32 >>> ((8 : Int32) &&& 31).toUInt32).toInt32) &&& (255 : Int32)) % (3 : Int32))), .val (.int x1), .val (.int x2), .val (.int y1), .val (.int y2), .val (.ref xA), .val (.ref xB), .val (.int rr)] [])
      refine own_viaH (fun _ k => XS.iconst X20_.here hx rfl (hb hby at_131) k) ?_
      show own_FinH _ _ _ _ _ _ _ _ _ T20_ (mkF m 132 #[.val (.int p1), .val (.int p2), .val (.int p3), .val (.int p4), .val (.int p5), .val (.int ((p5 &&& (255 : Int32)) % (3 : Int32))), .val (.int ((((p5.toUInt32 >>> ((8 : Int32) &&& 31).toUInt32).toInt32) &&& (255 : Int32)) % (3 : Int32))), .val (.int x1), .val (.int x2), .val (.int y1), .val (.int y2), .val (.ref xA), .val (.ref xB), .val (.int rr)] [(.int (1 : Int32))])
      refine own_viaH (fun _ k => XS.goto X20_.here hx rfl (pc0 := 132) (pc' := 136) rfl (hb hby at_132) (by decide) (by decide) k) ?_
      show own_FinH _ _ _ _ _ _ _ _ _ T20_ (mkF m 136 #[.val (.int p1), .val (.int p2), .val (.int p3), .val (.int p4), .val (.int p5), .val (.int ((p5 &&& (255 : Int32)) % (3 : Int32))), .val (.int ((((p5.toUInt32 >>> ((8 : Int32) &&& 31).toUInt32).toInt32) &&& (255 : Int32)) % (3 : Int32))), .val (.int x1), .val (.int x2), .val (.int y1), .val (.int y2), .val (.ref xA), .val (.ref xB), .val (.int rr)] [(.int (1 : Int32))])
      have C21_ := C12_.trans Cq11_
      have H21_ := C21_.1
      exact own_retNH X20_ hx (t := .boolean) Bd.returns Bd.notSynchronized (own_ew hw) hZ11_ hS11_ (Nat.le_refl _) hh C21_ (by simp) (hb hby at_136) hh20_ rfl ⟨rfl, N20_⟩ (by decide) (by decide)
    · refine own_viaH (fun _ k => XS.ifNo X3_.here hx rfl (hb hby at_63) rfl ((if0 _ _).trans (feq hB).1) k) ?_
      show own_FinH _ _ _ _ _ _ _ _ _ T3_ (mkF m 66 #[.val (.int p1), .val (.int p2), .val (.int p3), .val (.int p4), .val (.int p5), .val (.int ((p5 &&& (255 : Int32)) % (3 : Int32))), .val (.int ((((p5.toUInt32 >>> ((8 : Int32) &&& 31).toUInt32).toInt32) &&& (255 : Int32)) % (3 : Int32))), .val (.int x1), .val (.int x2), .val (.int y1), .unset, .unset, .unset, .unset] [])
      refine own_viaH (fun _ k => XS.iload X3_.here hx rfl (hb hby at_66) rfl k) ?_
      show own_FinH _ _ _ _ _ _ _ _ _ T3_ (mkF m 68 #[.val (.int p1), .val (.int p2), .val (.int p3), .val (.int p4), .val (.int p5), .val (.int ((p5 &&& (255 : Int32)) % (3 : Int32))), .val (.int ((((p5.toUInt32 >>> ((8 : Int32) &&& 31).toUInt32).toInt32) &&& (255 : Int32)) % (3 : Int32))), .val (.int x1), .val (.int x2), .val (.int y1), .unset, .unset, .unset, .unset] [(.int x2)])
      refine own_viaH (fun _ k => XS.goto X3_.here hx rfl (pc0 := 68) (pc' := 75) rfl (hb hby at_68) (by decide) (by decide) k) ?_
      show own_FinH _ _ _ _ _ _ _ _ _ T3_ (mkF m 75 #[.val (.int p1), .val (.int p2), .val (.int p3), .val (.int p4), .val (.int p5), .val (.int ((p5 &&& (255 : Int32)) % (3 : Int32))), .val (.int ((((p5.toUInt32 >>> ((8 : Int32) &&& 31).toUInt32).toInt32) &&& (255 : Int32)) % (3 : Int32))), .val (.int x1), .val (.int x2), .val (.int y1), .unset, .unset, .unset, .unset] [(.int x2)])
      refine own_viaH (fun _ k => XS.istore X3_.here hx rfl (hb hby at_75) rfl (l' := #[.val (.int p1), .val (.int p2), .val (.int p3), .val (.int p4), .val (.int p5), .val (.int ((p5 &&& (255 : Int32)) % (3 : Int32))), .val (.int ((((p5.toUInt32 >>> ((8 : Int32) &&& 31).toUInt32).toInt32) &&& (255 : Int32)) % (3 : Int32))), .val (.int x1), .val (.int x2), .val (.int y1), .val (.int x2), .unset, .unset, .unset]) rfl k) ?_
      show own_FinH _ _ _ _ _ _ _ _ _ T3_ (mkF m 77 #[.val (.int p1), .val (.int p2), .val (.int p3), .val (.int p4), .val (.int p5), .val (.int ((p5 &&& (255 : Int32)) % (3 : Int32))), .val (.int ((((p5.toUInt32 >>> ((8 : Int32) &&& 31).toUInt32).toInt32) &&& (255 : Int32)) % (3 : Int32))), .val (.int x1), .val (.int x2), .val (.int y1), .val (.int x2), .unset, .unset, .unset] [])
      refine own_viaH (fun _ k => XS.iload X3_.here hx rfl (hb hby at_77) rfl k) ?_
      show own_FinH _ _ _ _ _ _ _ _ _ T3_ (mkF m 79 #[.val (.int p1), .val (.int p2), .val (.int p3), .val (.int p4), .val (.int p5), .val (.int ((p5 &&& (255 : Int32)) % (3 : Int32))), .val (.int ((((p5.toUInt32 >>> ((8 : Int32) &&& 31).toUInt32).toInt32) &&& (255 : Int32)) % (3 : Int32))), .val (.int x1), .val (.int x2), .val (.int y1), .val (.int x2), .unset, .unset, .unset] [(.int ((p5 &&& (255 : Int32)) % (3 : Int32)))])
      refine own_viaH (fun _ k => XS.iload X3_.here hx rfl (hb hby at_79) rfl k) ?_
      show own_FinH _ _ _ _ _ _ _ _ _ T3_ (mkF m 81 #[.val (.int p1), .val (.int p2), .val (.int p3), .val (.int p4), .val (.int p5), .val (.int ((p5 &&& (255 : Int32)) % (3 : Int32))), .val (.int ((((p5.toUInt32 >>> ((8 : Int32) &&& 31).toUInt32).toInt32) &&& (255 : Int32)) % (3 : Int32))), .val (.int x1), .val (.int x2), .val (.int y1), .val (.int x2), .unset, .unset, .unset] [(.int x1), (.int ((p5 &&& (255 : Int32)) % (3 : Int32)))])
      refine own_viaH (fun _ k => XS.iload X3_.here hx rfl (hb hby at_81) rfl k) ?_
      show own_FinH _ _ _ _ _ _ _ _ _ T3_ (mkF m 83 #[.val (.int p1), .val (.int p2), .val (.int p3), .val (.int p4), .val (.int p5), .val (.int ((p5 &&& (255 : Int32)) % (3 : Int32))), .val (.int ((((p5.toUInt32 >>> ((8 : Int32) &&& 31).toUInt32).toInt32) &&& (255 : Int32)) % (3 : Int32))), .val (.int x1), .val (.int x2), .val (.int y1), .val (.int x2), .unset, .unset, .unset] [(.int x2), (.int x1), (.int ((p5 &&& (255 : Int32)) % (3 : Int32)))])
      obtain ⟨_, _, ⟨T22_, L22_, k22_, n22_⟩, -, Y22_, hSq22_, hgq22_, ⟨Lc22_, hQ22_, l22_, y22_, z22_, Cq22_⟩, st22_⟩ := callSS X3_ hx (y := (⟨"com/example/co_occurrence_ranking/cooccurrenceranking/io/LineReaderCompareFieldsPinLaw", "str", "(III)Ljava/lang/String;"⟩ : MethodName)) hown (mvT hZ (hw _ (List.mem_of_getElem? (i := 8) rfl))) (mvT hZ (hw _ (List.mem_of_getElem? (i := 9) rfl))) (mvT hZ (hw _ (List.mem_of_getElem? (i := 2) rfl))) (mvT hZ (hw _ (List.mem_of_getElem? (i := 10) rfl))) (by decide) (backOfSH (s := s) (vm0 := s.vm) (W := 0) (own_rm_str l Z a0 hw [] ((p5 &&& (255 : Int32)) % (3 : Int32)) x1 x2 cz h0 n0 Z0 O0 S1 (by first | assumption | decide) S3 S4 S5 (own_n03 _) hx1 hx2) hZ (hw _ (List.mem_of_getElem? (i := 10) rfl)) (hw _ (List.mem_of_getElem? (i := 2) rfl)) (by decide) (by decide) (own_ew hw) H0) (g := (mkF m 83 #[.val (.int p1), .val (.int p2), .val (.int p3), .val (.int p4), .val (.int p5), .val (.int ((p5 &&& (255 : Int32)) % (3 : Int32))), .val (.int ((((p5.toUInt32 >>> ((8 : Int32) &&& 31).toUInt32).toInt32) &&& (255 : Int32)) % (3 : Int32))), .val (.int x1), .val (.int x2), .val (.int y1), .val (.int x2), .unset, .unset, .unset] [(.int x2), (.int x1), (.int ((p5 &&& (255 : Int32)) % (3 : Int32)))])) rfl (by rw [hml]; rfl) (argsL := [(.int ((p5 &&& (255 : Int32)) % (3 : Int32))), (.int x1), (.int x2)]) (rest := []) (lenOf own_pd23 rfl) rfl (by show 2 * 0 + _ ≤ _; exact Nat.le_of_eq rfl) (hb hby at_83) (fun _ _ => ⟨rfl, hh3_, (by decide : 0 + 0 + 0 + 0 + 7 ≤ _), (by decide : 0 + 0 + 0 + 0 + 23 ≤ _)⟩)
      dsimp only [Pt.U, Pt.locs, Pt.cells, Pt.slots] at Y22_ l22_ y22_ z22_ st22_ hQ22_ hSq22_ hgq22_ Cq22_
      subst l22_ y22_ z22_
      obtain ⟨X22_, hS22_, hZ22_, hown22_⟩ := rebS hS0 (by rw [hh3_]; exact hk0) Y22_ hSq22_ hgq22_ hZ hown
      obtain ⟨xA, tA, ktA, cdA, NA, vsA, rfl, Nq22_, K22_, r23_, r24_, r25_, r26_, r27_, hcodA⟩ := hQ22_
      have N22_ := Fr.app N3_ Nq22_
      refine own_viaH (fun _ k => st22_.trans k) ?_
      show own_FinH _ _ _ _ _ _ _ _ _ T22_ (mkF m 86 #[.val (.int p1), .val (.int p2), .val (.int p3), .val (.int p4), .val (.int p5), .val (.int ((p5 &&& (255 : Int32)) % (3 : Int32))), .val (.int ((((p5.toUInt32 >>> ((8 : Int32) &&& 31).toUInt32).toInt32) &&& (255 : Int32)) % (3 : Int32))), .val (.int x1), .val (.int x2), .val (.int y1), .val (.int x2), .unset, .unset, .unset] [(.ref xA)])
      refine own_viaH (fun _ k => XS.astore X22_.here hx rfl (hb hby at_86) rfl rfl (l' := #[.val (.int p1), .val (.int p2), .val (.int p3), .val (.int p4), .val (.int p5), .val (.int ((p5 &&& (255 : Int32)) % (3 : Int32))), .val (.int ((((p5.toUInt32 >>> ((8 : Int32) &&& 31).toUInt32).toInt32) &&& (255 : Int32)) % (3 : Int32))), .val (.int x1), .val (.int x2), .val (.int y1), .val (.int x2), .val (.ref xA), .unset, .unset]) rfl k) ?_
      show own_FinH _ _ _ _ _ _ _ _ _ T22_ (mkF m 88 #[.val (.int p1), .val (.int p2), .val (.int p3), .val (.int p4), .val (.int p5), .val (.int ((p5 &&& (255 : Int32)) % (3 : Int32))), .val (.int ((((p5.toUInt32 >>> ((8 : Int32) &&& 31).toUInt32).toInt32) &&& (255 : Int32)) % (3 : Int32))), .val (.int x1), .val (.int x2), .val (.int y1), .val (.int x2), .val (.ref xA), .unset, .unset] [])
      refine own_viaH (fun _ k => XS.iload X22_.here hx rfl (hb hby at_88) rfl k) ?_
      show own_FinH _ _ _ _ _ _ _ _ _ T22_ (mkF m 90 #[.val (.int p1), .val (.int p2), .val (.int p3), .val (.int p4), .val (.int p5), .val (.int ((p5 &&& (255 : Int32)) % (3 : Int32))), .val (.int ((((p5.toUInt32 >>> ((8 : Int32) &&& 31).toUInt32).toInt32) &&& (255 : Int32)) % (3 : Int32))), .val (.int x1), .val (.int x2), .val (.int y1), .val (.int x2), .val (.ref xA), .unset, .unset] [(.int ((((p5.toUInt32 >>> ((8 : Int32) &&& 31).toUInt32).toInt32) &&& (255 : Int32)) % (3 : Int32)))])
      refine own_viaH (fun _ k => XS.iload X22_.here hx rfl (hb hby at_90) rfl k) ?_
      show own_FinH _ _ _ _ _ _ _ _ _ T22_ (mkF m 92 #[.val (.int p1), .val (.int p2), .val (.int p3), .val (.int p4), .val (.int p5), .val (.int ((p5 &&& (255 : Int32)) % (3 : Int32))), .val (.int ((((p5.toUInt32 >>> ((8 : Int32) &&& 31).toUInt32).toInt32) &&& (255 : Int32)) % (3 : Int32))), .val (.int x1), .val (.int x2), .val (.int y1), .val (.int x2), .val (.ref xA), .unset, .unset] [(.int y1), (.int ((((p5.toUInt32 >>> ((8 : Int32) &&& 31).toUInt32).toInt32) &&& (255 : Int32)) % (3 : Int32)))])
      refine own_viaH (fun _ k => XS.iload X22_.here hx rfl (hb hby at_92) rfl k) ?_
      show own_FinH _ _ _ _ _ _ _ _ _ T22_ (mkF m 94 #[.val (.int p1), .val (.int p2), .val (.int p3), .val (.int p4), .val (.int p5), .val (.int ((p5 &&& (255 : Int32)) % (3 : Int32))), .val (.int ((((p5.toUInt32 >>> ((8 : Int32) &&& 31).toUInt32).toInt32) &&& (255 : Int32)) % (3 : Int32))), .val (.int x1), .val (.int x2), .val (.int y1), .val (.int x2), .val (.ref xA), .unset, .unset] [(.int x2), (.int y1), (.int ((((p5.toUInt32 >>> ((8 : Int32) &&& 31).toUInt32).toInt32) &&& (255 : Int32)) % (3 : Int32)))])
      have C29_ := C0.trans Cq22_
      have H29_ := C29_.1
      obtain ⟨_, _, ⟨T28_, L28_, k28_, n28_⟩, -, Y28_, hSq28_, hgq28_, ⟨Lc28_, hQ28_, l28_, y28_, z28_, Cq28_⟩, st28_⟩ := callSS X22_ hx (y := (⟨"com/example/co_occurrence_ranking/cooccurrenceranking/io/LineReaderCompareFieldsPinLaw", "str", "(III)Ljava/lang/String;"⟩ : MethodName)) hown22_ (mvT hZ22_ (hw _ (List.mem_of_getElem? (i := 8) rfl))) (mvT hZ22_ (hw _ (List.mem_of_getElem? (i := 9) rfl))) (mvT hZ22_ (hw _ (List.mem_of_getElem? (i := 2) rfl))) (mvT hZ22_ (hw _ (List.mem_of_getElem? (i := 10) rfl))) (by decide) (backOfSH (s := s) (vm0 := T22_.vm) (W := 0) (own_rm_str l Z a0 hw [] ((((p5.toUInt32 >>> ((8 : Int32) &&& 31).toUInt32).toInt32) &&& (255 : Int32)) % (3 : Int32)) y1 x2 cz T22_.heap n0 (Nat.le_trans Z0 K22_.1) (O0.keep K22_ all0) S1 (by first | assumption | decide) S3 S4 S5 (own_n03 _) hy1 hx2) hZ22_ (hw _ (List.mem_of_getElem? (i := 10) rfl)) (hw _ (List.mem_of_getElem? (i := 2) rfl)) (by decide) (by decide) (own_ew hw) H29_) (g := (mkF m 94 #[.val (.int p1), .val (.int p2), .val (.int p3), .val (.int p4), .val (.int p5), .val (.int ((p5 &&& (255 : Int32)) % (3 : Int32))), .val (.int ((((p5.toUInt32 >>> ((8 : Int32) &&& 31).toUInt32).toInt32) &&& (255 : Int32)) % (3 : Int32))), .val (.int x1), .val (.int x2), .val (.int y1), .val (.int x2), .val (.ref xA), .unset, .unset] [(.int x2), (.int y1), (.int ((((p5.toUInt32 >>> ((8 : Int32) &&& 31).toUInt32).toInt32) &&& (255 : Int32)) % (3 : Int32)))])) rfl (by rw [hml]; rfl) (argsL := [(.int ((((p5.toUInt32 >>> ((8 : Int32) &&& 31).toUInt32).toInt32) &&& (255 : Int32)) % (3 : Int32))), (.int y1), (.int x2)]) (rest := []) (lenOf own_pd23 rfl) rfl (by show 2 * 0 + _ ≤ _; exact Nat.le_of_eq rfl) (hb hby at_94) (fun _ _ => ⟨rfl, rfl, (by decide : 0 + 0 + 0 + 0 + 7 + 7 ≤ _), (by decide : 0 + 0 + 0 + 0 + 23 + 23 ≤ _)⟩)
      dsimp only [Pt.U, Pt.locs, Pt.cells, Pt.slots] at Y28_ l28_ y28_ z28_ st28_ hQ28_ hSq28_ hgq28_ Cq28_
      subst l28_ y28_ z28_
      obtain ⟨X28_, hS28_, hZ28_, hown28_⟩ := rebS hS22_ ((Nat.le_refl _)) Y28_ hSq28_ hgq28_ hZ22_ hown22_
      obtain ⟨xB, tB, ktB, cdB, NB, vsB, rfl, Nq28_, K28_, r30_, r31_, r32_, r33_, r34_, hcodB⟩ := hQ28_
      have N28_ := Fr.app N22_ Nq28_
      refine own_viaH (fun _ k => st28_.trans k) ?_
      show own_FinH _ _ _ _ _ _ _ _ _ T28_ (mkF m 97 #[.val (.int p1), .val (.int p2), .val (.int p3), .val (.int p4), .val (.int p5), .val (.int ((p5 &&& (255 : Int32)) % (3 : Int32))), .val (.int ((((p5.toUInt32 >>> ((8 : Int32) &&& 31).toUInt32).toInt32) &&& (255 : Int32)) % (3 : Int32))), .val (.int x1), .val (.int x2), .val (.int y1), .val (.int x2), .val (.ref xA), .unset, .unset] [(.ref xB)])
      refine own_viaH (fun _ k => XS.astore X28_.here hx rfl (hb hby at_97) rfl rfl (l' := #[.val (.int p1), .val (.int p2), .val (.int p3), .val (.int p4), .val (.int p5), .val (.int ((p5 &&& (255 : Int32)) % (3 : Int32))), .val (.int ((((p5.toUInt32 >>> ((8 : Int32) &&& 31).toUInt32).toInt32) &&& (255 : Int32)) % (3 : Int32))), .val (.int x1), .val (.int x2), .val (.int y1), .val (.int x2), .val (.ref xA), .val (.ref xB), .unset]) rfl k) ?_
      show own_FinH _ _ _ _ _ _ _ _ _ T28_ (mkF m 99 #[.val (.int p1), .val (.int p2), .val (.int p3), .val (.int p4), .val (.int p5), .val (.int ((p5 &&& (255 : Int32)) % (3 : Int32))), .val (.int ((((p5.toUInt32 >>> ((8 : Int32) &&& 31).toUInt32).toInt32) &&& (255 : Int32)) % (3 : Int32))), .val (.int x1), .val (.int x2), .val (.int y1), .val (.int x2), .val (.ref xA), .val (.ref xB), .unset] [])
      refine own_viaH (fun _ k => XS.iload X28_.here hx rfl (hb hby at_99) rfl k) ?_
      show own_FinH _ _ _ _ _ _ _ _ _ T28_ (mkF m 101 #[.val (.int p1), .val (.int p2), .val (.int p3), .val (.int p4), .val (.int p5), .val (.int ((p5 &&& (255 : Int32)) % (3 : Int32))), .val (.int ((((p5.toUInt32 >>> ((8 : Int32) &&& 31).toUInt32).toInt32) &&& (255 : Int32)) % (3 : Int32))), .val (.int x1), .val (.int x2), .val (.int y1), .val (.int x2), .val (.ref xA), .val (.ref xB), .unset] [(.int ((p5 &&& (255 : Int32)) % (3 : Int32)))])
      refine own_viaH (fun _ k => XS.iload X28_.here hx rfl (hb hby at_101) rfl k) ?_
      show own_FinH _ _ _ _ _ _ _ _ _ T28_ (mkF m 103 #[.val (.int p1), .val (.int p2), .val (.int p3), .val (.int p4), .val (.int p5), .val (.int ((p5 &&& (255 : Int32)) % (3 : Int32))), .val (.int ((((p5.toUInt32 >>> ((8 : Int32) &&& 31).toUInt32).toInt32) &&& (255 : Int32)) % (3 : Int32))), .val (.int x1), .val (.int x2), .val (.int y1), .val (.int x2), .val (.ref xA), .val (.ref xB), .unset] [(.int x1), (.int ((p5 &&& (255 : Int32)) % (3 : Int32)))])
      refine own_viaH (fun _ k => XS.iload X28_.here hx rfl (hb hby at_103) rfl k) ?_
      show own_FinH _ _ _ _ _ _ _ _ _ T28_ (mkF m 105 #[.val (.int p1), .val (.int p2), .val (.int p3), .val (.int p4), .val (.int p5), .val (.int ((p5 &&& (255 : Int32)) % (3 : Int32))), .val (.int ((((p5.toUInt32 >>> ((8 : Int32) &&& 31).toUInt32).toInt32) &&& (255 : Int32)) % (3 : Int32))), .val (.int x1), .val (.int x2), .val (.int y1), .val (.int x2), .val (.ref xA), .val (.ref xB), .unset] [(.int x2), (.int x1), (.int ((p5 &&& (255 : Int32)) % (3 : Int32)))])
      refine own_viaH (fun _ k => XS.iload X28_.here hx rfl (hb hby at_105) rfl k) ?_
      show own_FinH _ _ _ _ _ _ _ _ _ T28_ (mkF m 107 #[.val (.int p1), .val (.int p2), .val (.int p3), .val (.int p4), .val (.int p5), .val (.int ((p5 &&& (255 : Int32)) % (3 : Int32))), .val (.int ((((p5.toUInt32 >>> ((8 : Int32) &&& 31).toUInt32).toInt32) &&& (255 : Int32)) % (3 : Int32))), .val (.int x1), .val (.int x2), .val (.int y1), .val (.int x2), .val (.ref xA), .val (.ref xB), .unset] [(.int ((((p5.toUInt32 >>> ((8 : Int32) &&& 31).toUInt32).toInt32) &&& (255 : Int32)) % (3 : Int32))), (.int x2), (.int x1), (.int ((p5 &&& (255 : Int32)) % (3 : Int32)))])
      refine own_viaH (fun _ k => XS.iload X28_.here hx rfl (hb hby at_107) rfl k) ?_
      show own_FinH _ _ _ _ _ _ _ _ _ T28_ (mkF m 109 #[.val (.int p1), .val (.int p2), .val (.int p3), .val (.int p4), .val (.int p5), .val (.int ((p5 &&& (255 : Int32)) % (3 : Int32))), .val (.int ((((p5.toUInt32 >>> ((8 : Int32) &&& 31).toUInt32).toInt32) &&& (255 : Int32)) % (3 : Int32))), .val (.int x1), .val (.int x2), .val (.int y1), .val (.int x2), .val (.ref xA), .val (.ref xB), .unset] [(.int y1), (.int ((((p5.toUInt32 >>> ((8 : Int32) &&& 31).toUInt32).toInt32) &&& (255 : Int32)) % (3 : Int32))), (.int x2), (.int x1), (.int ((p5 &&& (255 : Int32)) % (3 : Int32)))])
      refine own_viaH (fun _ k => XS.iload X28_.here hx rfl (hb hby at_109) rfl k) ?_
      show own_FinH _ _ _ _ _ _ _ _ _ T28_ (mkF m 111 #[.val (.int p1), .val (.int p2), .val (.int p3), .val (.int p4), .val (.int p5), .val (.int ((p5 &&& (255 : Int32)) % (3 : Int32))), .val (.int ((((p5.toUInt32 >>> ((8 : Int32) &&& 31).toUInt32).toInt32) &&& (255 : Int32)) % (3 : Int32))), .val (.int x1), .val (.int x2), .val (.int y1), .val (.int x2), .val (.ref xA), .val (.ref xB), .unset] [(.int x2), (.int y1), (.int ((((p5.toUInt32 >>> ((8 : Int32) &&& 31).toUInt32).toInt32) &&& (255 : Int32)) % (3 : Int32))), (.int x2), (.int x1), (.int ((p5 &&& (255 : Int32)) % (3 : Int32)))])
      obtain ⟨_, _, ⟨T35_, L35_, k35_, n35_⟩, -, X35_, ⟨Lc35_, hQ35_, l35_, y35_, z35_⟩, st35_⟩ := Jvm.LawKit.callS X28_ hx (y := (⟨"com/example/co_occurrence_ranking/cooccurrenceranking/io/LineReaderCompareFieldsPinLaw", "ref", "(IIIIII)I"⟩ : MethodName)) hown28_ (mvT hZ28_ (hw _ (List.mem_of_getElem? (i := 33) rfl))) (mvT hZ28_ (hw _ (List.mem_of_getElem? (i := 34) rfl))) (mvT hZ28_ (hw _ (List.mem_of_getElem? (i := 2) rfl))) (mvT hZ28_ (hw _ (List.mem_of_getElem? (i := 35) rfl))) (by decide) (backOf (W := 0) (own_rm_ref l Z a0 hw [] ((p5 &&& (255 : Int32)) % (3 : Int32)) x1 x2 ((((p5.toUInt32 >>> ((8 : Int32) &&& 31).toUInt32).toInt32) &&& (255 : Int32)) % (3 : Int32)) y1 x2 T28_.heap n0 (Nat.le_trans Z0 (Nat.le_trans K22_.1 K28_.1)) ) hZ28_ (hw _ (List.mem_of_getElem? (i := 35) rfl)) (hw _ (List.mem_of_getElem? (i := 2) rfl)) (by decide) (by decide)) (g := (mkF m 111 #[.val (.int p1), .val (.int p2), .val (.int p3), .val (.int p4), .val (.int p5), .val (.int ((p5 &&& (255 : Int32)) % (3 : Int32))), .val (.int ((((p5.toUInt32 >>> ((8 : Int32) &&& 31).toUInt32).toInt32) &&& (255 : Int32)) % (3 : Int32))), .val (.int x1), .val (.int x2), .val (.int y1), .val (.int x2), .val (.ref xA), .val (.ref xB), .unset] [(.int x2), (.int y1), (.int ((((p5.toUInt32 >>> ((8 : Int32) &&& 31).toUInt32).toInt32) &&& (255 : Int32)) % (3 : Int32))), (.int x2), (.int x1), (.int ((p5 &&& (255 : Int32)) % (3 : Int32)))])) rfl (by rw [hml]; rfl) (argsL := [(.int ((p5 &&& (255 : Int32)) % (3 : Int32))), (.int x1), (.int x2), (.int ((((p5.toUInt32 >>> ((8 : Int32) &&& 31).toUInt32).toInt32) &&& (255 : Int32)) % (3 : Int32))), (.int y1), (.int x2)]) (rest := []) (lenOf own_pd24 rfl) rfl (by show 2 * 0 + _ ≤ _; exact Nat.le_of_eq rfl) (hb hby at_111) (fun _ _ => ⟨rfl, rfl, (by decide : 0 + 0 + 0 + 0 + 7 + 7 + 0 ≤ _), (by decide : 0 + 0 + 0 + 0 + 23 + 23 + 0 ≤ _)⟩)
      dsimp only [Pt.U, Pt.locs, Pt.cells, Pt.slots] at X35_ l35_ y35_ z35_ st35_ hQ35_
      subst l35_ y35_ z35_
      obtain ⟨rr, rfl, Nq35_, hh35_, hrr⟩ := hQ35_
      have N35_ := Fr.app N28_ Nq35_
      refine own_viaH (fun _ k => st35_ _ k) ?_
      show own_FinH _ _ _ _ _ _ _ _ _ T35_ (mkF m 114 #[.val (.int p1), .val (.int p2), .val (.int p3), .val (.int p4), .val (.int p5), .val (.int ((p5 &&& (255 : Int32)) % (3 : Int32))), .val (.int ((((p5.toUInt32 >>> ((8 : Int32) &&& 31).toUInt32).toInt32) &&& (255 : Int32)) % (3 : Int32))), .val (.int x1), .val (.int x2), .val (.int y1), .val (.int x2), .val (.ref xA), .val (.ref xB), .unset] [(.int rr)])
      refine own_viaH (fun _ k => XS.istore X35_.here hx rfl (hb hby at_114) rfl (l' := #[.val (.int p1), .val (.int p2), .val (.int p3), .val (.int p4), .val (.int p5), .val (.int ((p5 &&& (255 : Int32)) % (3 : Int32))), .val (.int ((((p5.toUInt32 >>> ((8 : Int32) &&& 31).toUInt32).toInt32) &&& (255 : Int32)) % (3 : Int32))), .val (.int x1), .val (.int x2), .val (.int y1), .val (.int x2), .val (.ref xA), .val (.ref xB), .val (.int rr)]) rfl k) ?_
      show own_FinH _ _ _ _ _ _ _ _ _ T35_ (mkF m 116 #[.val (.int p1), .val (.int p2), .val (.int p3), .val (.int p4), .val (.int p5), .val (.int ((p5 &&& (255 : Int32)) % (3 : Int32))), .val (.int ((((p5.toUInt32 >>> ((8 : Int32) &&& 31).toUInt32).toInt32) &&& (255 : Int32)) % (3 : Int32))), .val (.int x1), .val (.int x2), .val (.int y1), .val (.int x2), .val (.ref xA), .val (.ref xB), .val (.int rr)] [])
      refine own_viaH (fun _ k => XS.aload X35_.here hx rfl (hb hby at_116) rfl rfl k) ?_
      show own_FinH _ _ _ _ _ _ _ _ _ T35_ (mkF m 118 #[.val (.int p1), .val (.int p2), .val (.int p3), .val (.int p4), .val (.int p5), .val (.int ((p5 &&& (255 : Int32)) % (3 : Int32))), .val (.int ((((p5.toUInt32 >>> ((8 : Int32) &&& 31).toUInt32).toInt32) &&& (255 : Int32)) % (3 : Int32))), .val (.int x1), .val (.int x2), .val (.int y1), .val (.int x2), .val (.ref xA), .val (.ref xB), .val (.int rr)] [(.ref xA)])
      refine own_viaH (fun _ k => XS.aload X35_.here hx rfl (hb hby at_118) rfl rfl k) ?_
      show own_FinH _ _ _ _ _ _ _ _ _ T35_ (mkF m 120 #[.val (.int p1), .val (.int p2), .val (.int p3), .val (.int p4), .val (.int p5), .val (.int ((p5 &&& (255 : Int32)) % (3 : Int32))), .val (.int ((((p5.toUInt32 >>> ((8 : Int32) &&& 31).toUInt32).toInt32) &&& (255 : Int32)) % (3 : Int32))), .val (.int x1), .val (.int x2), .val (.int y1), .val (.int x2), .val (.ref xA), .val (.ref xB), .val (.int rr)] [(.ref xB), (.ref xA)])
      obtain ⟨_, _, ⟨T36_, L36_, k36_, n36_⟩, -, X36_, ⟨Lc36_, hQ36_, l36_, y36_, z36_⟩, st36_⟩ := Jvm.LawKit.callS X35_ hx (y := (⟨"com/example/co_occurrence_ranking/cooccurrenceranking/io/LineReader", "compareFields", "(Ljava/lang/String;Ljava/lang/String;)I"⟩ : MethodName)) hown28_ (mvT hZ28_ (hw _ (List.mem_of_getElem? (i := 39) rfl))) (mvT hZ28_ (hw _ (List.mem_of_getElem? (i := 40) rfl))) (mvT hZ28_ (hw _ (List.mem_of_getElem? (i := 41) rfl))) (mvT hZ28_ (hw _ (List.mem_of_getElem? (i := 42) rfl))) (by decide) (backOf (W := 0) (own_rm_cmpF l Z a0 hw [] xA cz tA ktA cdA NA vsA (own_units ((p5 &&& (255 : Int32)) % (3 : Int32)) x1 x2) fm xB tB ktB cdB NB vsB (own_units ((((p5.toUInt32 >>> ((8 : Int32) &&& 31).toUInt32).toInt32) &&& (255 : Int32)) % (3 : Int32)) y1 x2) T28_.heap n0 (Nat.le_trans Z0 (Nat.le_trans K22_.1 K28_.1)) ((O0.keep K22_ all0).keep K28_ all0) S1 (by first | assumption | decide) S2 r_fm S3 S4 S5 (r24_.keep K28_) (r25_.keep K28_ nin0) (r26_.keep K28_ nin0) (r27_.keep K28_ nin0) hcodA (own_ulen _ _ _) (own_uchs (own_n03 _) hx1 hx2) r31_ r32_ r33_ r34_ hcodB (own_ulen _ _ _) (own_uchs (own_n03 _) hy1 hx2)) hZ28_ (hw _ (List.mem_of_getElem? (i := 42) rfl)) (hw _ (List.mem_of_getElem? (i := 41) rfl)) (by decide) (by decide)) (g := (mkF m 120 #[.val (.int p1), .val (.int p2), .val (.int p3), .val (.int p4), .val (.int p5), .val (.int ((p5 &&& (255 : Int32)) % (3 : Int32))), .val (.int ((((p5.toUInt32 >>> ((8 : Int32) &&& 31).toUInt32).toInt32) &&& (255 : Int32)) % (3 : Int32))), .val (.int x1), .val (.int x2), .val (.int y1), .val (.int x2), .val (.ref xA), .val (.ref xB), .val (.int rr)] [(.ref xB), (.ref xA)])) rfl (by rw [hml]; rfl) (argsL := [(.ref xA), (.ref xB)]) (rest := []) (lenOf own_pd25 rfl) rfl (by show 2 * 0 + _ ≤ _; exact Nat.le_of_eq rfl) (hb hby at_120) (fun _ _ => ⟨rfl, hh35_, (by decide : 0 + 0 + 0 + 0 + 7 + 7 + 0 + 0 ≤ _), (by decide : 0 + 0 + 0 + 0 + 23 + 23 + 0 + 0 ≤ _)⟩)
      dsimp only [Pt.U, Pt.locs, Pt.cells, Pt.slots] at X36_ l36_ y36_ z36_ st36_ hQ36_
      subst l36_ y36_ z36_
      obtain ⟨rc, rfl, Nq36_, hh36_, hrc⟩ := hQ36_
      have N36_ := Fr.app N35_ Nq36_
      refine own_viaH (fun _ k => st36_ _ k) ?_
      show own_FinH _ _ _ _ _ _ _ _ _ T36_ (mkF m 123 #[.val (.int p1), .val (.int p2), .val (.int p3), .val (.int p4), .val (.int p5), .val (.int ((p5 &&& (255 : Int32)) % (3 : Int32))), .val (.int ((((p5.toUInt32 >>> ((8 : Int32) &&& 31).toUInt32).toInt32) &&& (255 : Int32)) % (3 : Int32))), .val (.int x1), .val (.int x2), .val (.int y1), .val (.int x2), .val (.ref xA), .val (.ref xB), .val (.int rr)] [(.int rc)])
      obtain ⟨_, _, ⟨T37_, L37_, k37_, n37_⟩, -, X37_, ⟨Lc37_, hQ37_, l37_, y37_, z37_⟩, st37_⟩ := Jvm.LawKit.callS X36_ hx (y := (⟨"com/example/co_occurrence_ranking/cooccurrenceranking/io/LineReaderCompareFieldsPinLaw", "sgn", "(I)I"⟩ : MethodName)) hown28_ (mvT hZ28_ (hw _ (List.mem_of_getElem? (i := 62) rfl))) (mvT hZ28_ (hw _ (List.mem_of_getElem? (i := 63) rfl))) (mvT hZ28_ (hw _ (List.mem_of_getElem? (i := 2) rfl))) (mvT hZ28_ (hw _ (List.mem_of_getElem? (i := 64) rfl))) (by decide) (backOf (W := 0) (own_rm_sgn l Z a0 hw [] rc T28_.heap n0 (Nat.le_trans Z0 (Nat.le_trans K22_.1 K28_.1)) ) hZ28_ (hw _ (List.mem_of_getElem? (i := 64) rfl)) (hw _ (List.mem_of_getElem? (i := 2) rfl)) (by decide) (by decide)) (g := (mkF m 123 #[.val (.int p1), .val (.int p2), .val (.int p3), .val (.int p4), .val (.int p5), .val (.int ((p5 &&& (255 : Int32)) % (3 : Int32))), .val (.int ((((p5.toUInt32 >>> ((8 : Int32) &&& 31).toUInt32).toInt32) &&& (255 : Int32)) % (3 : Int32))), .val (.int x1), .val (.int x2), .val (.int y1), .val (.int x2), .val (.ref xA), .val (.ref xB), .val (.int rr)] [(.int rc)])) rfl (by rw [hml]; rfl) (argsL := [(.int rc)]) (rest := []) (lenOf own_pd7 rfl) rfl (by show 2 * 0 + _ ≤ _; exact Nat.le_of_eq rfl) (hb hby at_123) (fun _ _ => ⟨rfl, hh36_, (by decide : 0 + 0 + 0 + 0 + 7 + 7 + 0 + 0 + 0 ≤ _), (by decide : 0 + 0 + 0 + 0 + 23 + 23 + 0 + 0 + 0 ≤ _)⟩)
      dsimp only [Pt.U, Pt.locs, Pt.cells, Pt.slots] at X37_ l37_ y37_ z37_ st37_ hQ37_
      subst l37_ y37_ z37_
      obtain ⟨rs, rfl, Nq37_, hh37_, hrs⟩ := hQ37_
      have N37_ := Fr.app N36_ Nq37_
      refine own_viaH (fun _ k => st37_ _ k) ?_
      show own_FinH _ _ _ _ _ _ _ _ _ T37_ (mkF m 126 #[.val (.int p1), .val (.int p2), .val (.int p3), .val (.int p4), .val (.int p5), .val (.int ((p5 &&& (255 : Int32)) % (3 : Int32))), .val (.int ((((p5.toUInt32 >>> ((8 : Int32) &&& 31).toUInt32).toInt32) &&& (255 : Int32)) % (3 : Int32))), .val (.int x1), .val (.int x2), .val (.int y1), .val (.int x2), .val (.ref xA), .val (.ref xB), .val (.int rr)] [(.int rs)])
      refine own_viaH (fun _ k => XS.iload X37_.here hx rfl (hb hby at_126) rfl k) ?_
      show own_FinH _ _ _ _ _ _ _ _ _ T37_ (mkF m 128 #[.val (.int p1), .val (.int p2), .val (.int p3), .val (.int p4), .val (.int p5), .val (.int ((p5 &&& (255 : Int32)) % (3 : Int32))), .val (.int ((((p5.toUInt32 >>> ((8 : Int32) &&& 31).toUInt32).toInt32) &&& (255 : Int32)) % (3 : Int32))), .val (.int x1), .val (.int x2), .val (.int y1), .val (.int x2), .val (.ref xA), .val (.ref xB), .val (.int rr)] [(.int rr), (.int rs)])
      refine own_viaH (fun _ k => XS.icmpNo X37_.here hx rfl (hb hby at_128) rfl (teq (own_final (own_n03 _) (own_n03 _) hx1 hx2 hy1 hx2 hrc hrr hrs)).2 k) ?_
      show own_FinH _ _ _ _ _ _ _ _ _ T37_ (mkF m 131 #[.val (.int p1), .val (.int p2), .val (.int p3), .val (.int p4), .val (.int p5), .val (.int ((p5 &&& (255 : Int32)) % (3 : Int32))), .val (.int ((((p5.toUInt32 >>> ((8 : Int32) &&& 31).toUInt32).toInt32) &&& (255 : Int32)) % (3 : Int32))), .val (.int x1), .val (.int x2), .val (.int y1), .val (.int x2), .val (.ref xA), .val (.ref xB), .val (.int rr)] [])
      refine own_viaH (fun _ k => XS.iconst X37_.here hx rfl (hb hby at_131) k) ?_
      show own_FinH _ _ _ _ _ _ _ _ _ T37_ (mkF m 132 #[.val (.int p1), .val (.int p2), .val (.int p3), .val (.int p4), .val (.int p5), .val (.int ((p5 &&& (255 : Int32)) % (3 : Int32))), .val (.int ((((p5.toUInt32 >>> ((8 : Int32) &&& 31).toUInt32).toInt32) &&& (255 : Int32)) % (3 : Int32))), .val (.int x1), .val (.int x2), .val (.int y1), .val (.int x2), .val (.ref xA), .val (.ref xB), .val (.int rr)] [(.int (1 : Int32))])
      refine own_viaH (fun _ k => XS.goto X37_.here hx rfl (pc0 := 132) (pc' := 136) rfl (hb hby at_132) (by decide) (by decide) k) ?_
      show own_FinH _ _ _ _ _ _ _ _ _ T37_ (mkF m 136 #[.val (.int p1), .val (.int p2), .val (.int p3), .val (.int p4), .val (.int p5), .val (.int ((p5 &&& (255 : Int32)) % (3 : Int32))), .val (.int ((((p5.toUInt32 >>> ((8 : Int32) &&& 31).toUInt32).toInt32) &&& (255 : Int32)) % (3 : Int32))), .val (.int x1), .val (.int x2), .val (.int y1), .val (.int x2), .val (.ref xA), .val (.ref xB), .val (.int rr)] [(.int (1 : Int32))])
      have C38_ := C29_.trans Cq28_
      have H38_ := C38_.1
      exact own_retNH X37_ hx (t := .boolean) Bd.returns Bd.notSynchronized (own_ew hw) hZ28_ hS28_ (Nat.le_refl _) hh C38_ (by simp) (hb hby at_136) hh37_ rfl ⟨rfl, N37_⟩ (by decide) (by decide)
  · refine own_viaH (fun _ k => XS.ifNo X2_.here hx rfl (hb hby at_42) rfl ((if0 _ _).trans (feq hA).1) k) ?_
    show own_FinH _ _ _ _ _ _ _ _ _ T2_ (mkF m 45 #[.val (.int p1), .val (.int p2), .val (.int p3), .val (.int p4), .val (.int p5), .val (.int ((p5 &&& (255 : Int32)) % (3 : Int32))), .val (.int ((((p5.toUInt32 >>> ((8 : Int32) &&& 31).toUInt32).toInt32) &&& (255 : Int32)) % (3 : Int32))), .val (.int x1), .val (.int x2), .unset, .unset, .unset, .unset, .unset] [])
    refine own_viaH (fun _ k => XS.iload X2_.here hx rfl (hb hby at_45) rfl k) ?_
    show own_FinH _ _ _ _ _ _ _ _ _ T2_ (mkF m 47 #[.val (.int p1), .val (.int p2), .val (.int p3), .val (.int p4), .val (.int p5), .val (.int ((p5 &&& (255 : Int32)) % (3 : Int32))), .val (.int ((((p5.toUInt32 >>> ((8 : Int32) &&& 31).toUInt32).toInt32) &&& (255 : Int32)) % (3 : Int32))), .val (.int x1), .val (.int x2), .unset, .unset, .unset, .unset, .unset] [(.int x1)])
    refine own_viaH (fun _ k => XS.goto X2_.here hx rfl (pc0 := 47) (pc' := 54) rfl (hb hby at_47) (by decide) (by decide) k) ?_
    show own_FinH _ _ _ _ _ _ _ _ _ T2_ (mkF m 54 #[.val (.int p1), .val (.int p2), .val (.int p3), .val (.int p4), .val (.int p5), .val (.int ((p5 &&& (255 : Int32)) % (3 : Int32))), .val (.int ((((p5.toUInt32 >>> ((8 : Int32) &&& 31).toUInt32).toInt32) &&& (255 : Int32)) % (3 : Int32))), .val (.int x1), .val (.int x2), .unset, .unset, .unset, .unset, .unset] [(.int x1)])
    refine own_viaH (fun _ k => XS.istore X2_.here hx rfl (hb hby at_54) rfl (l' := #[.val (.int p1), .val (.int p2), .val (.int p3), .val (.int p4), .val (.int p5), .val (.int ((p5 &&& (255 : Int32)) % (3 : Int32))), .val (.int ((((p5.toUInt32 >>> ((8 : Int32) &&& 31).toUInt32).toInt32) &&& (255 : Int32)) % (3 : Int32))), .val (.int x1), .val (.int x2), .val (.int x1), .unset, .unset, .unset, .unset]) rfl k) ?_
    show own_FinH _ _ _ _ _ _ _ _ _ T2_ (mkF m 56 #[.val (.int p1), .val (.int p2), .val (.int p3), .val (.int p4), .val (.int p5), .val (.int ((p5 &&& (255 : Int32)) % (3 : Int32))), .val (.int ((((p5.toUInt32 >>> ((8 : Int32) &&& 31).toUInt32).toInt32) &&& (255 : Int32)) % (3 : Int32))), .val (.int x1), .val (.int x2), .val (.int x1), .unset, .unset, .unset, .unset] [])
    refine own_viaH (fun _ k => XS.iload X2_.here hx rfl (hb hby at_56) rfl k) ?_
    show own_FinH _ _ _ _ _ _ _ _ _ T2_ (mkF m 58 #[.val (.int p1), .val (.int p2), .val (.int p3), .val (.int p4), .val (.int p5), .val (.int ((p5 &&& (255 : Int32)) % (3 : Int32))), .val (.int ((((p5.toUInt32 >>> ((8 : Int32) &&& 31).toUInt32).toInt32) &&& (255 : Int32)) % (3 : Int32))), .val (.int x1), .val (.int x2), .val (.int x1), .unset, .unset, .unset, .unset] [(.int p5)])
    refine own_viaH (fun _ k => XS.bipush X2_.here hx rfl (hb hby at_58) k) ?_
    show own_FinH _ _ _ _ _ _ _ _ _ T2_ (mkF m 60 #[.val (.int p1), .val (.int p2), .val (.int p3), .val (.int p4), .val (.int p5), .val (.int ((p5 &&& (255 : Int32)) % (3 : Int32))), .val (.int ((((p5.toUInt32 >>> ((8 : Int32) &&& 31).toUInt32).toInt32) &&& (255 : Int32)) % (3 : Int32))), .val (.int x1), .val (.int x2), .val (.int x1), .unset, .unset, .unset, .unset] [(.int (17 : Int32)), (.int p5)])
    refine own_viaH (fun _ k => XS.iushr X2_.here hx rfl (hb hby at_60) rfl k) ?_
    show own_FinH _ _ _ _ _ _ _ _ _ T2_ (mkF m 61 #[.val (.int p1), .val (.int p2), .val (.int p3), .val (.int p4), .val (.int p5), .val (.int ((p5 &&& (255 : Int32)) % (3 : Int32))), .val (.int ((((p5.toUInt32 >>> ((8 : Int32) &&& 31).toUInt32).toInt32) &&& (255 : Int32)) % (3 : Int32))), .val (.int x1), .val (.int x2), .val (.int x1), .unset, .unset, .unset, .unset] [(.int ((p5.toUInt32 >>> ((17 : Int32) &&& 31).toUInt32).toInt32))])
    refine own_viaH (fun _ k => XS.iconst X2_.here hx rfl (hb hby at_61) k) ?_
    show own_FinH _ _ _ _ _ _ _ _ _ T2_ (mkF m 62 #[.val (.int p1), .val (.int p2), .val (.int p3), .val (.int p4), .val (.int p5), .val (.int ((p5 &&& (255 : Int32)) % (3 : Int32))), .val (.int ((((p5.toUInt32 >>> ((8 : Int32) &&& 31).toUInt32).toInt32) &&& (255 : Int32)) % (3 : Int32))), .val (.int x1), .val (.int x2), .val (.int x1), .unset, .unset, .unset, .unset] [(.int (1 : Int32)), (.int ((p5.toUInt32 >>> ((17 : Int32) &&& 31).toUInt32).toInt32))])
    refine own_viaH (fun _ k => XS.iand X2_.here hx rfl (hb hby at_62) rfl k) ?_
    show own_FinH _ _ _ _ _ _ _ _ _ T2_ (mkF m 63 #[.val (.int p1), .val (.int p2), .val (.int p3), .val (.int p4), .val (.int p5), .val (.int ((p5 &&& (255 : Int32)) % (3 : Int32))), .val (.int ((((p5.toUInt32 >>> ((8 : Int32) &&& 31).toUInt32).toInt32) &&& (255 : Int32)) % (3 : Int32))), .val (.int x1), .val (.int x2), .val (.int x1), .unset, .unset, .unset, .unset] [(.int (((p5.toUInt32 >>> ((17 : Int32) &&& 31).toUInt32).toInt32) &&& (1 : Int32)))])
    rcases Classical.em ((((p5.toUInt32 >>> ((17 : Int32) &&& 31).toUInt32).toInt32) &&& (1 : Int32)) = (0 : Int32)) with hB | hB
    · refine own_viaH (fun _ k => XS.ifYes X2_.here hx rfl (pc0 := 63) (pc' := 71) rfl (hb hby at_63) rfl ((if0 _ _).trans (teq hB).1) (by decide) (by decide) k) ?_
      show own_FinH _ _ _ _ _ _ _ _ _ T2_ (mkF m 71 #[.val (.int p1), .val (.int p2), .val (.int p3), .val (.int p4), .val (.int p5), .val (.int ((p5 &&& (255 : Int32)) % (3 : Int32))), .val (.int ((((p5.toUInt32 >>> ((8 : Int32) &&& 31).toUInt32).toInt32) &&& (255 : Int32)) % (3 : Int32))), .val (.int x1), .val (.int x2), .val (.int x1), .unset, .unset, .unset, .unset] [])
      refine own_viaH (fun _ k => XS.iloadN X2_.here hx rfl (hb hby at_71) rfl k) ?_
      show own_FinH _ _ _ _ _ _ _ _ _ T2_ (mkF m 72 #[.val (.int p1), .val (.int p2), .val (.int p3), .val (.int p4), .val (.int p5), .val (.int ((p5 &&& (255 : Int32)) % (3 : Int32))), .val (.int ((((p5.toUInt32 >>> ((8 : Int32) &&& 31).toUInt32).toInt32) &&& (255 : Int32)) % (3 : Int32))), .val (.int x1), .val (.int x2), .val (.int x1), .unset, .unset, .unset, .unset] [(.int p4)])
      obtain ⟨_, _, ⟨T39_, L39_, k39_, n39_⟩, -, X39_, ⟨Lc39_, hQ39_, l39_, y39_, z39_⟩, st39_⟩ := Jvm.LawKit.callS X2_ hx (y := (⟨"com/example/co_occurrence_ranking/cooccurrenceranking/io/LineReaderCompareFieldsPinLaw", "cp", "(I)I"⟩ : MethodName)) hown (mvT hZ (hw _ (List.mem_of_getElem? (i := 0) rfl))) (mvT hZ (hw _ (List.mem_of_getElem? (i := 1) rfl))) (mvT hZ (hw _ (List.mem_of_getElem? (i := 2) rfl))) (mvT hZ (hw _ (List.mem_of_getElem? (i := 3) rfl))) (by decide) (backOf (W := 0) (own_rm_cp l Z a0 hw [] p4 h0 n0 Z0 ) hZ (hw _ (List.mem_of_getElem? (i := 3) rfl)) (hw _ (List.mem_of_getElem? (i := 2) rfl)) (by decide) (by decide)) (g := (mkF m 72 #[.val (.int p1), .val (.int p2), .val (.int p3), .val (.int p4), .val (.int p5), .val (.int ((p5 &&& (255 : Int32)) % (3 : Int32))), .val (.int ((((p5.toUInt32 >>> ((8 : Int32) &&& 31).toUInt32).toInt32) &&& (255 : Int32)) % (3 : Int32))), .val (.int x1), .val (.int x2), .val (.int x1), .unset, .unset, .unset, .unset] [(.int p4)])) rfl (by rw [hml]; rfl) (argsL := [(.int p4)]) (rest := []) (lenOf own_pd7 rfl) rfl (by show 2 * 0 + _ ≤ _; exact Nat.le_of_eq rfl) (hb hby at_72) (fun _ _ => ⟨rfl, hh2_, (by decide : 0 + 0 + 0 + 0 ≤ _), (by decide : 0 + 0 + 0 + 0 ≤ _)⟩)
      dsimp only [Pt.U, Pt.locs, Pt.cells, Pt.slots] at X39_ l39_ y39_ z39_ st39_ hQ39_
      subst l39_ y39_ z39_
      obtain ⟨y2, rfl, Nq39_, hh39_, hy2⟩ := hQ39_
      have N39_ := Fr.app N2_ Nq39_
      refine own_viaH (fun _ k => st39_ _ k) ?_
      show own_FinH _ _ _ _ _ _ _ _ _ T39_ (mkF m 75 #[.val (.int p1), .val (.int p2), .val (.int p3), .val (.int p4), .val (.int p5), .val (.int ((p5 &&& (255 : Int32)) % (3 : Int32))), .val (.int ((((p5.toUInt32 >>> ((8 : Int32) &&& 31).toUInt32).toInt32) &&& (255 : Int32)) % (3 : Int32))), .val (.int x1), .val (.int x2), .val (.int x1), .unset, .unset, .unset, .unset] [(.int y2)])
      refine own_viaH (fun _ k => XS.istore X39_.here hx rfl (hb hby at_75) rfl (l' := #[.val (.int p1), .val (.int p2), .val (.int p3), .val (.int p4), .val (.int p5), .val (.int ((p5 &&& (255 : Int32)) % (3 : Int32))), .val (.int ((((p5.toUInt32 >>> ((8 : Int32) &&& 31).toUInt32).toInt32) &&& (255 : Int32)) % (3 : Int32))), .val (.int x1), .val (.int x2), .val (.int x1), .val (.int y2), .unset, .unset, .unset]) rfl k) ?_
      show own_FinH _ _ _ _ _ _ _ _ _ T39_ (mkF m 77 #[.val (.int p1), .val (.int p2), .val (.int p3), .val (.int p4), .val (.int p5), .val (.int ((p5 &&& (255 : Int32)) % (3 : Int32))), .val (.int ((((p5.toUInt32 >>> ((8 : Int32) &&& 31).toUInt32).toInt32) &&& (255 : Int32)) % (3 : Int32))), .val (.int x1), .val (.int x2), .val (.int x1), .val (.int y2), .unset, .unset, .unset] [])
      refine own_viaH (fun _ k => XS.iload X39_.here hx rfl (hb hby at_77) rfl k) ?_
      show own_FinH _ _ _ _ _ _ _ _ _ T39_ (mkF m 79 #[.val (.int p1), .val (.int p2), .val (.int p3), .val (.int p4), .val (.int p5), .val (.int ((p5 &&& (255 : Int32)) % (3 : Int32))), .val (.int ((((p5.toUInt32 >>> ((8 : Int32) &&& 31).toUInt32).toInt32) &&& (255 : Int32)) % (3 : Int32))), .val (.int x1), .val (.int x2), .val (.int x1), .val (.int y2), .unset, .unset, .unset] [(.int ((p5 &&& (255 : Int32)) % (3 : Int32)))])
      refine own_viaH (fun _ k => XS.iload X39_.here hx rfl (hb hby at_79) rfl k) ?_
      show own_FinH _ _ _ _ _ _ _ _ _ T39_ (mkF m 81 #[.val (.int p1), .val (.int p2), .val (.int p3), .val (.int p4), .val (.int p5), .val (.int ((p5 &&& (255 : Int32)) % (3 : Int32))), .val (.int ((((p5.toUInt32 >>> ((8 : Int32) &&& 31).toUInt32).toInt32) &&& (255 : Int32)) % (3 : Int32))), .val (.int x1), .val (.int x2), .val (.int x1), .val (.int y2), .unset, .unset, .unset] [(.int x1), (.int ((p5 &&& (255 : Int32)) % (3 : Int32)))])
      refine own_viaH (fun _ k => XS.iload X39_.here hx rfl (hb hby at_81) rfl k) ?_
      show own_FinH _ _ _ _ _ _ _ _ _ T39_ (mkF m 83 #[.val (.int p1), .val (.int p2), .val (.int p3), .val (.int p4), .val (.int p5), .val (.int ((p5 &&& (255 : Int32)) % (3 : Int32))), .val (.int ((((p5.toUInt32 >>> ((8 : Int32) &&& 31).toUInt32).toInt32) &&& (255 : Int32)) % (3 : Int32))), .val (.int x1), .val (.int x2), .val (.int x1), .val (.int y2), .unset, .unset, .unset] [(.int x2), (.int x1), (.int ((p5 &&& (255 : Int32)) % (3 : Int32)))])
      obtain ⟨_, _, ⟨T40_, L40_, k40_, n40_⟩, -, Y40_, hSq40_, hgq40_, ⟨Lc40_, hQ40_, l40_, y40_, z40_, Cq40_⟩, st40_⟩ := callSS X39_ hx (y := (⟨"com/example/co_occurrence_ranking/cooccurrenceranking/io/LineReaderCompareFieldsPinLaw", "str", "(III)Ljava/lang/String;"⟩ : MethodName)) hown (mvT hZ (hw _ (List.mem_of_getElem? (i := 8) rfl))) (mvT hZ (hw _ (List.mem_of_getElem? (i := 9) rfl))) (mvT hZ (hw _ (List.mem_of_getElem? (i := 2) rfl))) (mvT hZ (hw _ (List.mem_of_getElem? (i := 10) rfl))) (by decide) (backOfSH (s := s) (vm0 := s.vm) (W := 0) (own_rm_str l Z a0 hw [] ((p5 &&& (255 : Int32)) % (3 : Int32)) x1 x2 cz h0 n0 Z0 O0 S1 (by first | assumption | decide) S3 S4 S5 (own_n03 _) hx1 hx2) hZ (hw _ (List.mem_of_getElem? (i := 10) rfl)) (hw _ (List.mem_of_getElem? (i := 2) rfl)) (by decide) (by decide) (own_ew hw) H0) (g := (mkF m 83 #[.val (.int p1), .val (.int p2), .val (.int p3), .val (.int p4), .val (.int p5), .val (.int ((p5 &&& (255 : Int32)) % (3 : Int32))), .val (.int ((((p5.toUInt32 >>> ((8 : Int32) &&& 31).toUInt32).toInt32) &&& (255 : Int32)) % (3 : Int32))), .val (.int x1), .val (.int x2), .val (.int x1), .val (.int y2), .unset, .unset, .unset] [(.int x2), (.int x1), (.int ((p5 &&& (255 : Int32)) % (3 : Int32)))])) rfl (by rw [hml]; rfl) (argsL := [(.int ((p5 &&& (255 : Int32)) % (3 : Int32))), (.int x1), (.int x2)]) (rest := []) (lenOf own_pd23 rfl) rfl (by show 2 * 0 + _ ≤ _; exact Nat.le_of_eq rfl) (hb hby at_83) (fun _ _ => ⟨rfl, hh39_, (by decide : 0 + 0 + 0 + 0 + 7 ≤ _), (by decide : 0 + 0 + 0 + 0 + 23 ≤ _)⟩)
      dsimp only [Pt.U, Pt.locs, Pt.cells, Pt.slots] at Y40_ l40_ y40_ z40_ st40_ hQ40_ hSq40_ hgq40_ Cq40_
      subst l40_ y40_ z40_
      obtain ⟨X40_, hS40_, hZ40_, hown40_⟩ := rebS hS0 (by rw [hh39_]; exact hk0) Y40_ hSq40_ hgq40_ hZ hown
      obtain ⟨xA, tA, ktA, cdA, NA, vsA, rfl, Nq40_, K40_, r41_, r42_, r43_, r44_, r45_, hcodA⟩ := hQ40_
      have N40_ := Fr.app N39_ Nq40_
      refine own_viaH (fun _ k => st40_.trans k) ?_
      show own_FinH _ _ _ _ _ _ _ _ _ T40_ (mkF m 86 #[.val (.int p1), .val (.int p2), .val (.int p3), .val (.int p4), .val (.int p5), .val (.int ((p5 &&& (255 : Int32)) % (3 : Int32))), .val (.int ((((p5.toUInt32 >>> ((8 : Int32) &&& 31).toUInt32).toInt32) &&& (255 : Int32)) % (3 : Int32))), .val (.int x1), .val (.int x2), .val (.int x1), .val (.int y2), .unset, .unset, .unset] [(.ref xA)])
      refine own_viaH (fun _ k => XS.astore X40_.here hx rfl (hb hby at_86) rfl rfl (l' := #[.val (.int p1), .val (.int p2), .val (.int p3), .val (.int p4), .val (.int p5), .val (.int ((p5 &&& (255 : Int32)) % (3 : Int32))), .val (.int ((((p5.toUInt32 >>> ((8 : Int32) &&& 31).toUInt32).toInt32) &&& (255 : Int32)) % (3 : Int32))), .val (.int x1), .val (.int x2), .val (.int x1), .val (.int y2), .val (.ref xA), .unset, .unset]) rfl k) ?_
      show own_FinH _ _ _ _ _ _ _ _ _ T40_ (mkF m 88 #[.val (.int p1), .val (.int p2), .val (.int p3), .val (.int p4), .val (.int p5), .val (.int ((p5 &&& (255 : Int32)) % (3 : Int32))), .val (.int ((((p5.toUInt32 >>> ((8 : Int32) &&& 31).toUInt32).toInt32) &&& (255 : Int32)) % (3 : Int32))), .val (.int x1), .val (.int x2), .val (.int x1), .val (.int y2), .val (.ref xA), .unset, .unset] [])
      refine own_viaH (fun _ k => XS.iload X40_.here hx rfl (hb hby at_88) rfl k) ?_
      show own_FinH _ _ _ _ _ _ _ _ _ T40_ (mkF m 90 #[.val (.int p1), .val (.int p2), .val (.int p3), .val (.int p4), .val (.int p5), .val (.int ((p5 &&& (255 : Int32)) % (3 : Int32))), .val (.int ((((p5.toUInt32 >>> ((8 : Int32) &&& 31).toUInt32).toInt32) &&& (255 : Int32)) % (3 : Int32))), .val (.int x1), .val (.int x2), .val (.int x1), .val (.int y2), .val (.ref xA), .unset, .unset] [(.int ((((p5.toUInt32 >>> ((8 : Int32) &&& 31).toUInt32).toInt32) &&& (255 : Int32)) % (3 : Int32)))])
      refine own_viaH (fun _ k => XS.iload X40_.here hx rfl (hb hby at_90) rfl k) ?_
      show own_FinH _ _ _ _ _ _ _ _ _ T40_ (mkF m 92 #[.val (.int p1), .val (.int p2), .val (.int p3), .val (.int p4), .val (.int p5), .val (.int ((p5 &&& (255 : Int32)) % (3 : Int32))), .val (.int ((((p5.toUInt32 >>> ((8 : Int32) &&& 31).toUInt32).toInt32) &&& (255 : Int32)) % (3 : Int32))), .val (.int x1), .val (.int x2), .val (.int x1), .val (.int y2), .val (.ref xA), .unset, .unset] [(.int x1), (.int ((((p5.toUInt32 >>> ((8 : Int32) &&& 31).toUInt32).toInt32) &&& (255 : Int32)) % (3 : Int32)))])
      refine own_viaH (fun _ k => XS.iload X40_.here hx rfl (hb hby at_92) rfl k) ?_
      show own_FinH _ _ _ _ _ _ _ _ _ T40_ (mkF m 94 #[.val (.int p1), .val (.int p2), .val (.int p3), .val (.int p4), .val (.int p5), .val (.int ((p5 &&& (255 : Int32)) % (3 : Int32))), .val (.int ((((p5.toUInt32 >>> ((8 : Int32) &&& 31).toUInt32).toInt32) &&& (255 : Int32)) % (3 : Int32))), .val (.int x1), .val (.int x2), .val (.int x1), .val (.int y2), .val (.ref xA), .unset, .unset] [(.int y2), (.int x1), (.int ((((p5.toUInt32 >>> ((8 : Int32) &&& 31).toUInt32).toInt32) &&& (255 : Int32)) % (3 : Int32)))])
      have C47_ := C0.trans Cq40_
      have H47_ := C47_.1
      obtain ⟨_, _, ⟨T46_, L46_, k46_, n46_⟩, -, Y46_, hSq46_, hgq46_, ⟨Lc46_, hQ46_, l46_, y46_, z46_, Cq46_⟩, st46_⟩ := callSS X40_ hx (y := (⟨"com/example/co_occurrence_ranking/cooccurrenceranking/io/LineReaderCompareFieldsPinLaw", "str", "(III)Ljava/lang/String;"⟩ : MethodName)) hown40_ (mvT hZ40_ (hw _ (List.mem_of_getElem? (i := 8) rfl))) (mvT hZ40_ (hw _ (List.mem_of_getElem? (i := 9) rfl))) (mvT hZ40_ (hw _ (List.mem_of_getElem? (i := 2) rfl))) (mvT hZ40_ (hw _ (List.mem_of_getElem? (i := 10) rfl))) (by decide) (backOfSH (s := s) (vm0 := T40_.vm) (W := 0) (own_rm_str l Z a0 hw [] ((((p5.toUInt32 >>> ((8 : Int32) &&& 31).toUInt32).toInt32) &&& (255 : Int32)) % (3 : Int32)) x1 y2 cz T40_.heap n0 (Nat.le_trans Z0 K40_.1) (O0.keep K40_ all0) S1 (by first | assumption | decide) S3 S4 S5 (own_n03 _) hx1 hy2) hZ40_ (hw _ (List.mem_of_getElem? (i := 10) rfl)) (hw _ (List.mem_of_getElem? (i := 2) rfl)) (by decide) (by decide) (own_ew hw) H47_) (g := (mkF m 94 #[.val (.int p1), .val (.int p2), .val (.int p3), .val (.int p4), .val (.int p5), .val (.int ((p5 &&& (255 : Int32)) % (3 : Int32))), .val (.int ((((p5.toUInt32 >>> ((8 : Int32) &&& 31).toUInt32).toInt32) &&& (255 : Int32)) % (3 : Int32))), .val (.int x1), .val (.int x2), .val (.int x1), .val (.int y2), .val (.ref xA), .unset, .unset] [(.int y2), (.int x1), (.int ((((p5.toUInt32 >>> ((8 : Int32) &&& 31).toUInt32).toInt32) &&& (255 : Int32)) % (3 : Int32)))])) rfl (by rw [hml]; rfl) (argsL := [(.int ((((p5.toUInt32 >>> ((8 : Int32) &&& 31).toUInt32).toInt32) &&& (255 : Int32)) % (3 : Int32))), (.int x1), (.int y2)]) (rest := []) (lenOf own_pd23 rfl) rfl (by show 2 * 0 + _ ≤ _; exact Nat.le_of_eq rfl) (hb hby at_94) (fun _ _ => ⟨rfl, rfl, (by decide : 0 + 0 + 0 + 0 + 7 + 7 ≤ _), (by decide : 0 + 0 + 0 + 0 + 23 + 23 ≤ _)⟩)
      dsimp only [Pt.U, Pt.locs, Pt.cells, Pt.slots] at Y46_ l46_ y46_ z46_ st46_ hQ46_ hSq46_ hgq46_ Cq46_
      subst l46_ y46_ z46_
      obtain ⟨X46_, hS46_, hZ46_, hown46_⟩ := rebS hS40_ ((Nat.le_refl _)) Y46_ hSq46_ hgq46_ hZ40_ hown40_
      obtain ⟨xB, tB, ktB, cdB, NB, vsB, rfl, Nq46_, K46_, r48_, r49_, r50_, r51_, r52_, hcodB⟩ := hQ46_
      have N46_ := Fr.app N40_ Nq46_
      refine own_viaH (fun _ k => st46_.trans k) ?_
      show own_FinH _ _ _ _ _ _ _ _ _ T46_ (mkF m 97 #[.val (.int p1), .val (.int p2), .val (.int p3), .val (.int p4), .val (.int p5), .val (.int ((p5 &&& (255 : Int32)) % (3 : Int32))), .val (.int ((((p5.toUInt32 >>> ((8 : Int32) &&& 31).toUInt32).toInt32) &&& (255 : Int32)) % (3 : Int32))), .val (.int x1), .val (.int x2), .val (.int x1), .val (.int y2), .val (.ref xA), .unset, .unset] [(.ref xB)])
      refine own_viaH (fun _ k => XS.astore X46_.here hx rfl (hb hby at_97) rfl rfl (l' := #[.val (.int p1), .val (.int p2), .val (.int p3), .val (.int p4), .val (.int p5), .val (.int ((p5 &&& (255 : Int32)) % (3 : Int32))), .val (.int ((((p5.toUInt32 >>> ((8 : Int32) &&& 31).toUInt32).toInt32) &&& (255 : Int32)) % (3 : Int32))), .val (.int x1), .val (.int x2), .val (.int x1), .val (.int y2), .val (.ref xA), .val (.ref xB), .unset]) rfl k) ?_
      show own_FinH _ _ _ _ _ _ _ _ _ T46_ (mkF m 99 #[.val (.int p1), .val (.int p2), .val (.int p3), .val (.int p4), .val (.int p5), .val (.int ((p5 &&& (255 : Int32)) % (3 : Int32))), .val (.int ((((p5.toUInt32 >>> ((8 : Int32) &&& 31).toUInt32).toInt32) &&& (255 : Int32)) % (3 : Int32))), .val (.int x1), .val (.int x2), .val (.int x1), .val (.int y2), .val (.ref xA), .val (.ref xB), .unset] [])
      refine own_viaH (fun _ k => XS.iload X46_.here hx rfl (hb hby at_99) rfl k) ?_
      show own_FinH _ _ _ _ _ _ _ _ _ T46_ (mkF m 101 #[.val (.int p1), .val (.int p2), .val (.int p3), .val (.int p4), .val (.int p5), .val (.int ((p5 &&& (255 : Int32)) % (3 : Int32))), .val (.int ((((p5.toUInt32 >>> ((8 : Int32) &&& 31).toUInt32).toInt32) &&& (255 : Int32)) % (3 : Int32))), .val (.int x1), .val (.int x2), .val (.int x1), .val (.int y2), .val (.ref xA), .val (.ref xB), .unset] [(.int ((p5 &&& (255 : Int32)) % (3 : Int32)))])
      refine own_viaH (fun _ k => XS.iload X46_.here hx rfl (hb hby at_101) rfl k) ?_
      show own_FinH _ _ _ _ _ _ _ _ _ T46_ (mkF m 103 #[.val (.int p1), .val (.int p2), .val (.int p3), .val (.int p4), .val (.int p5), .val (.int ((p5 &&& (255 : Int32)) % (3 : Int32))), .val (.int ((((p5.toUInt32 >>> ((8 : Int32) &&& 31).toUInt32).toInt32) &&& (255 : Int32)) % (3 : Int32))), .val (.int x1), .val (.int x2), .val (.int x1), .val (.int y2), .val (.ref xA), .val (.ref xB), .unset] [(.int x1), (.int ((p5 &&& (255 : Int32)) % (3 : Int32)))])
      refine own_viaH (fun _ k => XS.iload X46_.here hx rfl (hb hby at_103) rfl k) ?_
      show own_FinH _ _ _ _ _ _ _ _ _ T46_ (mkF m 105 #[.val (.int p1), .val (.int p2), .val (.int p3), .val (.int p4), .val (.int p5), .val (.int ((p5 &&& (255 : Int32)) % (3 : Int32))), .val (.int ((((p5.toUInt32 >>> ((8 : Int32) &&& 31).toUInt32).toInt32) &&& (255 : Int32)) % (3 : Int32))), .val (.int x1), .val (.int x2), .val (.int x1), .val (.int y2), .val (.ref xA), .val (.ref xB), .unset] [(.int x2), (.int x1), (.int ((p5 &&& (255 : Int32)) % (3 : Int32)))])
      refine own_viaH (fun _ k => XS.iload X46_.here hx rfl (hb hby at_105) rfl k) ?_
      show own_FinH _ _ _ _ _ _ _ _ _ T46_ (mkF m 107 #[.val (.int p1), .val (.int p2), .val (.int p3), .val (.int p4), .val (.int p5), .val (.int ((p5 &&& (255 : Int32)) % (3 : Int32))), .val (.int ((((p5.toUInt32 >>> ((8 : Int32) &&& 31).toUInt32).toInt32) &&& (255 : Int32)) % (3 : Int32))), .val (.int x1), .val (.int x2), .val (.int x1), .val (.int y2), .val (.ref xA), .val (.ref xB), .unset] [(.int ((((p5.toUInt32 >>> ((8 : Int32) &&& 31).toUInt32).toInt32) &&& (255 : Int32)) % (3 : Int32))), (.int x2), (.int x1), (.int ((p5 &&& (255 : Int32)) % (3 : Int32)))])
      refine own_viaH (fun _ k => XS.iload X46_.here hx rfl (hb hby at_107) rfl k) ?_
      show own_FinH _ _ _ _ _ _ _ _ _ T46_ (mkF m 109 #[.val (.int p1), .val (.int p2), .val (.int p3), .val (.int p4), .val (.int p5), .val (.int ((p5 &&& (255 : Int32)) % (3 : Int32))), .val (.int ((((p5.toUInt32 >>> ((8 : Int32) &&& 31).toUInt32).toInt32) &&& (255 : Int32)) % (3 : Int32))), .val (.int x1), .val (.int x2), .val (.int x1), .val (.int y2), .val (.ref xA), .val (.ref xB), .unset] [(.int x1), (.int ((((p5.toUInt32 >>> ((8 : Int32) &&& 31).toUInt32).toInt32) &&& (255 : Int32)) % (3 : Int32))), (.int x2), (.int x1), (.int ((p5 &&& (255 : Int32)) % (3 : Int32)))])
      refine own_viaH (fun _ k => XS.iload X46_.here hx rfl (hb hby at_109) rfl k) ?_
      show own_FinH _ _ _ _ _ _ _ _ _ T46_ (mkF m 111 #[.val (.int p1), .val (.int p2), .val (.int p3), .val (.int p4), .val (.int p5), .val (.int ((p5 &&& (255 : Int32)) % (3 : Int32))), .val (.int ((((p5.toUInt32 >>> ((8 : Int32) &&& 31).toUInt32).toInt32) &&& (255 : Int32)) % (3 : Int32))), .val (.int x1), .val (.int x2), .val (.int x1), .val (.int y2), .val (.ref xA), .val (.ref xB), .unset] [(.int y2), (.int x1), (.int ((((p5.toUInt32 >>> ((8 : Int32) &&& 31).toUInt32).toInt32) &&& (255 : Int32)) % (3 : Int32))), (.int x2), (.int x1), (.int ((p5 &&& (255 : Int32)) % (3 : Int32)))])
      obtain ⟨_, _, ⟨T53_, L53_, k53_, n53_⟩, -, X53_, ⟨Lc53_, hQ53_, l53_, y53_, z53_⟩, st53_⟩ := Jvm.LawKit.callS X46_ hx (y := (⟨"com/example/co_occurrence_ranking/cooccurrenceranking/io/LineReaderCompareFieldsPinLaw", "ref", "(IIIIII)I"⟩ : MethodName)) hown46_ (mvT hZ46_ (hw _ (List.mem_of_getElem? (i := 33) rfl))) (mvT hZ46_ (hw _ (List.mem_of_getElem? (i := 34) rfl))) (mvT hZ46_ (hw _ (List.mem_of_getElem? (i := 2) rfl))) (mvT hZ46_ (hw _ (List.mem_of_getElem? (i := 35) rfl))) (by decide) (backOf (W := 0) (own_rm_ref l Z a0 hw [] ((p5 &&& (255 : Int32)) % (3 : Int32)) x1 x2 ((((p5.toUInt32 >>> ((8 : Int32) &&& 31).toUInt32).toInt32) &&& (255 : Int32)) % (3 : Int32)) x1 y2 T46_.heap n0 (Nat.le_trans Z0 (Nat.le_trans K40_.1 K46_.1)) ) hZ46_ (hw _ (List.mem_of_getElem? (i := 35) rfl)) (hw _ (List.mem_of_getElem? (i := 2) rfl)) (by decide) (by decide)) (g := (mkF m 111 #[.val (.int p1), .val (.int p2), .val (.int p3), .val (.int p4), .val (.int p5), .val (.int ((p5 &&& (255 : Int32)) % (3 : Int32))), .val (.int ((((p5.toUInt32 >>> ((8 : Int32) &&& 31).toUInt32).toInt32) &&& (255 : Int32)) % (3 : Int32))), .val (.int x1), .val (.int x2), .val (.int x1), .val (.int y2), .val (.ref xA), .val (.ref xB), .unset] [(.int y2), (.int x1), (.int ((((p5.toUInt32 >>> ((8 : Int32) &&& 31).toUInt32).toInt32) &&& (255 : Int32)) % (3 : Int32))), (.int x2), (.int x1), (.int ((p5 &&& (255 : Int32)) % (3 : Int32)))])) rfl (by rw [hml]; rfl) (argsL := [(.int ((p5 &&& (255 : Int32)) % (3 : Int32))), (.int x1), (.int x2), (.int ((((p5.toUInt32 >>> ((8 : Int32) &&& 31).toUInt32).toInt32) &&& (255 : Int32)) % (3 : Int32))), (.int x1), (.int y2)]) (rest := []) (lenOf own_pd24 rfl) rfl (by show 2 * 0 + _ ≤ _; exact Nat.le_of_eq rfl) (hb hby at_111) (fun _ _ => ⟨rfl, rfl, (by decide : 0 + 0 + 0 + 0 + 7 + 7 + 0 ≤ _), (by decide : 0 + 0 + 0 + 0 + 23 + 23 + 0 ≤ _)⟩)
      dsimp only [Pt.U, Pt.locs, Pt.cells, Pt.slots] at X53_ l53_ y53_ z53_ st53_ hQ53_
      subst l53_ y53_ z53_
      obtain ⟨rr, rfl, Nq53_, hh53_, hrr⟩ := hQ53_
      have N53_ := Fr.app N46_ Nq53_
      refine own_viaH (fun _ k => st53_ _ k) ?_
      show own_FinH _ _ _ _ _ _ _ _ _ T53_ (mkF m 114 #[.val (.int p1), .val (.int p2), .val (.int p3), .val (.int p4), .val (.int p5), .val (.int ((p5 &&& (255 : Int32)) % (3 : Int32))), .val (.int ((((p5.toUInt32 >>> ((8 : Int32) &&& 31).toUInt32).toInt32) &&& (255 : Int32)) % (3 : Int32))), .val (.int x1), .val (.int x2), .val (.int x1), .val (.int y2), .val (.ref xA), .val (.ref xB), .unset] [(.int rr)])
      refine own_viaH (fun _ k => XS.istore X53_.here hx rfl (hb hby at_114) rfl (l' := #[.val (.int p1), .val (.int p2), .val (.int p3), .val (.int p4), .val (.int p5), .val (.int ((p5 &&& (255 : Int32)) % (3 : Int32))), .val (.int ((((p5.toUInt32 >>> ((8 : Int32) &&& 31).toUInt32).toInt32) &&& (255 : Int32)) % (3 : Int32))), .val (.int x1), .val (.int x2), .val (.int x1), .val (.int y2), .val (.ref xA), .val (.ref xB), .val (.int rr)]) rfl k) ?_
      show own_FinH _ _ _ _ _ _ _ _ _ T53_ (mkF m 116 #[.val (.int p1), .val (.int p2), .val (.int p3), .val (.int p4), .val (.int p5), .val (.int ((p5 &&& (255 : Int32)) % (3 : Int32))), .val (.int ((((p5.toUInt32 >>> ((8 : Int32) &&& 31).toUInt32).toInt32) &&& (255 : Int32)) % (3 : Int32))), .val (.int x1), .val (.int x2), .val (.int x1), .val (.int y2), .val (.ref xA), .val (.ref xB), .val (.int rr)] [])
      refine own_viaH (fun _ k => XS.aload X53_.here hx rfl (hb hby at_116) rfl rfl k) ?_
      show own_FinH _ _ _ _ _ _ _ _ _ T53_ (mkF m 118 #[.val (.int p1), .val (.int p2), .val (.int p3), .val (.int p4), .val (.int p5), .val (.int ((p5 &&& (255 : Int32)) % (3 : Int32))), .val (.int ((((p5.toUInt32 >>> ((8 : Int32) &&& 31).toUInt32).toInt32) &&& (255 : Int32)) % (3 : Int32))), .val (.int x1), .val (.int x2), .val (.int x1), .val (.int y2), .val (.ref xA), .val (.ref xB), .val (.int rr)] [(.ref xA)])
      refine own_viaH (fun _ k => XS.aload X53_.here hx rfl (hb hby at_118) rfl rfl k) ?_
      show own_FinH _ _ _ _ _ _ _ _ _ T53_ (mkF m 120 #[.val (.int p1), .val (.int p2), .val (.int p3), .val (.int p4), .val (.int p5), .val (.int ((p5 &&& (255 : Int32)) % (3 : Int32))), .val (.int ((((p5.toUInt32 >>> ((8 : Int32) &&& 31).toUInt32).toInt32) &&& (255 : Int32)) % (3 : Int32))), .val (.int x1), .val (.int x2), .val (.int x1), .val (.int y2), .val (.ref xA), .val (.ref xB), .val (.int rr)] [(.ref xB), (.ref xA)])
      obtain ⟨_, _, ⟨T54_, L54_, k54_, n54_⟩, -, X54_, ⟨Lc54_, hQ54_, l54_, y54_, z54_⟩, st54_⟩ := Jvm.LawKit.callS X53_ hx (y := (⟨"com/example/co_occurrence_ranking/cooccurrenceranking/io/LineReader", "compareFields", "(Ljava/lang/String;Ljava/lang/String;)I"⟩ : MethodName)) hown46_ (mvT hZ46_ (hw _ (List.mem_of_getElem? (i := 39) rfl))) (mvT hZ46_ (hw _ (List.mem_of_getElem? (i := 40) rfl))) (mvT hZ46_ (hw _ (List.mem_of_getElem? (i := 41) rfl))) (mvT hZ46_ (hw _ (List.mem_of_getElem? (i := 42) rfl))) (by decide) (backOf (W := 0) (own_rm_cmpF l Z a0 hw [] xA cz tA ktA cdA NA vsA (own_units ((p5 &&& (255 : Int32)) % (3 : Int32)) x1 x2) fm xB tB ktB cdB NB vsB (own_units ((((p5.toUInt32 >>> ((8 : Int32) &&& 31).toUInt32).toInt32) &&& (255 : Int32)) % (3 : Int32)) x1 y2) T46_.heap n0 (Nat.le_trans Z0 (Nat.le_trans K40_.1 K46_.1)) ((O0.keep K40_ all0).keep K46_ all0) S1 (by first | assumption | decide) S2 r_fm S3 S4 S5 (r42_.keep K46_) (r43_.keep K46_ nin0) (r44_.keep K46_ nin0) (r45_.keep K46_ nin0) hcodA (own_ulen _ _ _) (own_uchs (own_n03 _) hx1 hx2) r49_ r50_ r51_ r52_ hcodB (own_ulen _ _ _) (own_uchs (own_n03 _) hx1 hy2)) hZ46_ (hw _ (List.mem_of_getElem? (i := 42) rfl)) (hw _ (List.mem_of_getElem? (i := 41) rfl)) (by decide) (by decide)) (g := (mkF m 120 #[.val (.int p1), .val (.int p2), .val (.int p3), .val (.int p4), .val (.int p5), .val (.int ((p5 &&& (255 : Int32)) % (3 : Int32))), .val (.int ((((p5.toUInt32 >>> ((8 : Int32) &&& 31).toUInt32).toInt32) &&& (255 : Int32)) % (3 : Int32))), .val (.int x1), .val (.int x2), .val (.int x1), .val (.int y2), .val (.ref xA), .val (.ref xB), .val (.int rr)] [(.ref xB), (.ref xA)])) rfl (by rw [hml]; rfl) (argsL := [(.ref xA), (.ref xB)]) (rest := []) (lenOf own_pd25 rfl) rfl (by show 2 * 0 + _ ≤ _; exact Nat.le_of_eq rfl) (hb hby at_120) (fun _ _ => ⟨rfl, hh53_, (by decide : 0 + 0 + 0 + 0 + 7 + 7 + 0 + 0 ≤ _), (by decide : 0 + 0 + 0 + 0 + 23 + 23 + 0 + 0 ≤ _)⟩)
      dsimp only [Pt.U, Pt.locs, Pt.cells, Pt.slots] at X54_ l54_ y54_ z54_ st54_ hQ54_
      subst l54_ y54_ z54_
      obtain ⟨rc, rfl, Nq54_, hh54_, hrc⟩ := hQ54_
      have N54_ := Fr.app N53_ Nq54_
      refine own_viaH (fun _ k => st54_ _ k) ?_
      show own_FinH _ _ _ _ _ _ _ _ _ T54_ (mkF m 123 #[.val (.int p1), .val (.int p2), .val (.int p3), .val (.int p4), .val (.int p5), .val (.int ((p5 &&& (255 : Int32)) % (3 : Int32))), .val (.int ((((p5.toUInt32 >>> ((8 : Int32) &&& 31).toUInt32).toInt32) &&& (255 : Int32)) % (3 : Int32))), .val (.int x1), .val (.int x2), .val (.int x1), .val (.int y2), .val (.ref xA), .val (.ref xB), .val (.int rr)] [(.int rc)])
      obtain ⟨_, _, ⟨T55_, L55_, k55_, n55_⟩, -, X55_, ⟨Lc55_, hQ55_, l55_, y55_, z55_⟩, st55_⟩ := Jvm.LawKit.callS X54_ hx (y := (⟨"com/example/co_occurrence_ranking/cooccurrenceranking/io/LineReaderCompareFieldsPinLaw", "sgn", "(I)I"⟩ : MethodName)) hown46_ (mvT hZ46_ (hw _ (List.mem_of_getElem? (i := 62) rfl))) (mvT hZ46_ (hw _ (List.mem_of_getElem? (i := 63) rfl))) (mvT hZ46_ (hw _ (List.mem_of_getElem? (i := 2) rfl))) (mvT hZ46_ (hw _ (List.mem_of_getElem? (i := 64) rfl))) (by decide) (backOf (W := 0) (own_rm_sgn l Z a0 hw [] rc T46_.heap n0 (Nat.le_trans Z0 (Nat.le_trans K40_.1 K46_.1)) ) hZ46_ (hw _ (List.mem_of_getElem? (i := 64) rfl)) (hw _ (List.mem_of_getElem? (i := 2) rfl)) (by decide) (by decide)) (g := (mkF m 123 #[.val (.int p1), .val (.int p2), .val (.int p3), .val (.int p4), .val (.int p5), .val (.int ((p5 &&& (255 : Int32)) % (3 : Int32))), .val (.int ((((p5.toUInt32 >>> ((8 : Int32) &&& 31).toUInt32).toInt32) &&& (255 : Int32)) % (3 : Int32))), .val (.int x1), .val (.int x2), .val (.int x1), .val (.int y2), .val (.ref xA), .val (.ref xB), .val (.int rr)] [(.int rc)])) rfl (by rw [hml]; rfl) (argsL := [(.int rc)]) (rest := []) (lenOf own_pd7 rfl) rfl (by show 2 * 0 + _ ≤ _; exact Nat.le_of_eq rfl) (hb hby at_123) (fun _ _ => ⟨rfl, hh54_, (by decide : 0 + 0 + 0 + 0 + 7 + 7 + 0 + 0 + 0 ≤ _), (by decide : 0 + 0 + 0 + 0 + 23 + 23 + 0 + 0 + 0 ≤ _)⟩)
      dsimp only [Pt.U, Pt.locs, Pt.cells, Pt.slots] at X55_ l55_ y55_ z55_ st55_ hQ55_
      subst l55_ y55_ z55_
      obtain ⟨rs, rfl, Nq55_, hh55_, hrs⟩ := hQ55_
      have N55_ := Fr.app N54_ Nq55_
      refine own_viaH (fun _ k => st55_ _ k) ?_
      show own_FinH _ _ _ _ _ _ _ _ _ T55_ (mkF m 126 #[.val (.int p1), .val (.int p2), .val (.int p3), .val (.int p4), .val (.int p5), .val (.int ((p5 &&& (255 : Int32)) % (3 : Int32))), .val (.int ((((p5.toUInt32 >>> ((8 : Int32) &&& 31).toUInt32).toInt32) &&& (255 : Int32)) % (3 : Int32))), .val (.int x1), .val (.int x2), .val (.int x1), .val (.int y2), .val (.ref xA), .val (.ref xB), .val (.int rr)] [(.int rs)])
      refine own_viaH (fun _ k => XS.iload X55_.here hx rfl (hb hby at_126) rfl k) ?_
      show own_FinH _ _ _ _ _ _ _ _ _ T55_ (mkF m 128 #[.val (.int p1), .val (.int p2), .val (.int p3), .val (.int p4), .val (.int p5), .val (.int ((p5 &&& (255 : Int32)) % (3 : Int32))), .val (.int ((((p5.toUInt32 >>> ((8 : Int32) &&& 31).toUInt32).toInt32) &&& (255 : Int32)) % (3 : Int32))), .val (.int x1), .val (.int x2), .val (.int x1), .val (.int y2), .val (.ref xA), .val (.ref xB), .val (.int rr)] [(.int rr), (.int rs)])
      refine own_viaH (fun _ k => XS.icmpNo X55_.here hx rfl (hb hby at_128) rfl (teq (own_final (own_n03 _) (own_n03 _) hx1 hx2 hx1 hy2 hrc hrr hrs)).2 k) ?_
      show own_FinH _ _ _ _ _ _ _ _ _ T55_ (mkF m 131 #[.val (.int p1), .val (.int p2), .val (.int p3), .val (.int p4), .val (.int p5), .val (.int ((p5 &&& (255 : Int32)) % (3 : Int32))), .val (.int ((((p5.toUInt32 >>> ((8 : Int32) &&& 31).toUInt32).toInt32) &&& (255 : Int32)) % (3 : Int32))), .val (.int x1), .val (.int x2), .val (.int x1), .val (.int y2), .val (.ref xA), .val (.ref xB), .val (.int rr)] [])
      refine own_viaH (fun _ k => XS.iconst X55_.here hx rfl (hb hby at_131) k) ?_
      show own_FinH _ _ _ _ _ _ _ _ _ T55_ (mkF m 132 #[.val (.int p1), .val (.int p2), .val (.int p3), .val (.int p4), .val (.int p5), .val (.int ((p5 &&& (255 : Int32)) % (3 : Int32))), .val (.int ((((p5.toUInt32 >>> ((8 : Int32) &&& 31).toUInt32).toInt32) &&& (255 : Int32)) % (3 : Int32))), .val (.int x1), .val (.int x2), .val (.int x1), .val (.int y2), .val (.ref xA), .val (.ref xB), .val (.int rr)] [(.int (1 : Int32))])
      refine own_viaH (fun _ k => XS.goto X55_.here hx rfl (pc0 := 132) (pc' := 136) rfl (hb hby at_132) (by decide) (by decide) k) ?_
      show own_FinH _ _ _ _ _ _ _ _ _ T55_ (mkF m 136 #[.val (.int p1), .val (.int p2), .val (.int p3), .val (.int p4), .val (.int p5), .val (.int ((p5 &&& (255 : Int32)) % (3 : Int32))), .val (.int ((((p5.toUInt32 >>> ((8 : Int32) &&& 31).toUInt32).toInt32) &&& (255 : Int32)) % (3 : Int32))), .val (.int x1), .val (.int x2), .val (.int x1), .val (.int y2), .val (.ref xA), .val (.ref xB), .val (.int rr)] [(.int (1 : Int32))])
      have C56_ := C47_.trans Cq46_
      have H56_ := C56_.1
      exact own_retNH X55_ hx (t := .boolean) Bd.returns Bd.notSynchronized (own_ew hw) hZ46_ hS46_ (Nat.le_refl _) hh C56_ (by simp) (hb hby at_136) hh55_ rfl ⟨rfl, N55_⟩ (by decide) (by decide)
    · refine own_viaH (fun _ k => XS.ifNo X2_.here hx rfl (hb hby at_63) rfl ((if0 _ _).trans (feq hB).1) k) ?_
      show own_FinH _ _ _ _ _ _ _ _ _ T2_ (mkF m 66 #[.val (.int p1), .val (.int p2), .val (.int p3), .val (.int p4), .val (.int p5), .val (.int ((p5 &&& (255 : Int32)) % (3 : Int32))), .val (.int ((((p5.toUInt32 >>> ((8 : Int32) &&& 31).toUInt32).toInt32) &&& (255 : Int32)) % (3 : Int32))), .val (.int x1), .val (.int x2), .val (.int x1), .unset, .unset, .unset, .unset] [])
      refine own_viaH (fun _ k => XS.iload X2_.here hx rfl (hb hby at_66) rfl k) ?_
      show own_FinH _ _ _ _ _ _ _ _ _ T2_ (mkF m 68 #[.val (.int p1), .val (.int p2), .val (.int p3), .val (.int p4), .val (.int p5), .val (.int ((p5 &&& (255 : Int32)) % (3 : Int32))), .val (.int ((((p5.toUInt32 >>> ((8 : Int32) &&& 31).toUInt32).toInt32) &&& (255 : Int32)) % (3 : Int32))), .val (.int x1), .val (.int x2), .val (.int x1), .unset, .unset, .unset, .unset] [(.int x2)])
      refine own_viaH (fun _ k => XS.goto X2_.here hx rfl (pc0 := 68) (pc' := 75) rfl (hb hby at_68) (by decide) (by decide) k) ?_
      show own_FinH _ _ _ _ _ _ _ _ _ T2_ (mkF m 75 #[.val (.int p1), .val (.int p2), .val (.int p3), .val (.int p4), .val (.int p5), .val (.int ((p5 &&& (255 : Int32)) % (3 : Int32))), .val (.int ((((p5.toUInt32 >>> ((8 : Int32) &&& 31).toUInt32).toInt32) &&& (255 : Int32)) % (3 : Int32))), .val (.int x1), .val (.int x2), .val (.int x1), .unset, .unset, .unset, .unset] [(.int x2)])
      refine own_viaH (fun _ k => XS.istore X2_.here hx rfl (hb hby at_75) rfl (l' := #[.val (.int p1), .val (.int p2), .val (.int p3), .val (.int p4), .val (.int p5), .val (.int ((p5 &&& (255 : Int32)) % (3 : Int32))), .val (.int ((((p5.toUInt32 >>> ((8 : Int32) &&& 31).toUInt32).toInt32) &&& (255 : Int32)) % (3 : Int32))), .val (.int x1), .val (.int x2), .val (.int x1), .val (.int x2), .unset, .unset, .unset]) rfl k) ?_
      show own_FinH _ _ _ _ _ _ _ _ _ T2_ (mkF m 77 #[.val (.int p1), .val (.int p2), .val (.int p3), .val (.int p4), .val (.int p5), .val (.int ((p5 &&& (255 : Int32)) % (3 : Int32))), .val (.int ((((p5.toUInt32 >>> ((8 : Int32) &&& 31).toUInt32).toInt32) &&& (255 : Int32)) % (3 : Int32))), .val (.int x1), .val (.int x2), .val (.int x1), .val (.int x2), .unset, .unset, .unset] [])
      refine own_viaH (fun _ k => XS.iload X2_.here hx rfl (hb hby at_77) rfl k) ?_
      show own_FinH _ _ _ _ _ _ _ _ _ T2_ (mkF m 79 #[.val (.int p1), .val (.int p2), .val (.int p3), .val (.int p4), .val (.int p5), .val (.int ((p5 &&& (255 : Int32)) % (3 : Int32))), .val (.int ((((p5.toUInt32 >>> ((8 : Int32) &&& 31).toUInt32).toInt32) &&& (255 : Int32)) % (3 : Int32))), .val (.int x1), .val (.int x2), .val (.int x1), .val (.int x2), .unset, .unset, .unset] [(.int ((p5 &&& (255 : Int32)) % (3 : Int32)))])
      refine own_viaH (fun _ k => XS.iload X2_.here hx rfl (hb hby at_79) rfl k) ?_
      show own_FinH _ _ _ _ _ _ _ _ _ T2_ (mkF m 81 #[.val (.int p1), .val (.int p2), .val (.int p3), .val (.int p4), .val (.int p5), .val (.int ((p5 &&& (255 : Int32)) % (3 : Int32))), .val (.int ((((p5.toUInt32 >>> ((8 : Int32) &&& 31).toUInt32).toInt32) &&& (255 : Int32)) % (3 : Int32))), .val (.int x1), .val (.int x2), .val (.int x1), .val (.int x2), .unset, .unset, .unset] [(.int x1), (.int ((p5 &&& (255 : Int32)) % (3 : Int32)))])
      refine own_viaH (fun _ k => XS.iload X2_.here hx rfl (hb hby at_81) rfl k) ?_
      show own_FinH _ _ _ _ _ _ _ _ _ T2_ (mkF m 83 #[.val (.int p1), .val (.int p2), .val (.int p3), .val (.int p4), .val (.int p5), .val (.int ((p5 &&& (255 : Int32)) % (3 : Int32))), .val (.int ((((p5.toUInt32 >>> ((8 : Int32) &&& 31).toUInt32).toInt32) &&& (255 : Int32)) % (3 : Int32))), .val (.int x1), .val (.int x2), .val (.int x1), .val (.int x2), .unset, .unset, .unset] [(.int x2), (.int x1), (.int ((p5 &&& (255 : Int32)) % (3 : Int32)))])
      obtain ⟨_, _, ⟨T57_, L57_, k57_, n57_⟩, -, Y57_, hSq57_, hgq57_, ⟨Lc57_, hQ57_, l57_, y57_, z57_, Cq57_⟩, st57_⟩ := callSS X2_ hx (y := (⟨"com/example/co_occurrence_ranking/cooccurrenceranking/io/LineReaderCompareFieldsPinLaw", "str", "(III)Ljava/lang/String;"⟩ : MethodName)) hown (mvT hZ (hw _ (List.mem_of_getElem? (i := 8) rfl))) (mvT hZ (hw _ (List.mem_of_getElem? (i := 9) rfl))) (mvT hZ (hw _ (List.mem_of_getElem? (i := 2) rfl))) (mvT hZ (hw _ (List.mem_of_getElem? (i := 10) rfl))) (by decide) (backOfSH (s := s) (vm0 := s.vm) (W := 0) (own_rm_str l Z a0 hw [] ((p5 &&& (255 : Int32)) % (3 : Int32)) x1 x2 cz h0 n0 Z0 O0 S1 (by first | assumption | decide) S3 S4 S5 (own_n03 _) hx1 hx2) hZ (hw _ (List.mem_of_getElem? (i := 10) rfl)) (hw _ (List.mem_of_getElem? (i := 2) rfl)) (by decide) (by decide) (own_ew hw) H0) (g := (mkF m 83 #[.val (.int p1), .val (.int p2), .val (.int p3), .val (.int p4), .val (.int p5), .val (.int ((p5 &&& (255 : Int32)) % (3 : Int32))), .val (.int ((((p5.toUInt32 >>> ((8 : Int32) &&& 31).toUInt32).toInt32) &&& (255 : Int32)) % (3 : Int32))), .val (.int x1), .val (.int x2), .val (.int x1), .val (.int x2), .unset, .unset, .unset] [(.int x2), (.int x1), (.int ((p5 &&& (255 : Int32)) % (3 : Int32)))])) rfl (by rw [hml]; rfl) (argsL := [(.int ((p5 &&& (255 : Int32)) % (3 : Int32))), (.int x1), (.int x2)]) (rest := []) (lenOf own_pd23 rfl) rfl (by show 2 * 0 + _ ≤ _; exact Nat.le_of_eq rfl) (hb hby at_83) (fun _ _ => ⟨rfl, hh2_, (by decide : 0 + 0 + 0 + 7 ≤ _), (by decide : 0 + 0 + 0 + 23 ≤ _)⟩)
      dsimp only [Pt.U, Pt.locs, Pt.cells, Pt.slots] at Y57_ l57_ y57_ z57_ st57_ hQ57_ hSq57_ hgq57_ Cq57_
      subst l57_ y57_ z57_
      obtain ⟨X57_, hS57_, hZ57_, hown57_⟩ := rebS hS0 (by rw [hh2_]; exact hk0) Y57_ hSq57_ hgq57_ hZ hown
      obtain ⟨xA, tA, ktA, cdA, NA, vsA, rfl, Nq57_, K57_, r58_, r59_, r60_, r61_, r62_, hcodA⟩ := hQ57_
      have N57_ := Fr.app N2_ Nq57_
      refine own_viaH (fun _ k => st57_.trans k) ?_
      show own_FinH _ _ _ _ _ _ _ _ _ T57_ (mkF m 86 #[.val (.int p1), .val (.int p2), .val (.int p3), .val (.int p4), .val (.int p5), .val (.int ((p5 &&& (255 : Int32)) % (3 : Int32))), .val (.int ((((p5.toUInt32 >>> ((8 : Int32) &&& 31).toUInt32).toInt32) &&& (255 : Int32)) % (3 : Int32))), .val (.int x1), .val (.int x2), .val (.int x1), .val (.int x2), .unset, .unset, .unset] [(.ref xA)])
      refine own_viaH (fun _ k => XS.astore X57_.here hx rfl (hb hby at_86) rfl rfl (l' := #[.val (.int p1), .val (.int p2), .val (.int p3), .val (.int p4), .val (.int p5), .val (.int ((p5 &&& (255 : Int32)) % (3 : Int32))), .val (.int ((((p5.toUInt32 >>> ((8 : Int32) &&& 31).toUInt32).toInt32) &&& (255 : Int32)) % (3 : Int32))), .val (.int x1), .val (.int x2), .val (.int x1), .val (.int x2), .val (.ref xA), .unset, .unset]) rfl k) ?_
      show own_FinH _ _ _ _ _ _ _ _ _ T57_ (mkF m 88 #[.val (.int p1), .val (.int p2), .val (.int p3), .val (.int p4), .val (.int p5), .val (.int ((p5 &&& (255 : Int32)) % (3 : Int32))), .val (.int ((((p5.toUInt32 >>> ((8 : Int32) &&& 31).toUInt32).toInt32) &&& (255 : Int32)) % (3 : Int32))), .val (.int x1), .val (.int x2), .val (.int x1), .val (.int x2), .val (.ref xA), .unset, .unset] [])
      refine own_viaH (fun _ k => XS.iload X57_.here hx rfl (hb hby at_88) rfl k) ?_
      show own_FinH _ _ _ _ _ _ _ _ _ T57_ (mkF m 90 #[.val (.int p1), .val (.int p2), .val (.int p3), .val (.int p4), .val (.int p5), .val (.int ((p5 &&& (255 : Int32)) % (3 : Int32))), .val (.int ((((p5.toUInt32 >>> ((8 : Int32) &&& 31).toUInt32).toInt32) &&& (255 : Int32)) % (3 : Int32))), .val (.int x1), .val (.int x2), .val (.int x1), .val (.int x2), .val (.ref xA), .unset, .unset] [(.int ((((p5.toUInt32 >>> ((8 : Int32) &&& 31).toUInt32).toInt32) &&& (255 : Int32)) % (3 : Int32)))])
      refine own_viaH (fun _ k => XS.iload X57_.here hx rfl (hb hby at_90) rfl k) ?_
      show own_FinH _ _ _ _ _ _ _ _ _ T57_ (mkF m 92 #[.val (.int p1), .val (.int p2), .val (.int p3), .val (.int p4), .val (.int p5), .val (.int ((p5 &&& (255 : Int32)) % (3 : Int32))), .val (.int ((((p5.toUInt32 >>> ((8 : Int32) &&& 31).toUInt32).toInt32) &&& (255 : Int32)) % (3 : Int32))), .val (.int x1), .val (.int x2), .val (.int x1), .val (.int x2), .val (.ref xA), .unset, .unset] [(.int x1), (.int ((((p5.toUInt32 >>> ((8 : Int32) &&& 31).toUInt32).toInt32) &&& (255 : Int32)) % (3 : Int32)))])
      refine own_viaH (fun _ k => XS.iload X57_.here hx rfl (hb hby at_92) rfl k) ?_
      show own_FinH _ _ _ _ _ _ _ _ _ T57_ (mkF m 94 #[.val (.int p1), .val (.int p2), .val (.int p3), .val (.int p4), .val (.int p5), .val (.int ((p5 &&& (255 : Int32)) % (3 : Int32))), .val (.int ((((p5.toUInt32 >>> ((8 : Int32) &&& 31).toUInt32).toInt32) &&& (255 : Int32)) % (3 : Int32))), .val (.int x1), .val (.int x2), .val (.int x1), .val (.int x2), .val (.ref xA), .unset, .unset] [(.int x2), (.int x1), (.int ((((p5.toUInt32 >>> ((8 : Int32) &&& 31).toUInt32).toInt32) &&& (255 : Int32)) % (3 : Int32)))])
      have C64_ := C0.trans Cq57_
      have H64_ := C64_.1
      obtain ⟨_, _, ⟨T63_, L63_, k63_, n63_⟩, -, Y63_, hSq63_, hgq63_, ⟨Lc63_, hQ63_, l63_, y63_, z63_, Cq63_⟩, st63_⟩ := callSS X57_ hx (y := (⟨"com/example/co_occurrence_ranking/cooccurrenceranking/io/LineReaderCompareFieldsPinLaw", "str", "(III)Ljava/lang/String;"⟩ : MethodName)) hown57_ (mvT hZ57_ (hw _ (List.mem_of_getElem? (i := 8) rfl))) (mvT hZ57_ (hw _ (List.mem_of_getElem? (i := 9) rfl))) (mvT hZ57_ (hw _ (List.mem_of_getElem? (i := 2) rfl))) (mvT hZ57_ (hw _ (List.mem_of_getElem? (i := 10) rfl))) (by decide) (backOfSH (s := s) (vm0 := T57_.vm) (W := 0) (own_rm_str l Z a0 hw [] ((((p5.toUInt32 >>> ((8 : Int32) &&& 31).toUInt32).toInt32) &&& (255 : Int32)) % (3 : Int32)) x1 x2 cz T57_.heap n0 (Nat.le_trans Z0 K57_.1) (O0.keep K57_ all0) S1 (by first | assumption | decide) S3 S4 S5 (own_n03 _) hx1 hx2) hZ57_ (hw _ (List.mem_of_getElem? (i := 10) rfl)) (hw _ (List.mem_of_getElem? (i := 2) rfl)) (by decide) (by decide) (own_ew hw) H64_) (g := (mkF m 94 #[.val (.int p1), .val (.int p2), .val (.int p3), .val (.int p4), .val (.int p5), .val (.int ((p5 &&& (255 : Int32)) % (3 : Int32))), .val (.int ((((p5.toUInt32 >>> ((8 : Int32) &&& 31).toUInt32).toInt32) &&& (255 : Int32)) % (3 : Int32))), .val (.int x1), .val (.int x2), .val (.int x1), .val (.int x2), .val (.ref xA), .unset, .unset] [(.int x2), (.int x1), (.int ((((p5.toUInt32 >>> ((8 : Int32) &&& 31).toUInt32).toInt32) &&& (255 : Int32)) % (3 : Int32)))])) rfl (by rw [hml]; rfl) (argsL := [(.int ((((p5.toUInt32 >>> ((8 : Int32) &&& 31).toUInt32).toInt32) &&& (255 : Int32)) % (3 : Int32))), (.int x1), (.int x2)]) (rest := []) (lenOf own_pd23 rfl) rfl (by show 2 * 0 + _ ≤ _; exact Nat.le_of_eq rfl) (hb hby at_94) (fun _ _ => ⟨rfl, rfl, (by decide : 0 + 0 + 0 + 7 + 7 ≤ _), (by decide : 0 + 0 + 0 + 23 + 23 ≤ _)⟩)
      dsimp only [Pt.U, Pt.locs, Pt.cells, Pt.slots] at Y63_ l63_ y63_ z63_ st63_ hQ63_ hSq63_ hgq63_ Cq63_
      subst l63_ y63_ z63_
      obtain ⟨X63_, hS63_, hZ63_, hown63_⟩ := rebS hS57_ ((Nat.le_refl _)) Y63_ hSq63_ hgq63_ hZ57_ hown57_
      obtain ⟨xB, tB, ktB, cdB, NB, vsB, rfl, Nq63_, K63_, r65_, r66_, r67_, r68_, r69_, hcodB⟩ := hQ63_
      have N63_ := Fr.app N57_ Nq63_
      refine own_viaH (fun _ k => st63_.trans k) ?_
      show own_FinH _ _ _ _ _ _ _ _ _ T63_ (mkF m 97 #[.val (.int p1), .val (.int p2), .val (.int p3), .val (.int p4), .val (.int p5), .val (.int ((p5 &&& (255 : Int32)) % (3 : Int32))), .val (.int ((((p5.toUInt32 >>> ((8 : Int32) &&& 31).toUInt32).toInt32) &&& (255 : Int32)) % (3 : Int32))), .val (.int x1), .val (.int x2), .val (.int x1), .val (.int x2), .val (.ref xA), .unset, .unset] [(.ref xB)])
      refine own_viaH (fun _ k => XS.astore X63_.here hx rfl (hb hby at_97) rfl rfl (l' := #[.val (.int p1), .val (.int p2), .val (.int p3), .val (.int p4), .val (.int p5), .val (.int ((p5 &&& (255 : Int32)) % (3 : Int32))), .val (.int ((((p5.toUInt32 >>> ((8 : Int32) &&& 31).toUInt32).toInt32) &&& (255 : Int32)) % (3 : Int32))), .val (.int x1), .val (.int x2), .val (.int x1), .val (.int x2), .val (.ref xA), .val (.ref xB), .unset]) rfl k) ?_
      show own_FinH _ _ _ _ _ _ _ _ _ T63_ (mkF m 99 #[.val (.int p1), .val (.int p2), .val (.int p3), .val (.int p4), .val (.int p5), .val (.int ((p5 &&& (255 : Int32)) % (3 : Int32))), .val (.int ((((p5.toUInt32 >>> ((8 : Int32) &&& 31).toUInt32).toInt32) &&& (255 : Int32)) % (3 : Int32))), .val (.int x1), .val (.int x2), .val (.int x1), .val (.int x2), .val (.ref xA), .val (.ref xB), .unset] [])
      refine own_viaH (fun _ k => XS.iload X63_.here hx rfl (hb hby at_99) rfl k) ?_
      show own_FinH _ _ _ _ _ _ _ _ _ T63_ (mkF m 101 #[.val (.int p1), .val (.int p2), .val (.int p3), .val (.int p4), .val (.int p5), .val (.int ((p5 &&& (255 : Int32)) % (3 : Int32))), .val (.int ((((p5.toUInt32 >>> ((8 : Int32) &&& 31).toUInt32).toInt32) &&& (255 : Int32)) % (3 : Int32))), .val (.int x1), .val (.int x2), .val (.int x1), .val (.int x2), .val (.ref xA), .val (.ref xB), .unset] [(.int ((p5 &&& (255 : Int32)) % (3 : Int32)))])
      refine own_viaH (fun _ k => XS.iload X63_.here hx rfl (hb hby at_101) rfl k) ?_
      show own_FinH _ _ _ _ _ _ _ _ _ T63_ (mkF m 103 #[.val (.int p1), .val (.int p2), .val (.int p3), .val (.int p4), .val (.int p5), .val (.int ((p5 &&& (255 : Int32)) % (3 : Int32))), .val (.int ((((p5.toUInt32 >>> ((8 : Int32) &&& 31).toUInt32).toInt32) &&& (255 : Int32)) % (3 : Int32))), .val (.int x1), .val (.int x2), .val (.int x1), .val (.int x2), .val (.ref xA), .val (.ref xB), .unset] [(.int x1), (.int ((p5 &&& (255 : Int32)) % (3 : Int32)))])
      refine own_viaH (fun _ k => XS.iload X63_.here hx rfl (hb hby at_103) rfl k) ?_
      show own_FinH _ _ _ _ _ _ _ _ _ T63_ (mkF m 105 #[.val (.int p1), .val (.int p2), .val (.int p3), .val (.int p4), .val (.int p5), .val (.int ((p5 &&& (255 : Int32)) % (3 : Int32))), .val (.int ((((p5.toUInt32 >>> ((8 : Int32) &&& 31).toUInt32).toInt32) &&& (255 : Int32)) % (3 : Int32))), .val (.int x1), .val (.int x2), .val (.int x1), .val (.int x2), .val (.ref xA), .val (.ref xB), .unset] [(.int x2), (.int x1), (.int ((p5 &&& (255 : Int32)) % (3 : Int32)))])
      refine own_viaH (fun _ k => XS.iload X63_.here hx rfl (hb hby at_105) rfl k) ?_
      show own_FinH _ _ _ _ _ _ _ _ _ T63_ (mkF m 107 #[.val (.int p1), .val (.int p2), .val (.int p3), .val (.int p4), .val (.int p5), .val (.int ((p5 &&& (255 : Int32)) % (3 : Int32))), .val (.int ((((p5.toUInt32 >>> ((8 : Int32) &&& 31).toUInt32).toInt32) &&& (255 : Int32)) % (3 : Int32))), .val (.int x1), .val (.int x2), .val (.int x1), .val (.int x2), .val (.ref xA), .val (.ref xB), .unset] [(.int ((((p5.toUInt32 >>> ((8 : Int32) &&& 31).toUInt32).toInt32) &&& (255 : Int32)) % (3 : Int32))), (.int x2), (.int x1), (.int ((p5 &&& (255 : Int32)) % (3 : Int32)))])
      refine own_viaH (fun _ k => XS.iload X63_.here hx rfl (hb hby at_107) rfl k) ?_
      show own_FinH _ _ _ _ _ _ _ _ _ T63_ (mkF m 109 #[.val (.int p1), .val (.int p2), .val (.int p3), .val (.int p4), .val (.int p5), .val (.int ((p5 &&& (255 : Int32)) % (3 : Int32))), .val (.int ((((p5.toUInt32 >>> ((8 : Int32) &&& 31).toUInt32).toInt32) &&& (255 : Int32)) % (3 : Int32))), .val (.int x1), .val (.int x2), .val (.int x1), .val (.int x2), .val (.ref xA), .val (.ref xB), .unset] [(.int x1), (.int ((((p5.toUInt32 >>> ((8 : Int32) &&& 31).toUInt32).toInt32) &&& (255 : Int32)) % (3 : Int32))), (.int x2), (.int x1), (.int ((p5 &&& (255 : Int32)) % (3 : Int32)))])
      refine own_viaH (fun _ k => XS.iload X63_.here hx rfl (hb hby at_109) rfl k) ?_
      show own_FinH _ _ _ _ _ _ _ _ _ T63_ (mkF m 111 #[.val (.int p1), .val (.int p2), .val (.int p3), .val (.int p4), .val (.int p5), .val (.int ((p5 &&& (255 : Int32)) % (3 : Int32))), .val (.int ((((p5.toUInt32 >>> ((8 : Int32) &&& 31).toUInt32).toInt32) &&& (255 : Int32)) % (3 : Int32))), .val (.int x1), .val (.int x2), .val (.int x1), .val (.int x2), .val (.ref xA), .val (.ref xB), .unset] [(.int x2), (.int x1), (.int ((((p5.toUInt32 >>> ((8 : Int32) &&& 31).toUInt32).toInt32) &&& (255 : Int32)) % (3 : Int32))), (.int x2), (.int x1), (.int ((p5 &&& (255 : Int32)) % (3 : Int32)))])
      obtain ⟨_, _, ⟨T70_, L70_, k70_, n70_⟩, -, X70_, ⟨Lc70_, hQ70_, l70_, y70_, z70_⟩, st70_⟩ := Jvm.LawKit.callS X63_ hx (y := (⟨"com/example/co_occurrence_ranking/cooccurrenceranking/io/LineReaderCompareFieldsPinLaw", "ref", "(IIIIII)I"⟩ : MethodName)) hown63_ (mvT hZ63_ (hw _ (List.mem_of_getElem? (i := 33) rfl))) (mvT hZ63_ (hw _ (List.mem_of_getElem? (i := 34) rfl))) (mvT hZ63_ (hw _ (List.mem_of_getElem? (i := 2) rfl))) (mvT hZ63_ (hw _ (List.mem_of_getElem? (i := 35) rfl))) (by decide) (backOf (W := 0) (own_rm_ref l Z a0 hw [] ((p5 &&& (255 : Int32)) % (3 : Int32)) x1 x2 ((((p5.toUInt32 >>> ((8 : Int32) &&& 31).toUInt32).toInt32) &&& (255 : Int32)) % (3 : Int32)) x1 x2 T63_.heap n0 (Nat.le_trans Z0 (Nat.le_trans K57_.1 K63_.1)) ) hZ63_ (hw _ (List.mem_of_getElem? (i := 35) rfl)) (hw _ (List.mem_of_getElem? (i := 2) rfl)) (by decide) (by decide)) (g := (mkF m 111 #[.val (.int p1), .val (.int p2), .val (.int p3), .val (.int p4), .val (.int p5), .val (.int ((p5 &&& (255 : Int32)) % (3 : Int32))), .val (.int ((((p5.toUInt32 >>> ((8 : Int32) &&& 31).toUInt32).toInt32) &&& (255 : Int32)) % (3 : Int32))), .val (.int x1), .val (.int x2), .val (.int x1), .val (.int x2), .val (.ref xA), .val (.ref xB), .unset] [(.int x2), (.int x1), (.int ((((p5.toUInt32 >>> ((8 : Int32) &&& 31).toUInt32).toInt32) &&& (255 : Int32)) % (3 : Int32))), (.int x2), (.int x1), (.int ((p5 &&& (255 : Int32)) % (3 : Int32)))])) rfl (by rw [hml]; rfl) (argsL := [(.int ((p5 &&& (255 : Int32)) % (3 : Int32))), (.int x1), (.int x2), (.int ((((p5.toUInt32 >>> ((8 : Int32) &&& 31).toUInt32).toInt32) &&& (255 : Int32)) % (3 : Int32))), (.int x1), (.int x2)]) (rest := []) (lenOf own_pd24 rfl) rfl (by show 2 * 0 + _ ≤ _; exact Nat.le_of_eq rfl) (hb hby at_111) (fun _ _ => ⟨rfl, rfl, (by decide : 0 + 0 + 0 + 7 + 7 + 0 ≤ _), (by decide : 0 + 0 + 0 + 23 + 23 + 0 ≤ _)⟩)
      dsimp only [Pt.U, Pt.locs, Pt.cells, Pt.slots] at X70_ l70_ y70_ z70_ st70_ hQ70_
      subst l70_ y70_ z70_
      obtain ⟨rr, rfl, Nq70_, hh70_, hrr⟩ := hQ70_
      have N70_ := Fr.app N63_ Nq70_
      refine own_viaH (fun _ k => st70_ _ k) ?_
      show own_FinH _ _ _ _ _ _ _ _ _ T70_ (mkF m 114 #[.val (.int p1), .val (.int p2), .val (.int p3), .val (.int p4), .val (.int p5), .val (.int ((p5 &&& (255 : Int32)) % (3 : Int32))), .val (.int ((((p5.toUInt32 >>> ((8 : Int32) &&& 31).toUInt32).toInt32) &&& (255 : Int32)) % (3 : Int32))), .val (.int x1), .val (.int x2), .val (.int x1), .val (.int x2), .val (.ref xA), .val (.ref xB), .unset] [(.int rr)])
      refine own_viaH (fun _ k => XS.istore X70_.here hx rfl (hb hby at_114) rfl (l' := #[.val (.int p1), .val (.int p2), .val (.int p3), .val (.int p4), .val (.int p5), .val (.int ((p5 &&& (255 : Int32)) % (3 : Int32))), .val (.int ((((p5.toUInt32 >>> ((8 : Int32) &&& 31).toUInt32).toInt32) &&& (255 : Int32)) % (3 : Int32))), .val (.int x1), .val (.int x2), .val (.int x1), .val (.int x2), .val (.ref xA), .val (.ref xB), .val (.int rr)]) rfl k) ?_
      show own_FinH _ _ _ _ _ _ _ _ _ T70_ (mkF m 116 #[.val (.int p1), .val (.int p2), .val (.int p3), .val (.int p4), .val (.int p5), .val (.int ((p5 &&& (255 : Int32)) % (3 : Int32))), .val (.int ((((p5.toUInt32 >>> ((8 : Int32) &&& 31).toUInt32).toInt32) &&& (255 : Int32)) % (3 : Int32))), .val (.int x1), .val (.int x2), .val (.int x1), .val (.int x2), .val (.ref xA), .val (.ref xB), .val (.int rr)] [])
      refine own_viaH (fun _ k => XS.aload X70_.here hx rfl (hb hby at_116) rfl rfl k) ?_
      show own_FinH _ _ _ _ _ _ _ _ _ T70_ (mkF m 118 #[.val (.int p1), .val (.int p2), .val (.int p3), .val (.int p4), .val (.int p5), .val (.int ((p5 &&& (255 : Int32)) % (3 : Int32))), .val (.int ((((p5.toUInt32 >>> ((8 : Int32) &&& 31).toUInt32).toInt32) &&& (255 : Int32)) % (3 : Int32))), .val (.int x1), .val (.int x2), .val (.int x1), .val (.int x2), .val (.ref xA), .val (.ref xB), .val (.int rr)] [(.ref xA)])
      refine own_viaH (fun _ k => XS.aload X70_.here hx rfl (hb hby at_118) rfl rfl k) ?_
      show own_FinH _ _ _ _ _ _ _ _ _ T70_ (mkF m 120 #[.val (.int p1), .val (.int p2), .val (.int p3), .val (.int p4), .val (.int p5), .val (.int ((p5 &&& (255 : Int32)) % (3 : Int32))), .val (.int ((((p5.toUInt32 >>> ((8 : Int32) &&& 31).toUInt32).toInt32) &&& (255 : Int32)) % (3 : Int32))), .val (.int x1), .val (.int x2), .val (.int x1), .val (.int x2), .val (.ref xA), .val (.ref xB), .val (.int rr)] [(.ref xB), (.ref xA)])
      obtain ⟨_, _, ⟨T71_, L71_, k71_, n71_⟩, -, X71_, ⟨Lc71_, hQ71_, l71_, y71_, z71_⟩, st71_⟩ := Jvm.LawKit.callS X70_ hx (y := (⟨"com/example/co_occurrence_ranking/cooccurrenceranking/io/LineReader", "compareFields", "(Ljava/lang/String;Ljava/lang/String;)I"⟩ : MethodName)) hown63_ (mvT hZ63_ (hw _ (List.mem_of_getElem? (i := 39) rfl))) (mvT hZ63_ (hw _ (List.mem_of_getElem? (i := 40) rfl))) (mvT hZ63_ (hw _ (List.mem_of_getElem? (i := 41) rfl))) (mvT hZ63_ (hw _ (List.mem_of_getElem? (i := 42) rfl))) (by decide) (backOf (W := 0) (own_rm_cmpF l Z a0 hw [] xA cz tA ktA cdA NA vsA (own_units ((p5 &&& (255 : Int32)) % (3 : Int32)) x1 x2) fm xB tB ktB cdB NB vsB (own_units ((((p5.toUInt32 >>> ((8 : Int32) &&& 31).toUInt32).toInt32) &&& (255 : Int32)) % (3 : Int32)) x1 x2) T63_.heap n0 (Nat.le_trans Z0 (Nat.le_trans K57_.1 K63_.1)) ((O0.keep K57_ all0).keep K63_ all0) S1 (by first | assumption | decide) S2 r_fm S3 S4 S5 (r59_.keep K63_) (r60_.keep K63_ nin0) (r61_.keep K63_ nin0) (r62_.keep K63_ nin0) hcodA (own_ulen _ _ _) (own_uchs (own_n03 _) hx1 hx2) r66_ r67_ r68_ r69_ hcodB (own_ulen _ _ _) (own_uchs (own_n03 _) hx1 hx2)) hZ63_ (hw _ (List.mem_of_getElem? (i := 42) rfl)) (hw _ (List.mem_of_getElem? (i := 41) rfl)) (by decide) (by decide)) (g := (mkF m 120 #[.val (.int p1), .val (.int p2), .val (.int p3), .val (.int p4), .val (.int p5), .val (.int ((p5 &&& (255 : Int32)) % (3 : Int32))), .val (.int ((((p5.toUInt32 >>> ((8 : Int32) &&& 31).toUInt32).toInt32) &&& (255 : Int32)) % (3 : Int32))), .val (.int x1), .val (.int x2), .val (.int x1), .val (.int x2), .val (.ref xA), .val (.ref xB), .val (.int rr)] [(.ref xB), (.ref xA)])) rfl (by rw [hml]; rfl) (argsL := [(.ref xA), (.ref xB)]) (rest := []) (lenOf own_pd25 rfl) rfl (by show 2 * 0 + _ ≤ _; exact Nat.le_of_eq rfl) (hb hby at_120) (fun _ _ => ⟨rfl, hh70_, (by decide : 0 + 0 + 0 + 7 + 7 + 0 + 0 ≤ _), (by decide : 0 + 0 + 0 + 23 + 23 + 0 + 0 ≤ _)⟩)
      dsimp only [Pt.U, Pt.locs, Pt.cells, Pt.slots] at X71_ l71_ y71_ z71_ st71_ hQ71_
      subst l71_ y71_ z71_
      obtain ⟨rc, rfl, Nq71_, hh71_, hrc⟩ := hQ71_
      have N71_ := Fr.app N70_ Nq71_
      refine own_viaH (fun _ k => st71_ _ k) ?_
      show own_FinH _ _ _ _ _ _ _ _ _ T71_ (mkF m 123 #[.val (.int p1), .val (.int p2), .val (.int p3), .val (.int p4), .val (.int p5), .val (.int ((p5 &&& (255 : Int32)) % (3 : Int32))), .val (.int ((((p5.toUInt32 >>> ((8 : Int32) &&& 31).toUInt32).toInt32) &&& (255 : Int32)) % (3 : Int32))), .val (.int x1), .val (.int x2), .val (.int x1), .val (.int x2), .val (.ref xA), .val (.ref xB), .val (.int rr)] [(.int rc)])
      obtain ⟨_, _, ⟨T72_, L72_, k72_, n72_⟩, -, X72_, ⟨Lc72_, hQ72_, l72_, y72_, z72_⟩, st72_⟩ := Jvm.LawKit.callS X71_ hx (y := (⟨"com/example/co_occurrence_ranking/cooccurrenceranking/io/LineReaderCompareFieldsPinLaw", "sgn", "(I)I"⟩ : MethodName)) hown63_ (mvT hZ63_ (hw _ (List.mem_of_getElem? (i := 62) rfl))) (mvT hZ63_ (hw _ (List.mem_of_getElem? (i := 63) rfl))) (mvT hZ63_ (hw _ (List.mem_of_getElem? (i := 2) rfl))) (mvT hZ63_ (hw _ (List.mem_of_getElem? (i := 64) rfl))) (by decide) (backOf (W := 0) (own_rm_sgn l Z a0 hw [] rc T63_.heap n0 (Nat.le_trans Z0 (Nat.le_trans K57_.1 K63_.1)) ) hZ63_ (hw _ (List.mem_of_getElem? (i := 64) rfl)) (hw _ (List.mem_of_getElem? (i := 2) rfl)) (by decide) (by decide)) (g := (mkF m 123 #[.val (.int p1), .val (.int p2), .val (.int p3), .val (.int p4), .val (.int p5), .val (.int ((p5 &&& (255 : Int32)) % (3 : Int32))), .val (.int ((((p5.toUInt32 >>> ((8 : Int32) &&& 31).toUInt32).toInt32) &&& (255 : Int32)) % (3 : Int32))), .val (.int x1), .val (.int x2), .val (.int x1), .val (.int x2), .val (.ref xA), .val (.ref xB), .val (.int rr)] [(.int rc)])) rfl (by rw [hml]; rfl) (argsL := [(.int rc)]) (rest := []) (lenOf own_pd7 rfl) rfl (by show 2 * 0 + _ ≤ _; exact Nat.le_of_eq rfl) (hb hby at_123) (fun _ _ => ⟨rfl, hh71_, (by decide : 0 + 0 + 0 + 7 + 7 + 0 + 0 + 0 ≤ _), (by decide : 0 + 0 + 0 + 23 + 23 + 0 + 0 + 0 ≤ _)⟩)
      dsimp only [Pt.U, Pt.locs, Pt.cells, Pt.slots] at X72_ l72_ y72_ z72_ st72_ hQ72_
      subst l72_ y72_ z72_
      obtain ⟨rs, rfl, Nq72_, hh72_, hrs⟩ := hQ72_
      have N72_ := Fr.app N71_ Nq72_
      refine own_viaH (fun _ k => st72_ _ k) ?_
      show own_FinH _ _ _ _ _ _ _ _ _ T72_ (mkF m 126 #[.val (.int p1), .val (.int p2), .val (.int p3), .val (.int p4), .val (.int p5), .val (.int ((p5 &&& (255 : Int32)) % (3 : Int32))), .val (.int ((((p5.toUInt32 >>> ((8 : Int32) &&& 31).toUInt32).toInt32) &&& (255 : Int32)) % (3 : Int32))), .val (.int x1), .val (.int x2), .val (.int x1), .val (.int x2), .val (.ref xA), .val (.ref xB), .val (.int rr)] [(.int rs)])
      refine own_viaH (fun _ k => XS.iload X72_.here hx rfl (hb hby at_126) rfl k) ?_
      show own_FinH _ _ _ _ _ _ _ _ _ T72_ (mkF m 128 #[.val (.int p1), .val (.int p2), .val (.int p3), .val (.int p4), .val (.int p5), .val (.int ((p5 &&& (255 : Int32)) % (3 : Int32))), .val (.int ((((p5.toUInt32 >>> ((8 : Int32) &&& 31).toUInt32).toInt32) &&& (255 : Int32)) % (3 : Int32))), .val (.int x1), .val (.int x2), .val (.int x1), .val (.int x2), .val (.ref xA), .val (.ref xB), .val (.int rr)] [(.int rr), (.int rs)])
      refine own_viaH (fun _ k => XS.icmpNo X72_.here hx rfl (hb hby at_128) rfl (teq (own_final (own_n03 _) (own_n03 _) hx1 hx2 hx1 hx2 hrc hrr hrs)).2 k) ?_
      show own_FinH _ _ _ _ _ _ _ _ _ T72_ (mkF m 131 #[.val (.int p1), .val (.int p2), .val (.int p3), .val (.int p4), .val (.int p5), .val (.int ((p5 &&& (255 : Int32)) % (3 : Int32))), .val (.int ((((p5.toUInt32 >>> ((8 : Int32) &&& 31).toUInt32).toInt32) &&& (255 : Int32)) % (3 : Int32))), .val (.int x1), .val (.int x2), .val (.int x1), .val (.int x2), .val (.ref xA), .val (.ref xB), .val (.int rr)] [])
      refine own_viaH (fun _ k => XS.iconst X72_.here hx rfl (hb hby at_131) k) ?_
      show own_FinH _ _ _ _ _ _ _ _ _ T72_ (mkF m 132 #[.val (.int p1), .val (.int p2), .val (.int p3), .val (.int p4), .val (.int p5), .val (.int ((p5 &&& (255 : Int32)) % (3 : Int32))), .val (.int ((((p5.toUInt32 >>> ((8 : Int32) &&& 31).toUInt32).toInt32) &&& (255 : Int32)) % (3 : Int32))), .val (.int x1), .val (.int x2), .val (.int x1), .val (.int x2), .val (.ref xA), .val (.ref xB), .val (.int rr)] [(.int (1 : Int32))])
      refine own_viaH (fun _ k => XS.goto X72_.here hx rfl (pc0 := 132) (pc' := 136) rfl (hb hby at_132) (by decide) (by decide) k) ?_
      show own_FinH _ _ _ _ _ _ _ _ _ T72_ (mkF m 136 #[.val (.int p1), .val (.int p2), .val (.int p3), .val (.int p4), .val (.int p5), .val (.int ((p5 &&& (255 : Int32)) % (3 : Int32))), .val (.int ((((p5.toUInt32 >>> ((8 : Int32) &&& 31).toUInt32).toInt32) &&& (255 : Int32)) % (3 : Int32))), .val (.int x1), .val (.int x2), .val (.int x1), .val (.int x2), .val (.ref xA), .val (.ref xB), .val (.int rr)] [(.int (1 : Int32))])
      have C73_ := C64_.trans Cq63_
      have H73_ := C73_.1
      exact own_retNH X72_ hx (t := .boolean) Bd.returns Bd.notSynchronized (own_ew hw) hZ63_ hS63_ (Nat.le_refl _) hh C73_ (by simp) (hb hby at_136) hh72_ rfl ⟨rfl, N72_⟩ (by decide) (by decide)
set_option maxRecDepth 65536 in
set_option maxHeartbeats 40000000 in
theorem comes_1 {Post : Tables → Env → Array Value → State → Outcome → State → Prop} (hpost : ∀ tb e args s v u, (limb_1_1.after args s (.returned v) u = true ∧ limb_1_2.after args s (.returned v) u = true ∧ True) → ReturnedEndW s (.returned v) u (Jvm.fieldLocs frame_1_writes args s ++ Jvm.arrayLocs frame_1_arrays args s ++ Jvm.staticLocs frame_1_statics s) 32 1216 → Post tb e args s (.returned v) u) :
    ArmFor flags0 classFile x code maxLocals ret World_1 tables_1 room_1 Calls_1 rest_1 Pre_1 Post := by
  intro l hfl _ _ p e ha hc hk s m args below hf hA hF happ hP
  obtain ⟨hcalls, hrest, hpre⟩ := hP
  obtain ⟨-, -, -, hnamed, -, -, -, hat⟩ := (Spec.applies_iff hf).mp happ
  obtain ⟨hg, hn⟩ := and_e (Cond.before_iff.mp (show (Jvm.Cond.and given_1 narrow_1).before args s = true from hpre))
  obtain ⟨g0, k0⟩ := and_e hg
  obtain ⟨g1, k1⟩ := and_e k0
  obtain ⟨g2, k2⟩ := and_e k1
  obtain ⟨g3, k3⟩ := and_e k2
  obtain ⟨g4, k4⟩ := and_e k3
  have g5 := k4
  obtain ⟨w0, w1, w2, w3, w4, rfl⟩ : ∃ w0 w1 w2 w3 w4 : Value, args = #[w0, w1, w2, w3, w4] := by
    have hs : args.size = 5 := by simpa [Cond.value, given_1] using g0
    obtain ⟨L⟩ := args
    match L, hs with
    | [w0, w1, w2, w3, w4], _ => exact ⟨w0, w1, w2, w3, w4, rfl⟩
  have hw := fun d (hd : d ∈ tables_1) => atoms_spec (ws := Jvm.Cond.code x code maxLocals ret :: tables_1) hat d (List.mem_cons_of_mem _ hd)
  have hfit : Fit s := fun {y c} hc i hi => by
    obtain ⟨ha, rfl⟩ := Array.getElem?_eq_some_iff.mp hc
    have q := List.all_eq_true.mp ((Array.all_eq_true_iff_forall_mem.mp hF) _ (Array.getElem_mem ha)) i (List.mem_range.mpr hi)
    simpa [Array.getElem?_eq_getElem hi] using q
  obtain ⟨hsets, hown0⟩ := atoms_of _ (rest_1_c_eq ▸ (show rest_1_c.before _ s = true from hrest))
  have hr0 := Cond.before_iff.mp hown0
  obtain ⟨i0, ei0⟩ := is_v g1
  obtain rfl : w0 = (.int i0) := Option.some.inj ei0
  obtain ⟨i1, ei1⟩ := is_v g2
  obtain rfl : w1 = (.int i1) := Option.some.inj ei1
  obtain ⟨i2, ei2⟩ := is_v g3
  obtain rfl : w2 = (.int i2) := Option.some.inj ei2
  obtain ⟨i3, ei3⟩ := is_v g4
  obtain rfl : w3 = (.int i3) := Option.some.inj ei3
  obtain ⟨i4, ei4⟩ := is_v g5
  obtain rfl : w4 = (.int i4) := Option.some.inj ei4
  have n3 := not_v (Cond.before_iff.mp (hsets _ (List.mem_of_getElem? (i := 2) rfl)))
  obtain ⟨cz, ecz⟩ := is_v (Cond.before_iff.mp (hsets _ (List.mem_of_getElem? (i := 1) rfl)))
  have S8 : Sta s s.heap "java/lang/String" "COMPACT_STRINGS" "Z" (.int cz) := Sta.start ecz (Or.inl (hsets _ (List.mem_of_getElem? (i := 0) rfl)))
  have c13 : ¬ (cz = (0 : Int32)) := gotF (Cond.eq_ints ecz (Term.int_eval (0))) n3
  obtain ⟨fm, efm, rfm⟩ := isR_v (Cond.before_iff.mp (hsets _ (List.mem_of_getElem? (i := 8) rfl)))
  have S9 : Sta s s.heap "jdk/internal/util/Preconditions" "SIOOBE_FORMATTER" "Ljava/util/function/BiFunction;" fm := Sta.start efm (Or.inl (hsets _ (List.mem_of_getElem? (i := 7) rfl)))
  have Sua : Sta s s.heap "java/lang/StringUTF16" "$assertionsDisabled" "Z" (.int (1 : Int32)) := Sta.start (own_eqi (Cond.before_iff.mp (hsets _ (List.mem_of_getElem? (i := 12) rfl)))) (Or.inl (hsets _ (List.mem_of_getElem? (i := 11) rfl)))
  have Suh : Sta s s.heap "java/lang/StringUTF16" "HI_BYTE_SHIFT" "I" (.int (0 : Int32)) := Sta.start (own_eqi (Cond.before_iff.mp (hsets _ (List.mem_of_getElem? (i := 15) rfl)))) (Or.inl (hsets _ (List.mem_of_getElem? (i := 14) rfl)))
  have Sul : Sta s s.heap "java/lang/StringUTF16" "LO_BYTE_SHIFT" "I" (.int (8 : Int32)) := Sta.start (own_eqi (Cond.before_iff.mp (hsets _ (List.mem_of_getElem? (i := 18) rfl)))) (Or.inl (hsets _ (List.mem_of_getElem? (i := 17) rfl)))
  obtain ⟨n, o, h1, h2, h3, _, L, rfl, ⟨rfl, N⟩, -, hq⟩ := own_rm_law l s _ hw tables_1 i0 i1 i2 i3 i4 cz fm s.heap s.heap.size (Nat.le_refl _) (Old.start s) S8 c13 S9 rfm Sua Suh Sul p e ha hc hk s m _ below hf ((Spec.applies_iff_loose hf).mp happ).1 ⟨rfl, State.Warmed39.refl s, rfl, CHv.start (own_ew hw) (fun q hq => hcalls.1 q hq) (hsets _ (List.mem_of_getElem? (i := 2) rfl)) (hw _ (List.mem_of_getElem? (i := 26) rfl)) (hw _ (List.mem_of_getElem? (i := 13) rfl))⟩ trivial
  refine ⟨n, _, h1, h2, h3, hpost _ _ _ _ _ _ ⟨Cond.after_iff.mpr rfl, Cond.after_iff.mpr (eq_i res_at (Term.int_eval (1)) rfl), trivial⟩ ⟨hq.1, hq.2.1, hq.2.2.1, (hq.2.2.2.sift fun y hy => Or.inr (N y hy)).mono (by decide) (by decide)⟩⟩
theorem main_1_1 : Claimed_1_1 := comes_1 fun _ _ _ _ _ _ h hF => ⟨h.1, hF⟩
theorem main_1_2 : Claimed_1_2 := comes_1 fun _ _ _ _ _ _ h hF => ⟨h.2.1, hF⟩
end Jvm.Pilot.@@N@@
namespace Jvm.Pilot.@@N@@
open Jvm Jvm.ClassFile Sem Op Lib Jvm.Free Jvm.Stand Jvm.Pilot.@@N@@.Jvm.D
/-! MADE BY PROGRAM (witnessworld.py) out of the Statement's table words and the real class files: 26 classes; the members and pool entries that the words name. The judged class is class 1, her method 1. -/
namespace start1
open Jvm.ClassFile
def u (s : String) : CpInfo := .utf8 (stringToUtf16 s)
/-- a pool by its gaps: so many unusable entries, then the entry; so many at the end -/
def gap : Nat → List CpInfo → List CpInfo
  | 0, r => r
  | n + 1, r => .unusable :: gap n r
def poolList (es : List (Nat × CpInfo)) (last : Nat) : List CpInfo := es.foldr (fun e r => gap e.1 (e.2 :: r)) (gap last [])
def pool (es : List (Nat × CpInfo)) (last : Nat) : Array CpInfo := ⟨poolList es last⟩
def fileOf (pool : Array CpInfo) (this : Nat) (attrs : Array Attribute := #[]) (ms : Array MethodInfo := #[]) (fl : Nat := 33) (sup : Nat := 0) (ifs : Array Nat := #[]) (fds : Array FieldInfo := #[]) : ClassFile where
  minorVersion := 0
  majorVersion := 65
  constantPool := pool
  accessFlags := fl
  thisClass := this
  superClass := sup
  interfaces := ifs
  fields := fds
  methods := ms
  attributes := attrs
def plain (name : String) (sup : Option ClassId) : Class where
  name := name
  kind := .ordinary
  loader := none
  accessFlags := 33
  super := sup
  interfaces := #[]
  cf := none
  fields := #[]
  methods := #[]
  instanceTypes := #[]
  staticTypes := #[]
  resolved := #[]
  callSites := []
  init := .initialized
  statics := none
  mirror := none

def pool0 : Array CpInfo := pool [(5, u "<init>"), (0, u "()V"), (1, .class_ 10), (1, u "java/lang/Object")] 113

def k0c0 : Code := { maxStack := 0, maxLocals := 1, code := object_method_1_code, exceptionTable := #[], attributes := #[] }
def k0m0 : Method := { name := "<init>", desc := "()V", sig := { parameters := [], returnType := none }, accessFlags := 1, code := some k0c0 }
/-- java/lang/Object -/
def k0 : Class := { plain "java/lang/Object" none with
  accessFlags := 33
  interfaces := #[]
  cf := some (fileOf pool0 8 #[] #[{ accessFlags := 1, nameIndex := 5, descriptorIndex := 6, attributes := #[] }] 33 0 #[] #[])
  fields := #[]
  methods := #[k0m0]
  instanceTypes := #[]
  staticTypes := #[]
  resolved := Array.replicate 124 none
  statics := none }

def pool1 : Array CpInfo := pool [(2, .class_ 4), (1, u "java/lang/Object"), (0, u "<init>"), (0, u "()V"), (0, .methodref 8 9), (0, .class_ 10), (0, .nameAndType 11 12), (0, u "com/example/co_occurrence_ranking/cooccurrenceranking/io/LineReaderCompareFieldsPinLaw"), (0, u "cp"), (0, u "(I)I"), (0, .methodref 8 14), (0, .nameAndType 15 16), (0, u "str"), (0, u "(III)Ljava/lang/String;"), (0, .methodref 8 18), (0, .nameAndType 19 20), (0, u "ref"), (0, u "(IIIIII)I"), (0, .methodref 22 23), (0, .class_ 24), (0, .nameAndType 25 26), (0, u "com/example/co_occurrence_ranking/cooccurrenceranking/io/LineReader"), (0, u "compareFields"), (0, u "(Ljava/lang/String;Ljava/lang/String;)I"), (0, .methodref 8 28), (0, .nameAndType 29 12), (0, u "sgn"), (0, .integer 65535), (0, .integer 55296), (0, .integer 57343), (0, .integer 65536), (0, .integer 1048575), (0, .integer 56320), (0, .methodref 8 37), (0, .nameAndType 38 39), (0, u "put"), (0, u "([CII)I"), (0, .class_ 41), (0, u "java/lang/String"), (0, .methodref 40 43), (0, .nameAndType 5 44), (0, u "([C)V"), (0, .methodref 8 46), (0, .nameAndType 47 48), (0, u "cmp"), (0, u "(II)I"), (2, u "law"), (0, u "(IIIII)Z")] 5

def k1m0 : Method := { name := "<init>", desc := "()V", sig := { parameters := [], returnType := none }, accessFlags := 2, code := none }
def k1c1 : Code := { maxStack := 6, maxLocals := 14, code := code, exceptionTable := #[], attributes := #[] }
def k1m1 : Method := { name := "law", desc := "(IIIII)Z", sig := { parameters := [.int, .int, .int, .int, .int], returnType := some .boolean }, accessFlags := 9, code := some k1c1 }
def k1c2 : Code := { maxStack := 3, maxLocals := 2, code := method_3_code, exceptionTable := #[], attributes := #[] }
def k1m2 : Method := { name := "cp", desc := "(I)I", sig := { parameters := [.int], returnType := some .int }, accessFlags := 10, code := some k1c2 }
def k1c3 : Code := { maxStack := 5, maxLocals := 4, code := method_4_code, exceptionTable := #[], attributes := #[] }
def k1m3 : Method := { name := "put", desc := "([CII)I", sig := { parameters := [(.array .char), .int, .int], returnType := some .int }, accessFlags := 10, code := some k1c3 }
def k1c4 : Code := { maxStack := 7, maxLocals := 5, code := method_5_code, exceptionTable := #[], attributes := #[] }
def k1m4 : Method := { name := "str", desc := "(III)Ljava/lang/String;", sig := { parameters := [.int, .int, .int], returnType := some (.object "java/lang/String") }, accessFlags := 10, code := some k1c4 }
def k1c5 : Code := { maxStack := 2, maxLocals := 2, code := method_6_code, exceptionTable := #[], attributes := #[] }
def k1m5 : Method := { name := "cmp", desc := "(II)I", sig := { parameters := [.int, .int], returnType := some .int }, accessFlags := 10, code := some k1c5 }
def k1c6 : Code := { maxStack := 1, maxLocals := 1, code := method_7_code, exceptionTable := #[], attributes := #[] }
def k1m6 : Method := { name := "sgn", desc := "(I)I", sig := { parameters := [.int], returnType := some .int }, accessFlags := 10, code := some k1c6 }
def k1c7 : Code := { maxStack := 2, maxLocals := 6, code := method_8_code, exceptionTable := #[], attributes := #[] }
def k1m7 : Method := { name := "ref", desc := "(IIIIII)I", sig := { parameters := [.int, .int, .int, .int, .int, .int], returnType := some .int }, accessFlags := 10, code := some k1c7 }
/-- com/example/co_occurrence_ranking/cooccurrenceranking/io/LineReaderCompareFieldsPinLaw -/
def k1 : Class := { plain "com/example/co_occurrence_ranking/cooccurrenceranking/io/LineReaderCompareFieldsPinLaw" (some 0) with
  accessFlags := 49
  interfaces := #[]
  cf := some (fileOf pool1 8 #[] #[{ accessFlags := 2, nameIndex := 5, descriptorIndex := 6, attributes := #[] }, { accessFlags := 9, nameIndex := 51, descriptorIndex := 52, attributes := #[] }, { accessFlags := 10, nameIndex := 11, descriptorIndex := 12, attributes := #[] }, { accessFlags := 10, nameIndex := 38, descriptorIndex := 39, attributes := #[] }, { accessFlags := 10, nameIndex := 15, descriptorIndex := 16, attributes := #[] }, { accessFlags := 10, nameIndex := 47, descriptorIndex := 48, attributes := #[] }, { accessFlags := 10, nameIndex := 29, descriptorIndex := 12, attributes := #[] }, { accessFlags := 10, nameIndex := 19, descriptorIndex := 20, attributes := #[] }] 49 2 #[] #[])
  fields := #[]
  methods := #[k1m0, k1m1, k1m2, k1m3, k1m4, k1m5, k1m6, k1m7]
  instanceTypes := #[]
  staticTypes := #[]
  resolved := Array.replicate 58 none
  statics := none }

def pool2 : Array CpInfo := pool [(1, .class_ 2), (0, u "java/io/Serializable"), (0, .class_ 4), (0, u "java/lang/Object")] 2

/-- java/io/Serializable -/
def k2 : Class := { plain "java/io/Serializable" (some 0) with
  accessFlags := 1537
  interfaces := #[]
  cf := some (fileOf pool2 1 #[] #[] 1537 3 #[] #[])
  fields := #[]
  methods := #[]
  instanceTypes := #[]
  staticTypes := #[]
  resolved := Array.replicate 7 none
  statics := none }

def pool3 : Array CpInfo := pool [(1, .class_ 2), (0, u "java/lang/Comparable"), (0, .class_ 4), (0, u "java/lang/Object")] 7

/-- java/lang/Comparable -/
def k3 : Class := { plain "java/lang/Comparable" (some 0) with
  accessFlags := 1537
  interfaces := #[]
  cf := some (fileOf pool3 1 #[] #[] 1537 3 #[] #[])
  fields := #[]
  methods := #[]
  instanceTypes := #[]
  staticTypes := #[]
  resolved := Array.replicate 12 none
  statics := none }

def pool4 : Array CpInfo := pool [(2, .class_ 4), (1, u "java/lang/CharSequence"), (42, .class_ 48), (0, u "java/lang/CharSequence$1CodePointIterator"), (10, .class_ 60), (0, u "java/lang/CharSequence$1CharIterator"), (5, .class_ 67), (0, u "java/lang/Object")] 63

/-- java/lang/CharSequence -/
def k4 : Class := { plain "java/lang/CharSequence" (some 0) with
  accessFlags := 1537
  interfaces := #[]
  cf := some (fileOf pool4 2 #[.nestMembers #[47, 59]] #[] 1537 66 #[] #[])
  fields := #[]
  methods := #[]
  instanceTypes := #[]
  staticTypes := #[]
  resolved := Array.replicate 131 none
  statics := none }

def pool5 : Array CpInfo := pool [(1, .class_ 2), (0, u "java/lang/constant/Constable"), (0, .class_ 4), (0, u "java/lang/Object")] 6

/-- java/lang/constant/Constable -/
def k5 : Class := { plain "java/lang/constant/Constable" (some 0) with
  accessFlags := 1537
  interfaces := #[]
  cf := some (fileOf pool5 1 #[] #[] 1537 3 #[] #[])
  fields := #[]
  methods := #[]
  instanceTypes := #[]
  staticTypes := #[]
  resolved := Array.replicate 11 none
  statics := none }

def pool6 : Array CpInfo := pool [(1, .class_ 2), (0, u "java/lang/constant/ConstantDesc"), (0, .class_ 4), (0, u "java/lang/Object")] 32

/-- java/lang/constant/ConstantDesc -/
def k6 : Class := { plain "java/lang/constant/ConstantDesc" (some 0) with
  accessFlags := 1537
  interfaces := #[]
  cf := some (fileOf pool6 1 #[] #[] 1537 3 #[] #[])
  fields := #[]
  methods := #[]
  instanceTypes := #[]
  staticTypes := #[]
  resolved := Array.replicate 37 none
  statics := none }

def pool7 : Array CpInfo := pool [(1, .methodref 2 3), (0, .class_ 4), (0, .nameAndType 5 6), (0, u "java/lang/Object"), (0, u "<init>"), (0, u "()V"), (0, .string 8), (0, u ""), (0, .fieldref 10 11), (0, .class_ 12), (0, .nameAndType 13 14), (0, u "java/lang/String"), (0, u "value"), (0, u "[B"), (0, .fieldref 10 16), (0, .nameAndType 17 18), (0, u "coder"), (0, u "B"), (2, u "hash"), (0, u "I"), (2, u "hashIsZero"), (0, u "Z"), (0, .methodref 10 28), (0, .nameAndType 5 29), (0, u "([CIILjava/lang/Void;)V"), (8, .fieldref 10 39), (0, .nameAndType 40 26), (0, u "COMPACT_STRINGS"), (1, .class_ 44), (1, u "java/lang/StringUTF16"), (0, u "compress"), (1, .methodref 42 48), (0, .nameAndType 49 50), (0, u "coderFromArrayLen"), (0, u "([BI)B"), (46, u "([BII)I"), (9, .class_ 109), (1, u "java/lang/StringLatin1"), (32, u "()Z"), (34, .methodref 42 178), (0, .nameAndType 45 179), (0, u "([CII)[B"), (154, u "()I"), (0, .methodref 10 336), (0, .nameAndType 17 337), (0, u "()B"), (25, u "([BI)C"), (27, u "(II)V"), (35, u "(I)C"), (64, .methodref 10 493), (0, .nameAndType 494 142), (0, u "isLatin1"), (0, .methodref 107 496), (0, .nameAndType 497 363), (0, u "charAt"), (0, .methodref 42 496), (0, .methodref 10 500), (0, .nameAndType 501 391), (0, u "checkIndex"), (0, .methodref 42 503), (0, .nameAndType 504 97), (0, u "codePointAt"), (2, u "length"), (67, .class_ 576), (0, u "java/lang/CharSequence"), (22, u "CASE_INSENSITIVE_ORDER"), (0, u "Ljava/util/Comparator;"), (164, u "(I)I"), (244, u "([C)V"), (42, .fieldref 1054 1055), (0, .class_ 1056), (0, .nameAndType 1057 1058), (0, u "jdk/internal/util/Preconditions"), (0, u "SIOOBE_FORMATTER"), (0, u "Ljava/util/function/BiFunction;"), (0, .methodref 1054 1060), (0, .nameAndType 501 1061), (0, u "(IILjava/util/function/BiFunction;)I"), (39, u "serialPersistentFields"), (0, u "[Ljava/io/ObjectStreamField;"), (0, .class_ 1104), (0, u "java/lang/String$CaseInsensitiveComparator"), (1, .class_ 1107), (0, u "java/io/Serializable"), (0, .class_ 1109), (0, u "java/lang/Comparable"), (0, .class_ 1111), (0, u "java/lang/constant/Constable"), (0, .class_ 1113), (0, u "java/lang/constant/ConstantDesc"), (2, u "serialVersionUID"), (0, u "J"), (3, u "REPL"), (0, u "C"), (2, u "LATIN1"), (1, u "UTF16")] 323

def k7m0 : Method := { name := "<init>", desc := "()V", sig := { parameters := [], returnType := none }, accessFlags := 1, code := none }
def k7c1 : Code := { maxStack := 5, maxLocals := 2, code := jdk_42_method_3_code, exceptionTable := #[], attributes := #[] }
def k7m1 : Method := { name := "<init>", desc := "([C)V", sig := { parameters := [(.array .char)], returnType := none }, accessFlags := 1, code := some k7c1 }
def k7c2 : Code := { maxStack := 2, maxLocals := 1, code := jdk_42_method_54_code, exceptionTable := #[], attributes := #[] }
def k7m2 : Method := { name := "length", desc := "()I", sig := { parameters := [], returnType := some .int }, accessFlags := 1, code := some k7c2 }
def k7c3 : Code := { maxStack := 2, maxLocals := 2, code := jdk_42_method_56_code, exceptionTable := #[], attributes := #[] }
def k7m3 : Method := { name := "charAt", desc := "(I)C", sig := { parameters := [.int], returnType := some .char }, accessFlags := 1, code := some k7c3 }
def k7c4 : Code := { maxStack := 3, maxLocals := 3, code := jdk_42_method_57_code, exceptionTable := #[], attributes := #[] }
def k7m4 : Method := { name := "codePointAt", desc := "(I)I", sig := { parameters := [.int], returnType := some .int }, accessFlags := 1, code := some k7c4 }
def k7c5 : Code := { maxStack := 4, maxLocals := 6, code := jdk_42_method_149_code, exceptionTable := #[], attributes := #[] }
def k7m5 : Method := { name := "<init>", desc := "([CIILjava/lang/Void;)V", sig := { parameters := [(.array .char), .int, .int, (.object "java/lang/Void")], returnType := none }, accessFlags := 2, code := some k7c5 }
def k7c6 : Code := { maxStack := 1, maxLocals := 1, code := jdk_42_method_152_code, exceptionTable := #[], attributes := #[] }
def k7m6 : Method := { name := "coder", desc := "()B", sig := { parameters := [], returnType := some .byte }, accessFlags := 0, code := some k7c6 }
def k7c7 : Code := { maxStack := 1, maxLocals := 1, code := jdk_42_method_154_code, exceptionTable := #[], attributes := #[] }
def k7m7 : Method := { name := "isLatin1", desc := "()Z", sig := { parameters := [], returnType := some .boolean }, accessFlags := 0, code := some k7c7 }
def k7c8 : Code := { maxStack := 3, maxLocals := 2, code := jdk_42_method_155_code, exceptionTable := #[], attributes := #[] }
def k7m8 : Method := { name := "checkIndex", desc := "(II)V", sig := { parameters := [.int, .int], returnType := none }, accessFlags := 8, code := some k7c8 }
/-- java/lang/String -/
def k7 : Class := { plain "java/lang/String" (some 0) with
  accessFlags := 49
  interfaces := #[2, 3, 4, 5, 6]
  cf := some (fileOf pool7 10 #[.nestMembers #[1103]] #[{ accessFlags := 1, nameIndex := 5, descriptorIndex := 6, attributes := #[] }, { accessFlags := 1, nameIndex := 5, descriptorIndex := 1010, attributes := #[] }, { accessFlags := 1, nameIndex := 507, descriptorIndex := 334, attributes := #[] }, { accessFlags := 1, nameIndex := 497, descriptorIndex := 427, attributes := #[] }, { accessFlags := 1, nameIndex := 504, descriptorIndex := 765, attributes := #[] }, { accessFlags := 2, nameIndex := 5, descriptorIndex := 29, attributes := #[] }, { accessFlags := 0, nameIndex := 17, descriptorIndex := 337, attributes := #[] }, { accessFlags := 0, nameIndex := 494, descriptorIndex := 142, attributes := #[] }, { accessFlags := 8, nameIndex := 501, descriptorIndex := 391, attributes := #[] }] 49 2 #[1106, 1108, 575, 1110, 1112] #[{ accessFlags := 18, nameIndex := 13, descriptorIndex := 14, attributes := #[] }, { accessFlags := 18, nameIndex := 17, descriptorIndex := 18, attributes := #[] }, { accessFlags := 2, nameIndex := 21, descriptorIndex := 22, attributes := #[] }, { accessFlags := 2, nameIndex := 25, descriptorIndex := 26, attributes := #[] }, { accessFlags := 26, nameIndex := 1116, descriptorIndex := 1117, attributes := #[] }, { accessFlags := 24, nameIndex := 40, descriptorIndex := 26, attributes := #[] }, { accessFlags := 26, nameIndex := 1101, descriptorIndex := 1102, attributes := #[] }, { accessFlags := 26, nameIndex := 1121, descriptorIndex := 1122, attributes := #[] }, { accessFlags := 25, nameIndex := 599, descriptorIndex := 600, attributes := #[] }, { accessFlags := 24, nameIndex := 1125, descriptorIndex := 18, attributes := #[] }, { accessFlags := 24, nameIndex := 1127, descriptorIndex := 18, attributes := #[] }])
  fields := #[{ name := "value", type := (.array .byte), accessFlags := 18, slot := 0, constantValue := 0 }, { name := "coder", type := .byte, accessFlags := 18, slot := 1, constantValue := 0 }, { name := "hash", type := .int, accessFlags := 2, slot := 2, constantValue := 0 }, { name := "hashIsZero", type := .boolean, accessFlags := 2, slot := 3, constantValue := 0 }, { name := "serialVersionUID", type := .long, accessFlags := 26, slot := 0, constantValue := 0 }, { name := "COMPACT_STRINGS", type := .boolean, accessFlags := 24, slot := 1, constantValue := 0 }, { name := "serialPersistentFields", type := (.array (.object "java/io/ObjectStreamField")), accessFlags := 26, slot := 2, constantValue := 0 }, { name := "REPL", type := .char, accessFlags := 26, slot := 3, constantValue := 0 }, { name := "CASE_INSENSITIVE_ORDER", type := (.object "java/util/Comparator"), accessFlags := 25, slot := 4, constantValue := 0 }, { name := "LATIN1", type := .byte, accessFlags := 24, slot := 5, constantValue := 0 }, { name := "UTF16", type := .byte, accessFlags := 24, slot := 6, constantValue := 0 }]
  methods := #[k7m0, k7m1, k7m2, k7m3, k7m4, k7m5, k7m6, k7m7, k7m8]
  instanceTypes := #[(.array .byte), .byte, .int, .boolean]
  staticTypes := #[.long, .boolean, (.array (.object "java/io/ObjectStreamField")), .char, (.object "java/util/Comparator"), .byte, .byte]
  resolved := Array.replicate 1451 none
  statics := some 0 }

def pool8 : Array CpInfo := pool [(1, .class_ 2), (0, u "java/lang/AutoCloseable"), (0, .class_ 4), (0, u "java/lang/Object")] 7

/-- java/lang/AutoCloseable -/
def k8 : Class := { plain "java/lang/AutoCloseable" (some 0) with
  accessFlags := 1537
  interfaces := #[]
  cf := some (fileOf pool8 1 #[] #[] 1537 3 #[] #[])
  fields := #[]
  methods := #[]
  instanceTypes := #[]
  staticTypes := #[]
  resolved := Array.replicate 12 none
  statics := none }

def pool9 : Array CpInfo := pool [(1, .class_ 2), (0, u "java/io/Closeable"), (0, .class_ 4), (0, u "java/lang/Object"), (0, .class_ 6), (0, u "java/lang/AutoCloseable")] 7

/-- java/io/Closeable -/
def k9 : Class := { plain "java/io/Closeable" (some 0) with
  accessFlags := 1537
  interfaces := #[8]
  cf := some (fileOf pool9 1 #[] #[] 1537 3 #[5] #[])
  fields := #[]
  methods := #[]
  instanceTypes := #[]
  staticTypes := #[]
  resolved := Array.replicate 14 none
  statics := none }

def pool10 : Array CpInfo := pool [(2, .class_ 4), (1, u "java/lang/Object"), (15, .class_ 22), (1, u "com/example/co_occurrence_ranking/cooccurrenceranking/io/LineReader"), (0, u "utf8"), (0, u "Ljava/nio/charset/CharsetDecoder;"), (2, u "file"), (0, u "Ljava/nio/file/Path;"), (2, u "bytes"), (0, u "Ljava/io/BufferedReader;"), (20, u "lineNumber"), (0, u "J"), (11, u "WHITE_SPACE"), (0, u "Ljava/util/regex/Pattern;"), (7, .class_ 77), (1, u "java/lang/String"), (10, .methodref 75 89), (0, .nameAndType 90 91), (0, u "length"), (0, u "()I"), (0, .methodref 93 94), (0, .class_ 95), (0, .nameAndType 96 97), (0, u "java/lang/Math"), (0, u "min"), (0, u "(II)I"), (0, .methodref 75 99), (0, .nameAndType 100 101), (0, u "charAt"), (0, u "(I)C"), (0, .methodref 103 104), (0, .class_ 105), (0, .nameAndType 106 107), (0, u "java/lang/Character"), (0, u "isSurrogate"), (0, u "(C)Z"), (0, .methodref 75 109), (0, .nameAndType 110 111), (0, u "codePointAt"), (0, u "(I)I"), (0, .methodref 113 114), (0, .class_ 115), (0, .nameAndType 116 97), (0, u "java/lang/Integer"), (0, u "compare"), (0, .methodref 103 118), (0, .nameAndType 116 119), (0, u "(CC)I"), (54, .class_ 175), (0, u "java/io/Closeable"), (0, u "BYTE_ORDER_MARK"), (0, u "C"), (11, u "compareFields"), (0, u "(Ljava/lang/String;Ljava/lang/String;)I")] 25

def k10c0 : Code := { maxStack := 3, maxLocals := 7, code := prog_13_method_6_code, exceptionTable := #[], attributes := #[] }
def k10m0 : Method := { name := "compareFields", desc := "(Ljava/lang/String;Ljava/lang/String;)I", sig := { parameters := [(.object "java/lang/String"), (.object "java/lang/String")], returnType := some .int }, accessFlags := 9, code := some k10c0 }
/-- com/example/co_occurrence_ranking/cooccurrenceranking/io/LineReader -/
def k10 : Class := { plain "com/example/co_occurrence_ranking/cooccurrenceranking/io/LineReader" (some 0) with
  accessFlags := 33
  interfaces := #[9]
  cf := some (fileOf pool10 20 #[] #[{ accessFlags := 9, nameIndex := 189, descriptorIndex := 190, attributes := #[] }] 33 2 #[174] #[{ accessFlags := 26, nameIndex := 176, descriptorIndex := 177, attributes := #[] }, { accessFlags := 26, nameIndex := 66, descriptorIndex := 67, attributes := #[] }, { accessFlags := 18, nameIndex := 27, descriptorIndex := 28, attributes := #[] }, { accessFlags := 18, nameIndex := 31, descriptorIndex := 32, attributes := #[] }, { accessFlags := 18, nameIndex := 23, descriptorIndex := 24, attributes := #[] }, { accessFlags := 2, nameIndex := 53, descriptorIndex := 54, attributes := #[] }])
  fields := #[{ name := "BYTE_ORDER_MARK", type := .char, accessFlags := 26, slot := 0, constantValue := 0 }, { name := "WHITE_SPACE", type := (.object "java/util/regex/Pattern"), accessFlags := 26, slot := 1, constantValue := 0 }, { name := "file", type := (.object "java/nio/file/Path"), accessFlags := 18, slot := 0, constantValue := 0 }, { name := "bytes", type := (.object "java/io/BufferedReader"), accessFlags := 18, slot := 1, constantValue := 0 }, { name := "utf8", type := (.object "java/nio/charset/CharsetDecoder"), accessFlags := 18, slot := 2, constantValue := 0 }, { name := "lineNumber", type := .long, accessFlags := 2, slot := 3, constantValue := 0 }]
  methods := #[k10m0]
  instanceTypes := #[(.object "java/nio/file/Path"), (.object "java/io/BufferedReader"), (.object "java/nio/charset/CharsetDecoder"), .long]
  staticTypes := #[.char, (.object "java/util/regex/Pattern")]
  resolved := Array.replicate 216 none
  statics := none }

def pool11 : Array CpInfo := pool [(1, .class_ 2), (0, u "java/lang/Math"), (1, .class_ 6), (1, u "java/lang/Object"), (0, u "<init>"), (0, u "()V"), (89, .class_ 100), (1, u "java/lang/Math$RandomNumberGeneratorHolder"), (71, u "negativeZeroFloatBits"), (0, u "J"), (2, u "negativeZeroDoubleBits"), (24, u "min"), (43, u "$assertionsDisabled"), (0, u "Z"), (88, u "(II)I"), (2, u "twoToTheDoubleScaleDown"), (0, u "D"), (4, u "twoToTheDoubleScaleUp"), (9, u "E"), (3, u "PI"), (2, u "TAU"), (2, u "DEGREES_TO_RADIANS"), (0, u "RADIANS_TO_DEGREES")] 94

def k11m0 : Method := { name := "<init>", desc := "()V", sig := { parameters := [], returnType := none }, accessFlags := 2, code := none }
def k11c1 : Code := { maxStack := 2, maxLocals := 2, code := jdk_29_method_69_code, exceptionTable := #[], attributes := #[] }
def k11m1 : Method := { name := "min", desc := "(II)I", sig := { parameters := [.int, .int], returnType := some .int }, accessFlags := 9, code := some k11c1 }
/-- java/lang/Math -/
def k11 : Class := { plain "java/lang/Math" (some 0) with
  accessFlags := 49
  interfaces := #[]
  cf := some (fileOf pool11 1 #[.nestMembers #[98]] #[{ accessFlags := 2, nameIndex := 7, descriptorIndex := 8, attributes := #[] }, { accessFlags := 9, nameIndex := 201, descriptorIndex := 335, attributes := #[] }] 49 4 #[] #[{ accessFlags := 25, nameIndex := 354, descriptorIndex := 339, attributes := #[] }, { accessFlags := 25, nameIndex := 358, descriptorIndex := 339, attributes := #[] }, { accessFlags := 25, nameIndex := 361, descriptorIndex := 339, attributes := #[] }, { accessFlags := 26, nameIndex := 364, descriptorIndex := 339, attributes := #[] }, { accessFlags := 26, nameIndex := 365, descriptorIndex := 339, attributes := #[] }, { accessFlags := 26, nameIndex := 172, descriptorIndex := 173, attributes := #[] }, { accessFlags := 26, nameIndex := 176, descriptorIndex := 173, attributes := #[] }, { accessFlags := 8, nameIndex := 344, descriptorIndex := 339, attributes := #[] }, { accessFlags := 8, nameIndex := 338, descriptorIndex := 339, attributes := #[] }, { accessFlags := 4120, nameIndex := 245, descriptorIndex := 246, attributes := #[] }])
  fields := #[{ name := "E", type := .double, accessFlags := 25, slot := 0, constantValue := 0 }, { name := "PI", type := .double, accessFlags := 25, slot := 1, constantValue := 0 }, { name := "TAU", type := .double, accessFlags := 25, slot := 2, constantValue := 0 }, { name := "DEGREES_TO_RADIANS", type := .double, accessFlags := 26, slot := 3, constantValue := 0 }, { name := "RADIANS_TO_DEGREES", type := .double, accessFlags := 26, slot := 4, constantValue := 0 }, { name := "negativeZeroFloatBits", type := .long, accessFlags := 26, slot := 5, constantValue := 0 }, { name := "negativeZeroDoubleBits", type := .long, accessFlags := 26, slot := 6, constantValue := 0 }, { name := "twoToTheDoubleScaleUp", type := .double, accessFlags := 8, slot := 7, constantValue := 0 }, { name := "twoToTheDoubleScaleDown", type := .double, accessFlags := 8, slot := 8, constantValue := 0 }, { name := "$assertionsDisabled", type := .boolean, accessFlags := 4120, slot := 9, constantValue := 0 }]
  methods := #[k11m0, k11m1]
  instanceTypes := #[]
  staticTypes := #[.double, .double, .double, .double, .double, .long, .long, .double, .double, .boolean]
  resolved := Array.replicate 460 none
  statics := none }

def pool12 : Array CpInfo := pool [(2, .class_ 4), (1, u "java/lang/Object"), (0, u "<init>"), (0, u "()V"), (1, .class_ 10), (1, u "java/lang/Number"), (2, .class_ 14), (0, u "java/io/Serializable"), (0, u "serialVersionUID"), (0, u "J")] 20

def k12m0 : Method := { name := "<init>", desc := "()V", sig := { parameters := [], returnType := none }, accessFlags := 1, code := none }
/-- java/lang/Number -/
def k12 : Class := { plain "java/lang/Number" (some 0) with
  accessFlags := 1057
  interfaces := #[2]
  cf := some (fileOf pool12 8 #[] #[{ accessFlags := 1, nameIndex := 5, descriptorIndex := 6, attributes := #[] }] 1057 2 #[13] #[{ accessFlags := 26, nameIndex := 15, descriptorIndex := 16, attributes := #[] }])
  fields := #[{ name := "serialVersionUID", type := .long, accessFlags := 26, slot := 0, constantValue := 0 }]
  methods := #[k12m0]
  instanceTypes := #[]
  staticTypes := #[.long]
  resolved := Array.replicate 37 none
  statics := none }

def pool13 : Array CpInfo := pool [(1, .class_ 2), (0, u "java/lang/Integer"), (16, u "digits"), (0, u "[C"), (39, u "(II)I"), (24, u "DigitOnes"), (0, u "[B"), (2, u "DigitTens"), (99, .class_ 190), (0, u "java/lang/Integer$IntegerCache"), (3, u "I"), (8, .class_ 204), (0, u "java/lang/Number"), (2, u "value"), (53, u "compare"), (40, u "TYPE"), (0, u "Ljava/lang/Class;"), (0, .class_ 305), (0, u "java/lang/Comparable"), (0, .class_ 307), (0, u "java/lang/constant/Constable"), (0, .class_ 309), (0, u "java/lang/constant/ConstantDesc"), (0, u "MIN_VALUE"), (1, u "MAX_VALUE"), (3, u "SIZE"), (1, u "BYTES"), (1, u "serialVersionUID"), (0, u "J")] 131

def k13c0 : Code := { maxStack := 2, maxLocals := 2, code := jdk_33_method_40_code, exceptionTable := #[], attributes := #[] }
def k13m0 : Method := { name := "compare", desc := "(II)I", sig := { parameters := [.int, .int], returnType := some .int }, accessFlags := 9, code := some k13c0 }
/-- java/lang/Integer -/
def k13 : Class := { plain "java/lang/Integer" (some 12) with
  accessFlags := 49
  interfaces := #[3, 5, 6]
  cf := some (fileOf pool13 1 #[.nestMembers #[189]] #[{ accessFlags := 9, nameIndex := 261, descriptorIndex := 60, attributes := #[] }] 49 203 #[304, 306, 308] #[{ accessFlags := 25, nameIndex := 310, descriptorIndex := 194, attributes := #[] }, { accessFlags := 25, nameIndex := 312, descriptorIndex := 194, attributes := #[] }, { accessFlags := 25, nameIndex := 302, descriptorIndex := 303, attributes := #[] }, { accessFlags := 24, nameIndex := 19, descriptorIndex := 20, attributes := #[] }, { accessFlags := 24, nameIndex := 89, descriptorIndex := 86, attributes := #[] }, { accessFlags := 24, nameIndex := 85, descriptorIndex := 86, attributes := #[] }, { accessFlags := 18, nameIndex := 207, descriptorIndex := 194, attributes := #[] }, { accessFlags := 25, nameIndex := 316, descriptorIndex := 194, attributes := #[] }, { accessFlags := 25, nameIndex := 318, descriptorIndex := 194, attributes := #[] }, { accessFlags := 26, nameIndex := 320, descriptorIndex := 321, attributes := #[] }])
  fields := #[{ name := "MIN_VALUE", type := .int, accessFlags := 25, slot := 0, constantValue := 0 }, { name := "MAX_VALUE", type := .int, accessFlags := 25, slot := 1, constantValue := 0 }, { name := "TYPE", type := (.object "java/lang/Class"), accessFlags := 25, slot := 2, constantValue := 0 }, { name := "digits", type := (.array .char), accessFlags := 24, slot := 3, constantValue := 0 }, { name := "DigitTens", type := (.array .byte), accessFlags := 24, slot := 4, constantValue := 0 }, { name := "DigitOnes", type := (.array .byte), accessFlags := 24, slot := 5, constantValue := 0 }, { name := "value", type := .int, accessFlags := 18, slot := 0, constantValue := 0 }, { name := "SIZE", type := .int, accessFlags := 25, slot := 6, constantValue := 0 }, { name := "BYTES", type := .int, accessFlags := 25, slot := 7, constantValue := 0 }, { name := "serialVersionUID", type := .long, accessFlags := 26, slot := 8, constantValue := 0 }]
  methods := #[k13m0]
  instanceTypes := #[.int]
  staticTypes := #[.int, .int, (.object "java/lang/Class"), (.array .char), (.array .byte), (.array .byte), .int, .int, .long]
  resolved := Array.replicate 453 none
  statics := none }

def pool14 : Array CpInfo := pool [(3, .class_ 4), (0, u "java/lang/String"), (1, .class_ 8), (1, u "java/lang/Object"), (0, u "<init>"), (0, u "()V"), (0, .methodref 12 13), (0, .class_ 14), (0, .nameAndType 15 16), (0, u "java/lang/StringUTF16"), (0, u "newBytesLength"), (0, u "(I)I"), (3, .integer 1073741823), (23, .fieldref 12 45), (0, .nameAndType 46 47), (0, u "$assertionsDisabled"), (0, u "Z"), (0, .methodref 12 49), (0, .nameAndType 50 51), (0, u "length"), (0, u "([B)I"), (7, .fieldref 12 60), (0, .nameAndType 61 62), (0, u "HI_BYTE_SHIFT"), (0, u "I"), (0, .fieldref 12 64), (0, .nameAndType 65 62), (0, u "LO_BYTE_SHIFT"), (1, .methodref 12 68), (0, .nameAndType 69 70), (0, u "checkIndex"), (0, u "(I[B)V"), (0, .methodref 12 72), (0, .nameAndType 73 74), (0, u "getChar"), (0, u "([BI)C"), (0, .methodref 76 77), (0, .class_ 78), (0, .nameAndType 79 80), (0, u "java/lang/Character"), (0, u "isHighSurrogate"), (0, u "(C)Z"), (0, .methodref 76 82), (0, .nameAndType 83 80), (0, u "isLowSurrogate"), (0, .methodref 76 85), (0, .nameAndType 86 87), (0, u "toCodePoint"), (0, u "(CC)I"), (0, .methodref 12 89), (0, .nameAndType 90 91), (0, u "codePointAt"), (0, u "([BIIZ)I"), (15, .methodref 12 108), (0, .nameAndType 109 110), (0, u "newBytesFor"), (0, u "(I)[B"), (0, .methodref 12 112), (0, .nameAndType 113 114), (0, u "putChar"), (0, u "([BII)V"), (0, .methodref 12 116), (0, .nameAndType 117 118), (0, u "compress"), (0, u "([CI[BII)I"), (0, .methodref 12 120), (0, .nameAndType 121 122), (0, u "toBytes"), (0, u "([CII)[B"), (127, u "([BII)I"), (10, u "coderFromArrayLen"), (0, u "([BI)B"), (106, .class_ 371), (1, u "java/lang/StringUTF16$LinesSpliterator"), (20, u "charAt"), (21, .methodref 3 415), (0, .nameAndType 69 416), (0, u "(II)V"), (13, u "MAX_LENGTH"), (196, .class_ 628), (0, u "java/lang/StringUTF16$CodePointsSpliterator"), (0, .class_ 630), (0, u "java/lang/StringUTF16$CharsSpliterator")] 4

def k14m0 : Method := { name := "<init>", desc := "()V", sig := { parameters := [], returnType := none }, accessFlags := 0, code := none }
def k14c1 : Code := { maxStack := 1, maxLocals := 1, code := jdk_52_method_2_code, exceptionTable := #[], attributes := #[] }
def k14m1 : Method := { name := "newBytesFor", desc := "(I)[B", sig := { parameters := [.int], returnType := some (.array .byte) }, accessFlags := 9, code := some k14c1 }
def k14c2 : Code := { maxStack := 4, maxLocals := 1, code := jdk_52_method_3_code, exceptionTable := #[], attributes := #[] }
def k14m2 : Method := { name := "newBytesLength", desc := "(I)I", sig := { parameters := [.int], returnType := some .int }, accessFlags := 9, code := some k14c2 }
def k14c3 : Code := { maxStack := 4, maxLocals := 3, code := jdk_52_method_4_code, exceptionTable := #[], attributes := #[] }
def k14m3 : Method := { name := "putChar", desc := "([BII)V", sig := { parameters := [(.array .byte), .int, .int], returnType := none }, accessFlags := 8, code := some k14c3 }
def k14c4 : Code := { maxStack := 3, maxLocals := 2, code := jdk_52_method_5_code, exceptionTable := #[], attributes := #[] }
def k14m4 : Method := { name := "getChar", desc := "([BI)C", sig := { parameters := [(.array .byte), .int], returnType := some .char }, accessFlags := 8, code := some k14c4 }
def k14c5 : Code := { maxStack := 2, maxLocals := 1, code := jdk_52_method_6_code, exceptionTable := #[], attributes := #[] }
def k14m5 : Method := { name := "length", desc := "([B)I", sig := { parameters := [(.array .byte)], returnType := some .int }, accessFlags := 9, code := some k14c5 }
def k14c6 : Code := { maxStack := 2, maxLocals := 6, code := jdk_52_method_7_code, exceptionTable := #[], attributes := #[] }
def k14m6 : Method := { name := "codePointAt", desc := "([BIIZ)I", sig := { parameters := [(.array .byte), .int, .int, .boolean], returnType := some .int }, accessFlags := 10, code := some k14c6 }
def k14c7 : Code := { maxStack := 4, maxLocals := 3, code := jdk_52_method_8_code, exceptionTable := #[], attributes := #[] }
def k14m7 : Method := { name := "codePointAt", desc := "([BII)I", sig := { parameters := [(.array .byte), .int, .int], returnType := some .int }, accessFlags := 9, code := some k14c7 }
def k14c8 : Code := { maxStack := 4, maxLocals := 5, code := jdk_52_method_14_code, exceptionTable := #[], attributes := #[] }
def k14m8 : Method := { name := "toBytes", desc := "([CII)[B", sig := { parameters := [(.array .char), .int, .int], returnType := some (.array .byte) }, accessFlags := 9, code := some k14c8 }
def k14c9 : Code := { maxStack := 2, maxLocals := 2, code := jdk_52_method_15_code, exceptionTable := #[], attributes := #[] }
def k14m9 : Method := { name := "coderFromArrayLen", desc := "([BI)B", sig := { parameters := [(.array .byte), .int], returnType := some .byte }, accessFlags := 8, code := some k14c9 }
def k14c10 : Code := { maxStack := 5, maxLocals := 6, code := jdk_52_method_16_code, exceptionTable := #[], attributes := #[] }
def k14m10 : Method := { name := "compress", desc := "([CII)[B", sig := { parameters := [(.array .char), .int, .int], returnType := some (.array .byte) }, accessFlags := 9, code := some k14c10 }
def k14c11 : Code := { maxStack := 3, maxLocals := 7, code := jdk_52_method_21_code, exceptionTable := #[], attributes := #[] }
def k14m11 : Method := { name := "compress", desc := "([CI[BII)I", sig := { parameters := [(.array .char), .int, (.array .byte), .int, .int], returnType := some .int }, accessFlags := 9, code := some k14c11 }
def k14c12 : Code := { maxStack := 2, maxLocals := 2, code := jdk_52_method_83_code, exceptionTable := #[], attributes := #[] }
def k14m12 : Method := { name := "charAt", desc := "([BI)C", sig := { parameters := [(.array .byte), .int], returnType := some .char }, accessFlags := 9, code := some k14c12 }
def k14c13 : Code := { maxStack := 2, maxLocals := 2, code := jdk_52_method_91_code, exceptionTable := #[], attributes := #[] }
def k14m13 : Method := { name := "checkIndex", desc := "(I[B)V", sig := { parameters := [.int, (.array .byte)], returnType := none }, accessFlags := 9, code := some k14c13 }
/-- java/lang/StringUTF16 -/
def k14 : Class := { plain "java/lang/StringUTF16" (some 0) with
  accessFlags := 48
  interfaces := #[]
  cf := some (fileOf pool14 12 #[.nestMembers #[627, 629, 369]] #[{ accessFlags := 0, nameIndex := 9, descriptorIndex := 10, attributes := #[] }, { accessFlags := 9, nameIndex := 109, descriptorIndex := 110, attributes := #[] }, { accessFlags := 9, nameIndex := 15, descriptorIndex := 16, attributes := #[] }, { accessFlags := 8, nameIndex := 113, descriptorIndex := 114, attributes := #[] }, { accessFlags := 8, nameIndex := 73, descriptorIndex := 74, attributes := #[] }, { accessFlags := 9, nameIndex := 50, descriptorIndex := 51, attributes := #[] }, { accessFlags := 10, nameIndex := 90, descriptorIndex := 91, attributes := #[] }, { accessFlags := 9, nameIndex := 90, descriptorIndex := 250, attributes := #[] }, { accessFlags := 9, nameIndex := 121, descriptorIndex := 122, attributes := #[] }, { accessFlags := 8, nameIndex := 261, descriptorIndex := 262, attributes := #[] }, { accessFlags := 9, nameIndex := 117, descriptorIndex := 122, attributes := #[] }, { accessFlags := 9, nameIndex := 117, descriptorIndex := 118, attributes := #[] }, { accessFlags := 9, nameIndex := 392, descriptorIndex := 74, attributes := #[] }, { accessFlags := 9, nameIndex := 69, descriptorIndex := 70, attributes := #[] }] 48 6 #[] #[{ accessFlags := 26, nameIndex := 61, descriptorIndex := 62, attributes := #[] }, { accessFlags := 26, nameIndex := 65, descriptorIndex := 62, attributes := #[] }, { accessFlags := 24, nameIndex := 430, descriptorIndex := 62, attributes := #[] }, { accessFlags := 4120, nameIndex := 46, descriptorIndex := 47, attributes := #[] }])
  fields := #[{ name := "HI_BYTE_SHIFT", type := .int, accessFlags := 26, slot := 0, constantValue := 0 }, { name := "LO_BYTE_SHIFT", type := .int, accessFlags := 26, slot := 1, constantValue := 0 }, { name := "MAX_LENGTH", type := .int, accessFlags := 24, slot := 2, constantValue := 0 }, { name := "$assertionsDisabled", type := .boolean, accessFlags := 4120, slot := 3, constantValue := 0 }]
  methods := #[k14m0, k14m1, k14m2, k14m3, k14m4, k14m5, k14m6, k14m7, k14m8, k14m9, k14m10, k14m11, k14m12, k14m13]
  instanceTypes := #[]
  staticTypes := #[.int, .int, .int, .boolean]
  resolved := Array.replicate 635 none
  statics := some 1 }

def pool15 : Array CpInfo := pool [(2, .class_ 4), (1, u "java/lang/Object"), (0, u "<init>"), (0, u "()V"), (17, .class_ 26), (1, u "jdk/internal/util/Preconditions"), (6, u "checkIndex"), (21, .class_ 56), (0, u "jdk/internal/util/Preconditions$4"), (57, .class_ 115), (0, u "jdk/internal/util/Preconditions$1"), (7, u "SIOOBE_FORMATTER"), (0, u "Ljava/util/function/BiFunction;"), (0, .class_ 126), (0, u "jdk/internal/util/Preconditions$2"), (3, u "AIOOBE_FORMATTER"), (0, .class_ 132), (0, u "jdk/internal/util/Preconditions$3"), (3, u "IOOBE_FORMATTER"), (41, u "(IILjava/util/function/BiFunction;)I")] 15

def k15m0 : Method := { name := "<init>", desc := "()V", sig := { parameters := [], returnType := none }, accessFlags := 1, code := none }
def k15c1 : Code := { maxStack := 3, maxLocals := 3, code := jdk_41_method_11_code, exceptionTable := #[], attributes := #[] }
def k15m1 : Method := { name := "checkIndex", desc := "(IILjava/util/function/BiFunction;)I", sig := { parameters := [.int, .int, (.object "java/util/function/BiFunction")], returnType := some .int }, accessFlags := 9, code := some k15c1 }
/-- jdk/internal/util/Preconditions -/
def k15 : Class := { plain "jdk/internal/util/Preconditions" (some 0) with
  accessFlags := 33
  interfaces := #[]
  cf := some (fileOf pool15 24 #[.nestMembers #[55, 131, 125, 114]] #[{ accessFlags := 1, nameIndex := 5, descriptorIndex := 6, attributes := #[] }, { accessFlags := 9, nameIndex := 33, descriptorIndex := 178, attributes := #[] }] 33 2 #[] #[{ accessFlags := 25, nameIndex := 123, descriptorIndex := 124, attributes := #[] }, { accessFlags := 25, nameIndex := 130, descriptorIndex := 124, attributes := #[] }, { accessFlags := 25, nameIndex := 136, descriptorIndex := 124, attributes := #[] }])
  fields := #[{ name := "SIOOBE_FORMATTER", type := (.object "java/util/function/BiFunction"), accessFlags := 25, slot := 0, constantValue := 0 }, { name := "AIOOBE_FORMATTER", type := (.object "java/util/function/BiFunction"), accessFlags := 25, slot := 1, constantValue := 0 }, { name := "IOOBE_FORMATTER", type := (.object "java/util/function/BiFunction"), accessFlags := 25, slot := 2, constantValue := 0 }]
  methods := #[k15m0, k15m1]
  instanceTypes := #[]
  staticTypes := #[(.object "java/util/function/BiFunction"), (.object "java/util/function/BiFunction"), (.object "java/util/function/BiFunction")]
  resolved := Array.replicate 194 none
  statics := some 2 }

def pool16 : Array CpInfo := pool [(1, .class_ 2), (0, u "java/lang/Character"), (18, u "value"), (0, u "C"), (19, .class_ 44), (1, u "java/lang/Object"), (3, .class_ 50), (1, u "java/lang/Character$CharacterCache"), (24, .integer 55296), (0, .integer 56320), (0, .integer 57344), (2, u "isHighSurrogate"), (0, u "(C)Z"), (2, u "isLowSurrogate"), (0, .integer 4238353408), (12, u "toCodePoint"), (0, u "(CC)I"), (181, u "compare"), (2, u "$assertionsDisabled"), (0, u "Z"), (21, .class_ 309), (1, u "java/lang/Character$UnicodeBlock"), (73, u "TYPE"), (0, u "Ljava/lang/Class;"), (0, .class_ 386), (0, u "java/io/Serializable"), (0, .class_ 388), (0, u "java/lang/Comparable"), (0, .class_ 390), (0, u "java/lang/constant/Constable"), (0, u "MIN_RADIX"), (0, u "I"), (2, u "MAX_RADIX"), (1, u "MIN_VALUE"), (1, u "MAX_VALUE"), (3, u "UNASSIGNED"), (0, u "B"), (0, u "UPPERCASE_LETTER"), (1, u "LOWERCASE_LETTER"), (0, u "TITLECASE_LETTER"), (1, u "MODIFIER_LETTER"), (1, u "OTHER_LETTER"), (1, u "NON_SPACING_MARK"), (1, u "ENCLOSING_MARK"), (1, u "COMBINING_SPACING_MARK"), (1, u "DECIMAL_DIGIT_NUMBER"), (1, u "LETTER_NUMBER"), (1, u "OTHER_NUMBER"), (1, u "SPACE_SEPARATOR"), (1, u "LINE_SEPARATOR"), (1, u "PARAGRAPH_SEPARATOR"), (1, u "CONTROL"), (1, u "FORMAT"), (1, u "PRIVATE_USE"), (1, u "SURROGATE"), (1, u "DASH_PUNCTUATION"), (1, u "START_PUNCTUATION"), (1, u "END_PUNCTUATION"), (1, u "CONNECTOR_PUNCTUATION"), (1, u "OTHER_PUNCTUATION"), (1, u "MATH_SYMBOL"), (1, u "CURRENCY_SYMBOL"), (1, u "MODIFIER_SYMBOL"), (1, u "OTHER_SYMBOL"), (1, u "INITIAL_QUOTE_PUNCTUATION"), (1, u "FINAL_QUOTE_PUNCTUATION"), (1, u "ERROR"), (1, u "DIRECTIONALITY_UNDEFINED"), (0, u "DIRECTIONALITY_LEFT_TO_RIGHT"), (0, u "DIRECTIONALITY_RIGHT_TO_LEFT"), (0, u "DIRECTIONALITY_RIGHT_TO_LEFT_ARABIC"), (0, u "DIRECTIONALITY_EUROPEAN_NUMBER"), (0, u "DIRECTIONALITY_EUROPEAN_NUMBER_SEPARATOR"), (0, u "DIRECTIONALITY_EUROPEAN_NUMBER_TERMINATOR"), (0, u "DIRECTIONALITY_ARABIC_NUMBER"), (0, u "DIRECTIONALITY_COMMON_NUMBER_SEPARATOR"), (0, u "DIRECTIONALITY_NONSPACING_MARK"), (0, u "DIRECTIONALITY_BOUNDARY_NEUTRAL"), (0, u "DIRECTIONALITY_PARAGRAPH_SEPARATOR"), (0, u "DIRECTIONALITY_SEGMENT_SEPARATOR"), (0, u "DIRECTIONALITY_WHITESPACE"), (0, u "DIRECTIONALITY_OTHER_NEUTRALS"), (0, u "DIRECTIONALITY_LEFT_TO_RIGHT_EMBEDDING"), (0, u "DIRECTIONALITY_LEFT_TO_RIGHT_OVERRIDE"), (0, u "DIRECTIONALITY_RIGHT_TO_LEFT_EMBEDDING"), (0, u "DIRECTIONALITY_RIGHT_TO_LEFT_OVERRIDE"), (1, u "DIRECTIONALITY_POP_DIRECTIONAL_FORMAT"), (0, u "DIRECTIONALITY_LEFT_TO_RIGHT_ISOLATE"), (0, u "DIRECTIONALITY_RIGHT_TO_LEFT_ISOLATE"), (0, u "DIRECTIONALITY_FIRST_STRONG_ISOLATE"), (0, u "DIRECTIONALITY_POP_DIRECTIONAL_ISOLATE"), (0, u "MIN_HIGH_SURROGATE"), (0, u "MAX_HIGH_SURROGATE"), (1, u "MIN_LOW_SURROGATE"), (0, u "MAX_LOW_SURROGATE"), (1, u "MIN_SURROGATE"), (0, u "MAX_SURROGATE"), (0, u "MIN_SUPPLEMENTARY_CODE_POINT"), (0, u "MIN_CODE_POINT"), (0, u "MAX_CODE_POINT"), (1, u "serialVersionUID"), (0, u "J"), (2, u "SIZE"), (0, u "BYTES"), (24, u "isSurrogate"), (63, .class_ 596), (0, u "java/lang/Character$UnicodeScript"), (0, .class_ 598), (0, u "java/lang/Character$Subset")] 5

def k16c0 : Code := { maxStack := 2, maxLocals := 1, code := jdk_89_method_14_code, exceptionTable := #[], attributes := #[] }
def k16m0 : Method := { name := "isHighSurrogate", desc := "(C)Z", sig := { parameters := [.char], returnType := some .boolean }, accessFlags := 9, code := some k16c0 }
def k16c1 : Code := { maxStack := 2, maxLocals := 1, code := jdk_89_method_15_code, exceptionTable := #[], attributes := #[] }
def k16m1 : Method := { name := "isLowSurrogate", desc := "(C)Z", sig := { parameters := [.char], returnType := some .boolean }, accessFlags := 9, code := some k16c1 }
def k16c2 : Code := { maxStack := 2, maxLocals := 1, code := jdk_89_method_16_code, exceptionTable := #[], attributes := #[] }
def k16m2 : Method := { name := "isSurrogate", desc := "(C)Z", sig := { parameters := [.char], returnType := some .boolean }, accessFlags := 9, code := some k16c2 }
def k16c3 : Code := { maxStack := 2, maxLocals := 2, code := jdk_89_method_19_code, exceptionTable := #[], attributes := #[] }
def k16m3 : Method := { name := "toCodePoint", desc := "(CC)I", sig := { parameters := [.char, .char], returnType := some .int }, accessFlags := 9, code := some k16c3 }
def k16c4 : Code := { maxStack := 2, maxLocals := 2, code := jdk_89_method_98_code, exceptionTable := #[], attributes := #[] }
def k16m4 : Method := { name := "compare", desc := "(CC)I", sig := { parameters := [.char, .char], returnType := some .int }, accessFlags := 9, code := some k16c4 }
/-- java/lang/Character -/
def k16 : Class := { plain "java/lang/Character" (some 0) with
  accessFlags := 49
  interfaces := #[2, 3, 5]
  cf := some (fileOf pool16 1 #[.nestMembers #[48, 595, 307, 597]] #[{ accessFlags := 9, nameIndex := 80, descriptorIndex := 81, attributes := #[] }, { accessFlags := 9, nameIndex := 84, descriptorIndex := 81, attributes := #[] }, { accessFlags := 9, nameIndex := 531, descriptorIndex := 81, attributes := #[] }, { accessFlags := 9, nameIndex := 98, descriptorIndex := 99, attributes := #[] }, { accessFlags := 9, nameIndex := 281, descriptorIndex := 99, attributes := #[] }] 49 42 #[385, 387, 389] #[{ accessFlags := 25, nameIndex := 391, descriptorIndex := 392, attributes := #[] }, { accessFlags := 25, nameIndex := 395, descriptorIndex := 392, attributes := #[] }, { accessFlags := 25, nameIndex := 397, descriptorIndex := 22, attributes := #[] }, { accessFlags := 25, nameIndex := 399, descriptorIndex := 22, attributes := #[] }, { accessFlags := 25, nameIndex := 383, descriptorIndex := 384, attributes := #[] }, { accessFlags := 25, nameIndex := 403, descriptorIndex := 404, attributes := #[] }, { accessFlags := 25, nameIndex := 405, descriptorIndex := 404, attributes := #[] }, { accessFlags := 25, nameIndex := 407, descriptorIndex := 404, attributes := #[] }, { accessFlags := 25, nameIndex := 408, descriptorIndex := 404, attributes := #[] }, { accessFlags := 25, nameIndex := 410, descriptorIndex := 404, attributes := #[] }, { accessFlags := 25, nameIndex := 412, descriptorIndex := 404, attributes := #[] }, { accessFlags := 25, nameIndex := 414, descriptorIndex := 404, attributes := #[] }, { accessFlags := 25, nameIndex := 416, descriptorIndex := 404, attributes := #[] }, { accessFlags := 25, nameIndex := 418, descriptorIndex := 404, attributes := #[] }, { accessFlags := 25, nameIndex := 420, descriptorIndex := 404, attributes := #[] }, { accessFlags := 25, nameIndex := 422, descriptorIndex := 404, attributes := #[] }, { accessFlags := 25, nameIndex := 424, descriptorIndex := 404, attributes := #[] }, { accessFlags := 25, nameIndex := 426, descriptorIndex := 404, attributes := #[] }, { accessFlags := 25, nameIndex := 428, descriptorIndex := 404, attributes := #[] }, { accessFlags := 25, nameIndex := 430, descriptorIndex := 404, attributes := #[] }, { accessFlags := 25, nameIndex := 432, descriptorIndex := 404, attributes := #[] }, { accessFlags := 25, nameIndex := 434, descriptorIndex := 404, attributes := #[] }, { accessFlags := 25, nameIndex := 436, descriptorIndex := 404, attributes := #[] }, { accessFlags := 25, nameIndex := 438, descriptorIndex := 404, attributes := #[] }, { accessFlags := 25, nameIndex := 440, descriptorIndex := 404, attributes := #[] }, { accessFlags := 25, nameIndex := 442, descriptorIndex := 404, attributes := #[] }, { accessFlags := 25, nameIndex := 444, descriptorIndex := 404, attributes := #[] }, { accessFlags := 25, nameIndex := 446, descriptorIndex := 404, attributes := #[] }, { accessFlags := 25, nameIndex := 448, descriptorIndex := 404, attributes := #[] }, { accessFlags := 25, nameIndex := 450, descriptorIndex := 404, attributes := #[] }, { accessFlags := 25, nameIndex := 452, descriptorIndex := 404, attributes := #[] }, { accessFlags := 25, nameIndex := 454, descriptorIndex := 404, attributes := #[] }, { accessFlags := 25, nameIndex := 456, descriptorIndex := 404, attributes := #[] }, { accessFlags := 25, nameIndex := 458, descriptorIndex := 404, attributes := #[] }, { accessFlags := 25, nameIndex := 460, descriptorIndex := 404, attributes := #[] }, { accessFlags := 24, nameIndex := 462, descriptorIndex := 392, attributes := #[] }, { accessFlags := 25, nameIndex := 464, descriptorIndex := 404, attributes := #[] }, { accessFlags := 25, nameIndex := 465, descriptorIndex := 404, attributes := #[] }, { accessFlags := 25, nameIndex := 466, descriptorIndex := 404, attributes := #[] }, { accessFlags := 25, nameIndex := 467, descriptorIndex := 404, attributes := #[] }, { accessFlags := 25, nameIndex := 468, descriptorIndex := 404, attributes := #[] }, { accessFlags := 25, nameIndex := 469, descriptorIndex := 404, attributes := #[] }, { accessFlags := 25, nameIndex := 470, descriptorIndex := 404, attributes := #[] }, { accessFlags := 25, nameIndex := 471, descriptorIndex := 404, attributes := #[] }, { accessFlags := 25, nameIndex := 472, descriptorIndex := 404, attributes := #[] }, { accessFlags := 25, nameIndex := 473, descriptorIndex := 404, attributes := #[] }, { accessFlags := 25, nameIndex := 474, descriptorIndex := 404, attributes := #[] }, { accessFlags := 25, nameIndex := 475, descriptorIndex := 404, attributes := #[] }, { accessFlags := 25, nameIndex := 476, descriptorIndex := 404, attributes := #[] }, { accessFlags := 25, nameIndex := 477, descriptorIndex := 404, attributes := #[] }, { accessFlags := 25, nameIndex := 478, descriptorIndex := 404, attributes := #[] }, { accessFlags := 25, nameIndex := 479, descriptorIndex := 404, attributes := #[] }, { accessFlags := 25, nameIndex := 480, descriptorIndex := 404, attributes := #[] }, { accessFlags := 25, nameIndex := 481, descriptorIndex := 404, attributes := #[] }, { accessFlags := 25, nameIndex := 482, descriptorIndex := 404, attributes := #[] }, { accessFlags := 25, nameIndex := 484, descriptorIndex := 404, attributes := #[] }, { accessFlags := 25, nameIndex := 485, descriptorIndex := 404, attributes := #[] }, { accessFlags := 25, nameIndex := 486, descriptorIndex := 404, attributes := #[] }, { accessFlags := 25, nameIndex := 487, descriptorIndex := 404, attributes := #[] }, { accessFlags := 25, nameIndex := 488, descriptorIndex := 404, attributes := #[] }, { accessFlags := 25, nameIndex := 489, descriptorIndex := 22, attributes := #[] }, { accessFlags := 25, nameIndex := 490, descriptorIndex := 22, attributes := #[] }, { accessFlags := 25, nameIndex := 492, descriptorIndex := 22, attributes := #[] }, { accessFlags := 25, nameIndex := 493, descriptorIndex := 22, attributes := #[] }, { accessFlags := 25, nameIndex := 495, descriptorIndex := 22, attributes := #[] }, { accessFlags := 25, nameIndex := 496, descriptorIndex := 22, attributes := #[] }, { accessFlags := 25, nameIndex := 497, descriptorIndex := 392, attributes := #[] }, { accessFlags := 25, nameIndex := 498, descriptorIndex := 392, attributes := #[] }, { accessFlags := 25, nameIndex := 499, descriptorIndex := 392, attributes := #[] }, { accessFlags := 18, nameIndex := 21, descriptorIndex := 22, attributes := #[] }, { accessFlags := 26, nameIndex := 501, descriptorIndex := 502, attributes := #[] }, { accessFlags := 25, nameIndex := 505, descriptorIndex := 392, attributes := #[] }, { accessFlags := 25, nameIndex := 506, descriptorIndex := 392, attributes := #[] }, { accessFlags := 4120, nameIndex := 284, descriptorIndex := 285, attributes := #[] }])
  fields := #[{ name := "MIN_RADIX", type := .int, accessFlags := 25, slot := 0, constantValue := 0 }, { name := "MAX_RADIX", type := .int, accessFlags := 25, slot := 1, constantValue := 0 }, { name := "MIN_VALUE", type := .char, accessFlags := 25, slot := 2, constantValue := 0 }, { name := "MAX_VALUE", type := .char, accessFlags := 25, slot := 3, constantValue := 0 }, { name := "TYPE", type := (.object "java/lang/Class"), accessFlags := 25, slot := 4, constantValue := 0 }, { name := "UNASSIGNED", type := .byte, accessFlags := 25, slot := 5, constantValue := 0 }, { name := "UPPERCASE_LETTER", type := .byte, accessFlags := 25, slot := 6, constantValue := 0 }, { name := "LOWERCASE_LETTER", type := .byte, accessFlags := 25, slot := 7, constantValue := 0 }, { name := "TITLECASE_LETTER", type := .byte, accessFlags := 25, slot := 8, constantValue := 0 }, { name := "MODIFIER_LETTER", type := .byte, accessFlags := 25, slot := 9, constantValue := 0 }, { name := "OTHER_LETTER", type := .byte, accessFlags := 25, slot := 10, constantValue := 0 }, { name := "NON_SPACING_MARK", type := .byte, accessFlags := 25, slot := 11, constantValue := 0 }, { name := "ENCLOSING_MARK", type := .byte, accessFlags := 25, slot := 12, constantValue := 0 }, { name := "COMBINING_SPACING_MARK", type := .byte, accessFlags := 25, slot := 13, constantValue := 0 }, { name := "DECIMAL_DIGIT_NUMBER", type := .byte, accessFlags := 25, slot := 14, constantValue := 0 }, { name := "LETTER_NUMBER", type := .byte, accessFlags := 25, slot := 15, constantValue := 0 }, { name := "OTHER_NUMBER", type := .byte, accessFlags := 25, slot := 16, constantValue := 0 }, { name := "SPACE_SEPARATOR", type := .byte, accessFlags := 25, slot := 17, constantValue := 0 }, { name := "LINE_SEPARATOR", type := .byte, accessFlags := 25, slot := 18, constantValue := 0 }, { name := "PARAGRAPH_SEPARATOR", type := .byte, accessFlags := 25, slot := 19, constantValue := 0 }, { name := "CONTROL", type := .byte, accessFlags := 25, slot := 20, constantValue := 0 }, { name := "FORMAT", type := .byte, accessFlags := 25, slot := 21, constantValue := 0 }, { name := "PRIVATE_USE", type := .byte, accessFlags := 25, slot := 22, constantValue := 0 }, { name := "SURROGATE", type := .byte, accessFlags := 25, slot := 23, constantValue := 0 }, { name := "DASH_PUNCTUATION", type := .byte, accessFlags := 25, slot := 24, constantValue := 0 }, { name := "START_PUNCTUATION", type := .byte, accessFlags := 25, slot := 25, constantValue := 0 }, { name := "END_PUNCTUATION", type := .byte, accessFlags := 25, slot := 26, constantValue := 0 }, { name := "CONNECTOR_PUNCTUATION", type := .byte, accessFlags := 25, slot := 27, constantValue := 0 }, { name := "OTHER_PUNCTUATION", type := .byte, accessFlags := 25, slot := 28, constantValue := 0 }, { name := "MATH_SYMBOL", type := .byte, accessFlags := 25, slot := 29, constantValue := 0 }, { name := "CURRENCY_SYMBOL", type := .byte, accessFlags := 25, slot := 30, constantValue := 0 }, { name := "MODIFIER_SYMBOL", type := .byte, accessFlags := 25, slot := 31, constantValue := 0 }, { name := "OTHER_SYMBOL", type := .byte, accessFlags := 25, slot := 32, constantValue := 0 }, { name := "INITIAL_QUOTE_PUNCTUATION", type := .byte, accessFlags := 25, slot := 33, constantValue := 0 }, { name := "FINAL_QUOTE_PUNCTUATION", type := .byte, accessFlags := 25, slot := 34, constantValue := 0 }, { name := "ERROR", type := .int, accessFlags := 24, slot := 35, constantValue := 0 }, { name := "DIRECTIONALITY_UNDEFINED", type := .byte, accessFlags := 25, slot := 36, constantValue := 0 }, { name := "DIRECTIONALITY_LEFT_TO_RIGHT", type := .byte, accessFlags := 25, slot := 37, constantValue := 0 }, { name := "DIRECTIONALITY_RIGHT_TO_LEFT", type := .byte, accessFlags := 25, slot := 38, constantValue := 0 }, { name := "DIRECTIONALITY_RIGHT_TO_LEFT_ARABIC", type := .byte, accessFlags := 25, slot := 39, constantValue := 0 }, { name := "DIRECTIONALITY_EUROPEAN_NUMBER", type := .byte, accessFlags := 25, slot := 40, constantValue := 0 }, { name := "DIRECTIONALITY_EUROPEAN_NUMBER_SEPARATOR", type := .byte, accessFlags := 25, slot := 41, constantValue := 0 }, { name := "DIRECTIONALITY_EUROPEAN_NUMBER_TERMINATOR", type := .byte, accessFlags := 25, slot := 42, constantValue := 0 }, { name := "DIRECTIONALITY_ARABIC_NUMBER", type := .byte, accessFlags := 25, slot := 43, constantValue := 0 }, { name := "DIRECTIONALITY_COMMON_NUMBER_SEPARATOR", type := .byte, accessFlags := 25, slot := 44, constantValue := 0 }, { name := "DIRECTIONALITY_NONSPACING_MARK", type := .byte, accessFlags := 25, slot := 45, constantValue := 0 }, { name := "DIRECTIONALITY_BOUNDARY_NEUTRAL", type := .byte, accessFlags := 25, slot := 46, constantValue := 0 }, { name := "DIRECTIONALITY_PARAGRAPH_SEPARATOR", type := .byte, accessFlags := 25, slot := 47, constantValue := 0 }, { name := "DIRECTIONALITY_SEGMENT_SEPARATOR", type := .byte, accessFlags := 25, slot := 48, constantValue := 0 }, { name := "DIRECTIONALITY_WHITESPACE", type := .byte, accessFlags := 25, slot := 49, constantValue := 0 }, { name := "DIRECTIONALITY_OTHER_NEUTRALS", type := .byte, accessFlags := 25, slot := 50, constantValue := 0 }, { name := "DIRECTIONALITY_LEFT_TO_RIGHT_EMBEDDING", type := .byte, accessFlags := 25, slot := 51, constantValue := 0 }, { name := "DIRECTIONALITY_LEFT_TO_RIGHT_OVERRIDE", type := .byte, accessFlags := 25, slot := 52, constantValue := 0 }, { name := "DIRECTIONALITY_RIGHT_TO_LEFT_EMBEDDING", type := .byte, accessFlags := 25, slot := 53, constantValue := 0 }, { name := "DIRECTIONALITY_RIGHT_TO_LEFT_OVERRIDE", type := .byte, accessFlags := 25, slot := 54, constantValue := 0 }, { name := "DIRECTIONALITY_POP_DIRECTIONAL_FORMAT", type := .byte, accessFlags := 25, slot := 55, constantValue := 0 }, { name := "DIRECTIONALITY_LEFT_TO_RIGHT_ISOLATE", type := .byte, accessFlags := 25, slot := 56, constantValue := 0 }, { name := "DIRECTIONALITY_RIGHT_TO_LEFT_ISOLATE", type := .byte, accessFlags := 25, slot := 57, constantValue := 0 }, { name := "DIRECTIONALITY_FIRST_STRONG_ISOLATE", type := .byte, accessFlags := 25, slot := 58, constantValue := 0 }, { name := "DIRECTIONALITY_POP_DIRECTIONAL_ISOLATE", type := .byte, accessFlags := 25, slot := 59, constantValue := 0 }, { name := "MIN_HIGH_SURROGATE", type := .char, accessFlags := 25, slot := 60, constantValue := 0 }, { name := "MAX_HIGH_SURROGATE", type := .char, accessFlags := 25, slot := 61, constantValue := 0 }, { name := "MIN_LOW_SURROGATE", type := .char, accessFlags := 25, slot := 62, constantValue := 0 }, { name := "MAX_LOW_SURROGATE", type := .char, accessFlags := 25, slot := 63, constantValue := 0 }, { name := "MIN_SURROGATE", type := .char, accessFlags := 25, slot := 64, constantValue := 0 }, { name := "MAX_SURROGATE", type := .char, accessFlags := 25, slot := 65, constantValue := 0 }, { name := "MIN_SUPPLEMENTARY_CODE_POINT", type := .int, accessFlags := 25, slot := 66, constantValue := 0 }, { name := "MIN_CODE_POINT", type := .int, accessFlags := 25, slot := 67, constantValue := 0 }, { name := "MAX_CODE_POINT", type := .int, accessFlags := 25, slot := 68, constantValue := 0 }, { name := "value", type := .char, accessFlags := 18, slot := 0, constantValue := 0 }, { name := "serialVersionUID", type := .long, accessFlags := 26, slot := 69, constantValue := 0 }, { name := "SIZE", type := .int, accessFlags := 25, slot := 70, constantValue := 0 }, { name := "BYTES", type := .int, accessFlags := 25, slot := 71, constantValue := 0 }, { name := "$assertionsDisabled", type := .boolean, accessFlags := 4120, slot := 72, constantValue := 0 }]
  methods := #[k16m0, k16m1, k16m2, k16m3, k16m4]
  instanceTypes := #[.char]
  staticTypes := #[.int, .int, .char, .char, (.object "java/lang/Class"), .byte, .byte, .byte, .byte, .byte, .byte, .byte, .byte, .byte, .byte, .byte, .byte, .byte, .byte, .byte, .byte, .byte, .byte, .byte, .byte, .byte, .byte, .byte, .byte, .byte, .byte, .byte, .byte, .byte, .byte, .int, .byte, .byte, .byte, .byte, .byte, .byte, .byte, .byte, .byte, .byte, .byte, .byte, .byte, .byte, .byte, .byte, .byte, .byte, .byte, .byte, .byte, .byte, .byte, .byte, .char, .char, .char, .char, .char, .char, .int, .int, .int, .long, .int, .int, .boolean]
  resolved := Array.replicate 604 none
  statics := none }

def pool17 : Array CpInfo := pool [(1, .class_ 2), (0, u "java/lang/String"), (1, .class_ 6), (1, u "java/lang/Object"), (0, u "<init>"), (0, u "()V"), (0, .methodref 1 10), (0, .nameAndType 11 12), (0, u "checkIndex"), (0, u "(II)V"), (1, .class_ 16), (1, u "java/lang/StringLatin1"), (36, u "([BI)C"), (67, u "$assertionsDisabled"), (0, u "Z"), (98, .class_ 223), (1, u "java/lang/StringLatin1$LinesSpliterator"), (28, u "charAt"), (137, .class_ 391), (0, u "java/lang/StringLatin1$CharsSpliterator")] 3

def k17m0 : Method := { name := "<init>", desc := "()V", sig := { parameters := [], returnType := none }, accessFlags := 0, code := none }
def k17c1 : Code := { maxStack := 2, maxLocals := 2, code := jdk_43_method_2_code, exceptionTable := #[], attributes := #[] }
def k17m1 : Method := { name := "charAt", desc := "([BI)C", sig := { parameters := [(.array .byte), .int], returnType := some .char }, accessFlags := 9, code := some k17c1 }
/-- java/lang/StringLatin1 -/
def k17 : Class := { plain "java/lang/StringLatin1" (some 0) with
  accessFlags := 48
  interfaces := #[]
  cf := some (fileOf pool17 14 #[.nestMembers #[390, 221]] #[{ accessFlags := 0, nameIndex := 7, descriptorIndex := 8, attributes := #[] }, { accessFlags := 9, nameIndex := 252, descriptorIndex := 53, attributes := #[] }] 48 4 #[] #[{ accessFlags := 4120, nameIndex := 121, descriptorIndex := 122, attributes := #[] }])
  fields := #[{ name := "$assertionsDisabled", type := .boolean, accessFlags := 4120, slot := 0, constantValue := 0 }]
  methods := #[k17m0, k17m1]
  instanceTypes := #[]
  staticTypes := #[.boolean]
  resolved := Array.replicate 395 none
  statics := none }

def pool18 : Array CpInfo := pool [(9, u "<init>"), (6, .class_ 18), (1, u "java/lang/Object"), (0, u "()V"), (1, .class_ 23), (1, u "jdk/internal/util/ArraysSupport"), (0, u "LOG2_ARRAY_LONG_INDEX_SCALE"), (0, u "I"), (2, u "U"), (0, u "Ljdk/internal/misc/Unsafe;"), (8, u "BIG_ENDIAN"), (0, u "Z"), (8, u "LOG2_BYTE_BIT_SIZE"), (4, u "LOG2_ARRAY_INT_INDEX_SCALE"), (54, u "JLA"), (0, u "Ljdk/internal/access/JavaLangAccess;"), (11, u "LOG2_ARRAY_BOOLEAN_INDEX_SCALE"), (9, u "LOG2_ARRAY_BYTE_INDEX_SCALE"), (5, u "LOG2_ARRAY_CHAR_INDEX_SCALE"), (5, u "LOG2_ARRAY_SHORT_INDEX_SCALE"), (18, u "LOG2_ARRAY_FLOAT_INDEX_SCALE"), (24, u "LOG2_ARRAY_DOUBLE_INDEX_SCALE"), (89, u "T_BOOLEAN"), (2, u "T_CHAR"), (1, u "T_FLOAT"), (1, u "T_DOUBLE"), (1, u "T_BYTE"), (1, u "T_SHORT"), (1, u "T_INT"), (1, u "T_LONG"), (1, u "SOFT_MAX_ARRAY_LENGTH")] 83

def k18m0 : Method := { name := "<init>", desc := "()V", sig := { parameters := [], returnType := none }, accessFlags := 2, code := none }
/-- jdk/internal/util/ArraysSupport -/
def k18 : Class := { plain "jdk/internal/util/ArraysSupport" (some 0) with
  accessFlags := 33
  interfaces := #[]
  cf := some (fileOf pool18 21 #[] #[{ accessFlags := 2, nameIndex := 9, descriptorIndex := 19, attributes := #[] }] 33 16 #[] #[{ accessFlags := 24, nameIndex := 28, descriptorIndex := 29, attributes := #[] }, { accessFlags := 26, nameIndex := 38, descriptorIndex := 39, attributes := #[] }, { accessFlags := 25, nameIndex := 121, descriptorIndex := 25, attributes := #[] }, { accessFlags := 25, nameIndex := 131, descriptorIndex := 25, attributes := #[] }, { accessFlags := 25, nameIndex := 137, descriptorIndex := 25, attributes := #[] }, { accessFlags := 25, nameIndex := 143, descriptorIndex := 25, attributes := #[] }, { accessFlags := 25, nameIndex := 53, descriptorIndex := 25, attributes := #[] }, { accessFlags := 25, nameIndex := 24, descriptorIndex := 25, attributes := #[] }, { accessFlags := 25, nameIndex := 162, descriptorIndex := 25, attributes := #[] }, { accessFlags := 25, nameIndex := 187, descriptorIndex := 25, attributes := #[] }, { accessFlags := 26, nameIndex := 48, descriptorIndex := 25, attributes := #[] }, { accessFlags := 25, nameIndex := 277, descriptorIndex := 25, attributes := #[] }, { accessFlags := 25, nameIndex := 280, descriptorIndex := 25, attributes := #[] }, { accessFlags := 25, nameIndex := 282, descriptorIndex := 25, attributes := #[] }, { accessFlags := 25, nameIndex := 284, descriptorIndex := 25, attributes := #[] }, { accessFlags := 25, nameIndex := 286, descriptorIndex := 25, attributes := #[] }, { accessFlags := 25, nameIndex := 288, descriptorIndex := 25, attributes := #[] }, { accessFlags := 25, nameIndex := 290, descriptorIndex := 25, attributes := #[] }, { accessFlags := 25, nameIndex := 292, descriptorIndex := 25, attributes := #[] }, { accessFlags := 26, nameIndex := 108, descriptorIndex := 109, attributes := #[] }, { accessFlags := 25, nameIndex := 294, descriptorIndex := 25, attributes := #[] }])
  fields := #[{ name := "U", type := (.object "jdk/internal/misc/Unsafe"), accessFlags := 24, slot := 0, constantValue := 0 }, { name := "BIG_ENDIAN", type := .boolean, accessFlags := 26, slot := 1, constantValue := 0 }, { name := "LOG2_ARRAY_BOOLEAN_INDEX_SCALE", type := .int, accessFlags := 25, slot := 2, constantValue := 0 }, { name := "LOG2_ARRAY_BYTE_INDEX_SCALE", type := .int, accessFlags := 25, slot := 3, constantValue := 0 }, { name := "LOG2_ARRAY_CHAR_INDEX_SCALE", type := .int, accessFlags := 25, slot := 4, constantValue := 0 }, { name := "LOG2_ARRAY_SHORT_INDEX_SCALE", type := .int, accessFlags := 25, slot := 5, constantValue := 0 }, { name := "LOG2_ARRAY_INT_INDEX_SCALE", type := .int, accessFlags := 25, slot := 6, constantValue := 0 }, { name := "LOG2_ARRAY_LONG_INDEX_SCALE", type := .int, accessFlags := 25, slot := 7, constantValue := 0 }, { name := "LOG2_ARRAY_FLOAT_INDEX_SCALE", type := .int, accessFlags := 25, slot := 8, constantValue := 0 }, { name := "LOG2_ARRAY_DOUBLE_INDEX_SCALE", type := .int, accessFlags := 25, slot := 9, constantValue := 0 }, { name := "LOG2_BYTE_BIT_SIZE", type := .int, accessFlags := 26, slot := 10, constantValue := 0 }, { name := "T_BOOLEAN", type := .int, accessFlags := 25, slot := 11, constantValue := 0 }, { name := "T_CHAR", type := .int, accessFlags := 25, slot := 12, constantValue := 0 }, { name := "T_FLOAT", type := .int, accessFlags := 25, slot := 13, constantValue := 0 }, { name := "T_DOUBLE", type := .int, accessFlags := 25, slot := 14, constantValue := 0 }, { name := "T_BYTE", type := .int, accessFlags := 25, slot := 15, constantValue := 0 }, { name := "T_SHORT", type := .int, accessFlags := 25, slot := 16, constantValue := 0 }, { name := "T_INT", type := .int, accessFlags := 25, slot := 17, constantValue := 0 }, { name := "T_LONG", type := .int, accessFlags := 25, slot := 18, constantValue := 0 }, { name := "JLA", type := (.object "jdk/internal/access/JavaLangAccess"), accessFlags := 26, slot := 19, constantValue := 0 }, { name := "SOFT_MAX_ARRAY_LENGTH", type := .int, accessFlags := 25, slot := 20, constantValue := 0 }]
  methods := #[k18m0]
  instanceTypes := #[]
  staticTypes := #[(.object "jdk/internal/misc/Unsafe"), .boolean, .int, .int, .int, .int, .int, .int, .int, .int, .int, .int, .int, .int, .int, .int, .int, .int, .int, (.object "jdk/internal/access/JavaLangAccess"), .int]
  resolved := Array.replicate 378 none
  statics := none }

def pool19 : Array CpInfo := pool [(1, u "java/lang/Cloneable"), (0, .class_ 1), (0, u "java/lang/Object"), (0, .class_ 3)] 3

/-- java/lang/Cloneable -/
def k19 : Class := { plain "java/lang/Cloneable" (some 0) with
  accessFlags := 1537
  interfaces := #[]
  cf := some (fileOf pool19 2 #[] #[] 1537 4 #[] #[])
  fields := #[]
  methods := #[]
  instanceTypes := #[]
  staticTypes := #[]
  resolved := Array.replicate 8 none
  statics := none }

/-- the primitive byte -/
def k20 : Class := { plain "byte" none with kind := .primitive 'B', accessFlags := 0x411 }
/-- [B -/
def k21 : Class := { plain "[B" (some 0) with kind := .array 20 .byte, interfaces := #[19, 2], accessFlags := 1041 }

/-- the primitive char -/
def k22 : Class := { plain "char" none with kind := .primitive 'C', accessFlags := 0x411 }
/-- [C -/
def k23 : Class := { plain "[C" (some 0) with kind := .array 22 .char, interfaces := #[19, 2], accessFlags := 1041 }

/-- the primitive int -/
def k24 : Class := { plain "int" none with kind := .primitive 'I', accessFlags := 0x411 }
/-- [I -/
def k25 : Class := { plain "[I" (some 0) with kind := .array 24 .int, interfaces := #[19, 2], accessFlags := 1041 }

def heap : Heap := #[{ cls := 7, slots := #[.long 0, .int 1, .null, .int 0, .null, .int 0, .int 0], vm := .statics 7 },
  { cls := 14, slots := #[.int 0, .int 8, .int 0, .int 1], vm := .statics 14 },
  { cls := 15, slots := #[.null, .null, .null], vm := .statics 15 }]
def classes : Array Class := #[k0, k1, k2, k3, k4, k5, k6, k7, k8, k9, k10, k11, k12, k13, k14, k15, k16, k17, k18, k19, k20, k21, k22, k23, k24, k25]
def interned : List (Array UInt16 × Addr) := []
def slotsUsed : Nat := 14
def theMethod : MethodId := ⟨1, 1⟩
def args0 : Array Value := #[.int 10, .int 21, .int 33, .int 44, .int 514]
def aboutOver (below : List Frame) : State where
  vm := { classes := classes, interned := interned.toArray }
  heap := heap
  slotsUsed := slotsUsed
  threads := #[{ frames := .invoking theMethod args0 :: below }]
def below0 : List Frame := [.native { method := ⟨0, 0⟩, args := #[] }]
def about1 : State := aboutOver below0
def p0 : Program := .bare "" "" ""
def e0 : Env := launch0.env 0 0 0
theorem w_frames : about1.frames = Frame.invoking theMethod args0 :: below0 := rfl
set_option maxRecDepth 65536 in
theorem w_args : argsFit about1.vm theMethod args0 = true := by decide +kernel
set_option maxRecDepth 65536 in
theorem w_heap : heapFits about1 = true := by decide +kernel
set_option maxRecDepth 65536 in
theorem w_runnable : about1.curStatus? = some .runnable := by decide +kernel
set_option maxRecDepth 65536 in
theorem w_alone : about1.alone = true := by decide +kernel
set_option maxRecDepth 65536 in
theorem w_named : about1.methodNamed? x = some theMethod := by decide +kernel
set_option maxRecDepth 65536 in
theorem w_hears : about1.hears theMethod below0 = true := by decide +kernel
set_option maxRecDepth 65536 in
theorem w_ripe : about1.ripe theMethod args0 below0 = true := by decide +kernel
theorem w_running : about1.status = .running := rfl
set_option maxRecDepth 65536 in
theorem w_room : about1.hasRoom e0.platform room_1 = true :=
  launch0.hasRoom_least _ room_1 (by decide +kernel) (by decide +kernel) (by decide +kernel) (by decide +kernel) (by decide +kernel) (by decide +kernel)
theorem allAtoms_all (ts : List Jvm.Cond) (a : Array Jvm.Value) (st : Jvm.State) : (allAtoms ts).before a st = ts.all (fun c => c.before a st) := by
  induction ts with
  | nil => rfl
  | cons c t ih =>
    show (Jvm.Cond.and c (allAtoms t)).before a st = _
    rw [Jvm.Cond.before_and, ih, List.all_cons]
def words1 : List Jvm.Cond := Jvm.Cond.code x code maxLocals ret :: tables_1
/-- a 'code' word, met by the world's own term for the bytes: nothing is compared byte by byte -/
theorem code_word {y : MethodName} {bytes : ByteArray} {mx : Nat} {rt : Option FieldType} {a : Array Value} {s : State} {m : MethodId} {meth : Method} {c : Code} (h1 : s.methodNamed? y = some m) (h2 : s.vm.method? m = some meth) (h3 : meth.code = some c) (h4 : c.code = bytes)
    (h5 : (c.maxLocals == mx && c.exceptionTable.isEmpty && decide (c.maxStack ≤ mostOperands) && decide (meth.sig.returnType = rt) && !meth.locks && decide (parseMethodDescriptor y.desc = some meth.sig)) = true) : (Jvm.Cond.code y bytes mx rt).before a s = true := by
  simp only [Bool.and_eq_true, beq_iff_eq, Bool.not_eq_true', decide_eq_true_eq] at h5
  obtain ⟨⟨⟨⟨⟨g1, g2⟩, g3⟩, g4⟩, g5⟩, g6⟩ := h5
  simp [Cond.before, Cond.holds, Cond.value, h1, h2, h3, h4, g1, g2, g3, g4, g5, g6]
def isCode : Jvm.Cond → Bool
  | .code _ _ _ _ => true
  | _ => false
theorem all_split {L : List Jvm.Cond} {P : Jvm.Cond → Bool} (h1 : L.all (fun c => isCode c || P c) = true) (h2 : ∀ c ∈ L.filter isCode, P c = true) : L.all P = true := by
  refine List.all_eq_true.mpr fun c hc => ?_
  have h := List.all_eq_true.mp h1 c hc
  rcases Bool.eq_false_or_eq_true (isCode c) with hi | hi
  · exact h2 c (List.mem_filter.mpr ⟨hc, hi⟩)
  · simpa [hi] using h
set_option maxRecDepth 65536 in
theorem w_c0 : (Jvm.Cond.code x code maxLocals ret).before args0 about1 = true := code_word (m := ⟨1, 1⟩) (meth := k1m1) (c := k1c1) (by decide +kernel) rfl rfl rfl (by decide +kernel)
set_option maxRecDepth 65536 in
theorem w_c1 : (Jvm.Cond.code ({ cls := "com/example/co_occurrence_ranking/cooccurrenceranking/io/LineReaderCompareFieldsPinLaw", name := "cp", desc := "(I)I" } : Jvm.MethodName) method_3_code (2 : Nat) (Option.some Jvm.ClassFile.FieldType.int)).before args0 about1 = true := code_word (m := ⟨1, 2⟩) (meth := k1m2) (c := k1c2) (by decide +kernel) rfl rfl rfl (by decide +kernel)
set_option maxRecDepth 65536 in
theorem w_c2 : (Jvm.Cond.code ({ cls := "com/example/co_occurrence_ranking/cooccurrenceranking/io/LineReaderCompareFieldsPinLaw", name := "str", desc := "(III)Ljava/lang/String;" } : Jvm.MethodName) method_5_code (5 : Nat) (Option.some (Jvm.ClassFile.FieldType.object "java/lang/String"))).before args0 about1 = true := code_word (m := ⟨1, 4⟩) (meth := k1m4) (c := k1c4) (by decide +kernel) rfl rfl rfl (by decide +kernel)
set_option maxRecDepth 65536 in
theorem w_c3 : (Jvm.Cond.code ({ cls := "java/lang/String", name := "<init>", desc := "([C)V" } : Jvm.MethodName) jdk_42_method_3_code (2 : Nat) (Option.none : Option Jvm.ClassFile.FieldType)).before args0 about1 = true := code_word (m := ⟨7, 1⟩) (meth := k7m1) (c := k7c1) (by decide +kernel) rfl rfl rfl (by decide +kernel)
set_option maxRecDepth 65536 in
theorem w_c4 : (Jvm.Cond.code ({ cls := "java/lang/String", name := "<init>", desc := "([CIILjava/lang/Void;)V" } : Jvm.MethodName) jdk_42_method_149_code (6 : Nat) (Option.none : Option Jvm.ClassFile.FieldType)).before args0 about1 = true := code_word (m := ⟨7, 5⟩) (meth := k7m5) (c := k7c5) (by decide +kernel) rfl rfl rfl (by decide +kernel)
set_option maxRecDepth 65536 in
theorem w_c5 : (Jvm.Cond.code ({ cls := "java/lang/Object", name := "<init>", desc := "()V" } : Jvm.MethodName) object_method_1_code (1 : Nat) (Option.none : Option Jvm.ClassFile.FieldType)).before args0 about1 = true := code_word (m := ⟨0, 0⟩) (meth := k0m0) (c := k0c0) (by decide +kernel) rfl rfl rfl (by decide +kernel)
set_option maxRecDepth 65536 in
theorem w_c6 : (Jvm.Cond.code ({ cls := "com/example/co_occurrence_ranking/cooccurrenceranking/io/LineReaderCompareFieldsPinLaw", name := "ref", desc := "(IIIIII)I" } : Jvm.MethodName) method_8_code (6 : Nat) (Option.some Jvm.ClassFile.FieldType.int)).before args0 about1 = true := code_word (m := ⟨1, 7⟩) (meth := k1m7) (c := k1c7) (by decide +kernel) rfl rfl rfl (by decide +kernel)
set_option maxRecDepth 65536 in
theorem w_c7 : (Jvm.Cond.code ({ cls := "com/example/co_occurrence_ranking/cooccurrenceranking/io/LineReaderCompareFieldsPinLaw", name := "cmp", desc := "(II)I" } : Jvm.MethodName) method_6_code (2 : Nat) (Option.some Jvm.ClassFile.FieldType.int)).before args0 about1 = true := code_word (m := ⟨1, 5⟩) (meth := k1m5) (c := k1c5) (by decide +kernel) rfl rfl rfl (by decide +kernel)
set_option maxRecDepth 65536 in
theorem w_c8 : (Jvm.Cond.code ({ cls := "com/example/co_occurrence_ranking/cooccurrenceranking/io/LineReader", name := "compareFields", desc := "(Ljava/lang/String;Ljava/lang/String;)I" } : Jvm.MethodName) prog_13_method_6_code (7 : Nat) (Option.some Jvm.ClassFile.FieldType.int)).before args0 about1 = true := code_word (m := ⟨10, 0⟩) (meth := k10m0) (c := k10c0) (by decide +kernel) rfl rfl rfl (by decide +kernel)
set_option maxRecDepth 65536 in
theorem w_c9 : (Jvm.Cond.code ({ cls := "java/lang/String", name := "length", desc := "()I" } : Jvm.MethodName) jdk_42_method_54_code (1 : Nat) (Option.some Jvm.ClassFile.FieldType.int)).before args0 about1 = true := code_word (m := ⟨7, 2⟩) (meth := k7m2) (c := k7c2) (by decide +kernel) rfl rfl rfl (by decide +kernel)
set_option maxRecDepth 65536 in
theorem w_c10 : (Jvm.Cond.code ({ cls := "java/lang/String", name := "coder", desc := "()B" } : Jvm.MethodName) jdk_42_method_152_code (1 : Nat) (Option.some Jvm.ClassFile.FieldType.byte)).before args0 about1 = true := code_word (m := ⟨7, 6⟩) (meth := k7m6) (c := k7c6) (by decide +kernel) rfl rfl rfl (by decide +kernel)
set_option maxRecDepth 65536 in
theorem w_c11 : (Jvm.Cond.code ({ cls := "java/lang/Math", name := "min", desc := "(II)I" } : Jvm.MethodName) jdk_29_method_69_code (2 : Nat) (Option.some Jvm.ClassFile.FieldType.int)).before args0 about1 = true := code_word (m := ⟨11, 1⟩) (meth := k11m1) (c := k11c1) (by decide +kernel) rfl rfl rfl (by decide +kernel)
set_option maxRecDepth 65536 in
theorem w_c12 : (Jvm.Cond.code ({ cls := "java/lang/Integer", name := "compare", desc := "(II)I" } : Jvm.MethodName) jdk_33_method_40_code (2 : Nat) (Option.some Jvm.ClassFile.FieldType.int)).before args0 about1 = true := code_word (m := ⟨13, 0⟩) (meth := k13m0) (c := k13c0) (by decide +kernel) rfl rfl rfl (by decide +kernel)
set_option maxRecDepth 65536 in
theorem w_c13 : (Jvm.Cond.code ({ cls := "com/example/co_occurrence_ranking/cooccurrenceranking/io/LineReaderCompareFieldsPinLaw", name := "sgn", desc := "(I)I" } : Jvm.MethodName) method_7_code (1 : Nat) (Option.some Jvm.ClassFile.FieldType.int)).before args0 about1 = true := code_word (m := ⟨1, 6⟩) (meth := k1m6) (c := k1c6) (by decide +kernel) rfl rfl rfl (by decide +kernel)
set_option maxRecDepth 65536 in
theorem w_c14 : (Jvm.Cond.code ({ cls := "com/example/co_occurrence_ranking/cooccurrenceranking/io/LineReaderCompareFieldsPinLaw", name := "put", desc := "([CII)I" } : Jvm.MethodName) method_4_code (4 : Nat) (Option.some Jvm.ClassFile.FieldType.int)).before args0 about1 = true := code_word (m := ⟨1, 3⟩) (meth := k1m3) (c := k1c3) (by decide +kernel) rfl rfl rfl (by decide +kernel)
set_option maxRecDepth 65536 in
theorem w_c15 : (Jvm.Cond.code ({ cls := "java/lang/StringUTF16", name := "compress", desc := "([CII)[B" } : Jvm.MethodName) jdk_52_method_16_code (6 : Nat) (Option.some (Jvm.ClassFile.FieldType.array Jvm.ClassFile.FieldType.byte))).before args0 about1 = true := code_word (m := ⟨14, 10⟩) (meth := k14m10) (c := k14c10) (by decide +kernel) rfl rfl rfl (by decide +kernel)
set_option maxRecDepth 65536 in
theorem w_c16 : (Jvm.Cond.code ({ cls := "java/lang/StringUTF16", name := "compress", desc := "([CI[BII)I" } : Jvm.MethodName) jdk_52_method_21_code (7 : Nat) (Option.some Jvm.ClassFile.FieldType.int)).before args0 about1 = true := code_word (m := ⟨14, 11⟩) (meth := k14m11) (c := k14c11) (by decide +kernel) rfl rfl rfl (by decide +kernel)
set_option maxRecDepth 65536 in
theorem w_c17 : (Jvm.Cond.code ({ cls := "java/lang/StringUTF16", name := "toBytes", desc := "([CII)[B" } : Jvm.MethodName) jdk_52_method_14_code (5 : Nat) (Option.some (Jvm.ClassFile.FieldType.array Jvm.ClassFile.FieldType.byte))).before args0 about1 = true := code_word (m := ⟨14, 8⟩) (meth := k14m8) (c := k14c8) (by decide +kernel) rfl rfl rfl (by decide +kernel)
set_option maxRecDepth 65536 in
theorem w_c18 : (Jvm.Cond.code ({ cls := "java/lang/StringUTF16", name := "newBytesFor", desc := "(I)[B" } : Jvm.MethodName) jdk_52_method_2_code (1 : Nat) (Option.some (Jvm.ClassFile.FieldType.array Jvm.ClassFile.FieldType.byte))).before args0 about1 = true := code_word (m := ⟨14, 1⟩) (meth := k14m1) (c := k14c1) (by decide +kernel) rfl rfl rfl (by decide +kernel)
set_option maxRecDepth 65536 in
theorem w_c19 : (Jvm.Cond.code ({ cls := "java/lang/StringUTF16", name := "newBytesLength", desc := "(I)I" } : Jvm.MethodName) jdk_52_method_3_code (1 : Nat) (Option.some Jvm.ClassFile.FieldType.int)).before args0 about1 = true := code_word (m := ⟨14, 2⟩) (meth := k14m2) (c := k14c2) (by decide +kernel) rfl rfl rfl (by decide +kernel)
set_option maxRecDepth 65536 in
theorem w_c20 : (Jvm.Cond.code ({ cls := "java/lang/StringUTF16", name := "putChar", desc := "([BII)V" } : Jvm.MethodName) jdk_52_method_4_code (3 : Nat) (Option.none : Option Jvm.ClassFile.FieldType)).before args0 about1 = true := code_word (m := ⟨14, 3⟩) (meth := k14m3) (c := k14c3) (by decide +kernel) rfl rfl rfl (by decide +kernel)
set_option maxRecDepth 65536 in
theorem w_c21 : (Jvm.Cond.code ({ cls := "java/lang/StringUTF16", name := "getChar", desc := "([BI)C" } : Jvm.MethodName) jdk_52_method_5_code (2 : Nat) (Option.some Jvm.ClassFile.FieldType.char)).before args0 about1 = true := code_word (m := ⟨14, 4⟩) (meth := k14m4) (c := k14c4) (by decide +kernel) rfl rfl rfl (by decide +kernel)
set_option maxRecDepth 65536 in
theorem w_c22 : (Jvm.Cond.code ({ cls := "java/lang/StringUTF16", name := "coderFromArrayLen", desc := "([BI)B" } : Jvm.MethodName) jdk_52_method_15_code (2 : Nat) (Option.some Jvm.ClassFile.FieldType.byte)).before args0 about1 = true := code_word (m := ⟨14, 9⟩) (meth := k14m9) (c := k14c9) (by decide +kernel) rfl rfl rfl (by decide +kernel)
set_option maxRecDepth 65536 in
theorem w_c23 : (Jvm.Cond.code ({ cls := "java/lang/String", name := "charAt", desc := "(I)C" } : Jvm.MethodName) jdk_42_method_56_code (2 : Nat) (Option.some Jvm.ClassFile.FieldType.char)).before args0 about1 = true := code_word (m := ⟨7, 3⟩) (meth := k7m3) (c := k7c3) (by decide +kernel) rfl rfl rfl (by decide +kernel)
set_option maxRecDepth 65536 in
theorem w_c24 : (Jvm.Cond.code ({ cls := "java/lang/String", name := "isLatin1", desc := "()Z" } : Jvm.MethodName) jdk_42_method_154_code (1 : Nat) (Option.some Jvm.ClassFile.FieldType.boolean)).before args0 about1 = true := code_word (m := ⟨7, 7⟩) (meth := k7m7) (c := k7c7) (by decide +kernel) rfl rfl rfl (by decide +kernel)
set_option maxRecDepth 65536 in
theorem w_c25 : (Jvm.Cond.code ({ cls := "java/lang/StringUTF16", name := "charAt", desc := "([BI)C" } : Jvm.MethodName) jdk_52_method_83_code (2 : Nat) (Option.some Jvm.ClassFile.FieldType.char)).before args0 about1 = true := code_word (m := ⟨14, 12⟩) (meth := k14m12) (c := k14c12) (by decide +kernel) rfl rfl rfl (by decide +kernel)
set_option maxRecDepth 65536 in
theorem w_c26 : (Jvm.Cond.code ({ cls := "java/lang/StringUTF16", name := "checkIndex", desc := "(I[B)V" } : Jvm.MethodName) jdk_52_method_91_code (2 : Nat) (Option.none : Option Jvm.ClassFile.FieldType)).before args0 about1 = true := code_word (m := ⟨14, 13⟩) (meth := k14m13) (c := k14c13) (by decide +kernel) rfl rfl rfl (by decide +kernel)
set_option maxRecDepth 65536 in
theorem w_c27 : (Jvm.Cond.code ({ cls := "java/lang/StringUTF16", name := "length", desc := "([B)I" } : Jvm.MethodName) jdk_52_method_6_code (1 : Nat) (Option.some Jvm.ClassFile.FieldType.int)).before args0 about1 = true := code_word (m := ⟨14, 5⟩) (meth := k14m5) (c := k14c5) (by decide +kernel) rfl rfl rfl (by decide +kernel)
set_option maxRecDepth 65536 in
theorem w_c28 : (Jvm.Cond.code ({ cls := "java/lang/String", name := "checkIndex", desc := "(II)V" } : Jvm.MethodName) jdk_42_method_155_code (2 : Nat) (Option.none : Option Jvm.ClassFile.FieldType)).before args0 about1 = true := code_word (m := ⟨7, 8⟩) (meth := k7m8) (c := k7c8) (by decide +kernel) rfl rfl rfl (by decide +kernel)
set_option maxRecDepth 65536 in
theorem w_c29 : (Jvm.Cond.code ({ cls := "jdk/internal/util/Preconditions", name := "checkIndex", desc := "(IILjava/util/function/BiFunction;)I" } : Jvm.MethodName) jdk_41_method_11_code (3 : Nat) (Option.some Jvm.ClassFile.FieldType.int)).before args0 about1 = true := code_word (m := ⟨15, 1⟩) (meth := k15m1) (c := k15c1) (by decide +kernel) rfl rfl rfl (by decide +kernel)
set_option maxRecDepth 65536 in
theorem w_c30 : (Jvm.Cond.code ({ cls := "java/lang/Character", name := "isSurrogate", desc := "(C)Z" } : Jvm.MethodName) jdk_89_method_16_code (1 : Nat) (Option.some Jvm.ClassFile.FieldType.boolean)).before args0 about1 = true := code_word (m := ⟨16, 2⟩) (meth := k16m2) (c := k16c2) (by decide +kernel) rfl rfl rfl (by decide +kernel)
set_option maxRecDepth 65536 in
theorem w_c31 : (Jvm.Cond.code ({ cls := "java/lang/String", name := "codePointAt", desc := "(I)I" } : Jvm.MethodName) jdk_42_method_57_code (3 : Nat) (Option.some Jvm.ClassFile.FieldType.int)).before args0 about1 = true := code_word (m := ⟨7, 4⟩) (meth := k7m4) (c := k7c4) (by decide +kernel) rfl rfl rfl (by decide +kernel)
set_option maxRecDepth 65536 in
theorem w_c32 : (Jvm.Cond.code ({ cls := "java/lang/StringUTF16", name := "codePointAt", desc := "([BII)I" } : Jvm.MethodName) jdk_52_method_8_code (3 : Nat) (Option.some Jvm.ClassFile.FieldType.int)).before args0 about1 = true := code_word (m := ⟨14, 7⟩) (meth := k14m7) (c := k14c7) (by decide +kernel) rfl rfl rfl (by decide +kernel)
set_option maxRecDepth 65536 in
theorem w_c33 : (Jvm.Cond.code ({ cls := "java/lang/StringUTF16", name := "codePointAt", desc := "([BIIZ)I" } : Jvm.MethodName) jdk_52_method_7_code (6 : Nat) (Option.some Jvm.ClassFile.FieldType.int)).before args0 about1 = true := code_word (m := ⟨14, 6⟩) (meth := k14m6) (c := k14c6) (by decide +kernel) rfl rfl rfl (by decide +kernel)
set_option maxRecDepth 65536 in
theorem w_c34 : (Jvm.Cond.code ({ cls := "java/lang/Character", name := "isHighSurrogate", desc := "(C)Z" } : Jvm.MethodName) jdk_89_method_14_code (1 : Nat) (Option.some Jvm.ClassFile.FieldType.boolean)).before args0 about1 = true := code_word (m := ⟨16, 0⟩) (meth := k16m0) (c := k16c0) (by decide +kernel) rfl rfl rfl (by decide +kernel)
set_option maxRecDepth 65536 in
theorem w_c35 : (Jvm.Cond.code ({ cls := "java/lang/Character", name := "isLowSurrogate", desc := "(C)Z" } : Jvm.MethodName) jdk_89_method_15_code (1 : Nat) (Option.some Jvm.ClassFile.FieldType.boolean)).before args0 about1 = true := code_word (m := ⟨16, 1⟩) (meth := k16m1) (c := k16c1) (by decide +kernel) rfl rfl rfl (by decide +kernel)
set_option maxRecDepth 65536 in
theorem w_c36 : (Jvm.Cond.code ({ cls := "java/lang/Character", name := "toCodePoint", desc := "(CC)I" } : Jvm.MethodName) jdk_89_method_19_code (2 : Nat) (Option.some Jvm.ClassFile.FieldType.int)).before args0 about1 = true := code_word (m := ⟨16, 3⟩) (meth := k16m3) (c := k16c3) (by decide +kernel) rfl rfl rfl (by decide +kernel)
set_option maxRecDepth 65536 in
theorem w_c37 : (Jvm.Cond.code ({ cls := "java/lang/StringLatin1", name := "charAt", desc := "([BI)C" } : Jvm.MethodName) jdk_43_method_2_code (2 : Nat) (Option.some Jvm.ClassFile.FieldType.char)).before args0 about1 = true := code_word (m := ⟨17, 1⟩) (meth := k17m1) (c := k17c1) (by decide +kernel) rfl rfl rfl (by decide +kernel)
set_option maxRecDepth 65536 in
theorem w_c38 : (Jvm.Cond.code ({ cls := "java/lang/Character", name := "compare", desc := "(CC)I" } : Jvm.MethodName) jdk_89_method_98_code (2 : Nat) (Option.some Jvm.ClassFile.FieldType.int)).before args0 about1 = true := code_word (m := ⟨16, 4⟩) (meth := k16m4) (c := k16c4) (by decide +kernel) rfl rfl rfl (by decide +kernel)
def codes1 : List Jvm.Cond := [Jvm.Cond.code x code maxLocals ret, Jvm.Cond.code ({ cls := "com/example/co_occurrence_ranking/cooccurrenceranking/io/LineReaderCompareFieldsPinLaw", name := "cp", desc := "(I)I" } : Jvm.MethodName) method_3_code (2 : Nat) (Option.some Jvm.ClassFile.FieldType.int), Jvm.Cond.code ({ cls := "com/example/co_occurrence_ranking/cooccurrenceranking/io/LineReaderCompareFieldsPinLaw", name := "str", desc := "(III)Ljava/lang/String;" } : Jvm.MethodName) method_5_code (5 : Nat) (Option.some (Jvm.ClassFile.FieldType.object "java/lang/String")), Jvm.Cond.code ({ cls := "java/lang/String", name := "<init>", desc := "([C)V" } : Jvm.MethodName) jdk_42_method_3_code (2 : Nat) (Option.none : Option Jvm.ClassFile.FieldType), Jvm.Cond.code ({ cls := "java/lang/String", name := "<init>", desc := "([CIILjava/lang/Void;)V" } : Jvm.MethodName) jdk_42_method_149_code (6 : Nat) (Option.none : Option Jvm.ClassFile.FieldType), Jvm.Cond.code ({ cls := "java/lang/Object", name := "<init>", desc := "()V" } : Jvm.MethodName) object_method_1_code (1 : Nat) (Option.none : Option Jvm.ClassFile.FieldType), Jvm.Cond.code ({ cls := "com/example/co_occurrence_ranking/cooccurrenceranking/io/LineReaderCompareFieldsPinLaw", name := "ref", desc := "(IIIIII)I" } : Jvm.MethodName) method_8_code (6 : Nat) (Option.some Jvm.ClassFile.FieldType.int), Jvm.Cond.code ({ cls := "com/example/co_occurrence_ranking/cooccurrenceranking/io/LineReaderCompareFieldsPinLaw", name := "cmp", desc := "(II)I" } : Jvm.MethodName) method_6_code (2 : Nat) (Option.some Jvm.ClassFile.FieldType.int), Jvm.Cond.code ({ cls := "com/example/co_occurrence_ranking/cooccurrenceranking/io/LineReader", name := "compareFields", desc := "(Ljava/lang/String;Ljava/lang/String;)I" } : Jvm.MethodName) prog_13_method_6_code (7 : Nat) (Option.some Jvm.ClassFile.FieldType.int), Jvm.Cond.code ({ cls := "java/lang/String", name := "length", desc := "()I" } : Jvm.MethodName) jdk_42_method_54_code (1 : Nat) (Option.some Jvm.ClassFile.FieldType.int), Jvm.Cond.code ({ cls := "java/lang/String", name := "coder", desc := "()B" } : Jvm.MethodName) jdk_42_method_152_code (1 : Nat) (Option.some Jvm.ClassFile.FieldType.byte), Jvm.Cond.code ({ cls := "java/lang/Math", name := "min", desc := "(II)I" } : Jvm.MethodName) jdk_29_method_69_code (2 : Nat) (Option.some Jvm.ClassFile.FieldType.int), Jvm.Cond.code ({ cls := "java/lang/Integer", name := "compare", desc := "(II)I" } : Jvm.MethodName) jdk_33_method_40_code (2 : Nat) (Option.some Jvm.ClassFile.FieldType.int), Jvm.Cond.code ({ cls := "com/example/co_occurrence_ranking/cooccurrenceranking/io/LineReaderCompareFieldsPinLaw", name := "sgn", desc := "(I)I" } : Jvm.MethodName) method_7_code (1 : Nat) (Option.some Jvm.ClassFile.FieldType.int), Jvm.Cond.code ({ cls := "com/example/co_occurrence_ranking/cooccurrenceranking/io/LineReaderCompareFieldsPinLaw", name := "put", desc := "([CII)I" } : Jvm.MethodName) method_4_code (4 : Nat) (Option.some Jvm.ClassFile.FieldType.int), Jvm.Cond.code ({ cls := "java/lang/StringUTF16", name := "compress", desc := "([CII)[B" } : Jvm.MethodName) jdk_52_method_16_code (6 : Nat) (Option.some (Jvm.ClassFile.FieldType.array Jvm.ClassFile.FieldType.byte)), Jvm.Cond.code ({ cls := "java/lang/StringUTF16", name := "compress", desc := "([CI[BII)I" } : Jvm.MethodName) jdk_52_method_21_code (7 : Nat) (Option.some Jvm.ClassFile.FieldType.int), Jvm.Cond.code ({ cls := "java/lang/StringUTF16", name := "toBytes", desc := "([CII)[B" } : Jvm.MethodName) jdk_52_method_14_code (5 : Nat) (Option.some (Jvm.ClassFile.FieldType.array Jvm.ClassFile.FieldType.byte)), Jvm.Cond.code ({ cls := "java/lang/StringUTF16", name := "newBytesFor", desc := "(I)[B" } : Jvm.MethodName) jdk_52_method_2_code (1 : Nat) (Option.some (Jvm.ClassFile.FieldType.array Jvm.ClassFile.FieldType.byte)), Jvm.Cond.code ({ cls := "java/lang/StringUTF16", name := "newBytesLength", desc := "(I)I" } : Jvm.MethodName) jdk_52_method_3_code (1 : Nat) (Option.some Jvm.ClassFile.FieldType.int), Jvm.Cond.code ({ cls := "java/lang/StringUTF16", name := "putChar", desc := "([BII)V" } : Jvm.MethodName) jdk_52_method_4_code (3 : Nat) (Option.none : Option Jvm.ClassFile.FieldType), Jvm.Cond.code ({ cls := "java/lang/StringUTF16", name := "getChar", desc := "([BI)C" } : Jvm.MethodName) jdk_52_method_5_code (2 : Nat) (Option.some Jvm.ClassFile.FieldType.char), Jvm.Cond.code ({ cls := "java/lang/StringUTF16", name := "coderFromArrayLen", desc := "([BI)B" } : Jvm.MethodName) jdk_52_method_15_code (2 : Nat) (Option.some Jvm.ClassFile.FieldType.byte), Jvm.Cond.code ({ cls := "java/lang/String", name := "charAt", desc := "(I)C" } : Jvm.MethodName) jdk_42_method_56_code (2 : Nat) (Option.some Jvm.ClassFile.FieldType.char), Jvm.Cond.code ({ cls := "java/lang/String", name := "isLatin1", desc := "()Z" } : Jvm.MethodName) jdk_42_method_154_code (1 : Nat) (Option.some Jvm.ClassFile.FieldType.boolean), Jvm.Cond.code ({ cls := "java/lang/StringUTF16", name := "charAt", desc := "([BI)C" } : Jvm.MethodName) jdk_52_method_83_code (2 : Nat) (Option.some Jvm.ClassFile.FieldType.char), Jvm.Cond.code ({ cls := "java/lang/StringUTF16", name := "checkIndex", desc := "(I[B)V" } : Jvm.MethodName) jdk_52_method_91_code (2 : Nat) (Option.none : Option Jvm.ClassFile.FieldType), Jvm.Cond.code ({ cls := "java/lang/StringUTF16", name := "length", desc := "([B)I" } : Jvm.MethodName) jdk_52_method_6_code (1 : Nat) (Option.some Jvm.ClassFile.FieldType.int), Jvm.Cond.code ({ cls := "java/lang/String", name := "checkIndex", desc := "(II)V" } : Jvm.MethodName) jdk_42_method_155_code (2 : Nat) (Option.none : Option Jvm.ClassFile.FieldType), Jvm.Cond.code ({ cls := "jdk/internal/util/Preconditions", name := "checkIndex", desc := "(IILjava/util/function/BiFunction;)I" } : Jvm.MethodName) jdk_41_method_11_code (3 : Nat) (Option.some Jvm.ClassFile.FieldType.int), Jvm.Cond.code ({ cls := "java/lang/Character", name := "isSurrogate", desc := "(C)Z" } : Jvm.MethodName) jdk_89_method_16_code (1 : Nat) (Option.some Jvm.ClassFile.FieldType.boolean), Jvm.Cond.code ({ cls := "java/lang/String", name := "codePointAt", desc := "(I)I" } : Jvm.MethodName) jdk_42_method_57_code (3 : Nat) (Option.some Jvm.ClassFile.FieldType.int), Jvm.Cond.code ({ cls := "java/lang/StringUTF16", name := "codePointAt", desc := "([BII)I" } : Jvm.MethodName) jdk_52_method_8_code (3 : Nat) (Option.some Jvm.ClassFile.FieldType.int), Jvm.Cond.code ({ cls := "java/lang/StringUTF16", name := "codePointAt", desc := "([BIIZ)I" } : Jvm.MethodName) jdk_52_method_7_code (6 : Nat) (Option.some Jvm.ClassFile.FieldType.int), Jvm.Cond.code ({ cls := "java/lang/Character", name := "isHighSurrogate", desc := "(C)Z" } : Jvm.MethodName) jdk_89_method_14_code (1 : Nat) (Option.some Jvm.ClassFile.FieldType.boolean), Jvm.Cond.code ({ cls := "java/lang/Character", name := "isLowSurrogate", desc := "(C)Z" } : Jvm.MethodName) jdk_89_method_15_code (1 : Nat) (Option.some Jvm.ClassFile.FieldType.boolean), Jvm.Cond.code ({ cls := "java/lang/Character", name := "toCodePoint", desc := "(CC)I" } : Jvm.MethodName) jdk_89_method_19_code (2 : Nat) (Option.some Jvm.ClassFile.FieldType.int), Jvm.Cond.code ({ cls := "java/lang/StringLatin1", name := "charAt", desc := "([BI)C" } : Jvm.MethodName) jdk_43_method_2_code (2 : Nat) (Option.some Jvm.ClassFile.FieldType.char), Jvm.Cond.code ({ cls := "java/lang/Character", name := "compare", desc := "(CC)I" } : Jvm.MethodName) jdk_89_method_98_code (2 : Nat) (Option.some Jvm.ClassFile.FieldType.int)]
set_option maxRecDepth 65536 in
theorem codes_eq : words1.filter isCode = codes1 := rfl
theorem w_codes : ∀ c ∈ words1.filter isCode, c.before args0 about1 = true := by
  rw [codes_eq]
  intro c hc
  simp only [codes1, List.mem_cons, List.not_mem_nil, or_false] at hc
  rcases hc with rfl | rfl | rfl | rfl | rfl | rfl | rfl | rfl | rfl | rfl | rfl | rfl | rfl | rfl | rfl | rfl | rfl | rfl | rfl | rfl | rfl | rfl | rfl | rfl | rfl | rfl | rfl | rfl | rfl | rfl | rfl | rfl | rfl | rfl | rfl | rfl | rfl | rfl | rfl
  · exact w_c0
  · exact w_c1
  · exact w_c2
  · exact w_c3
  · exact w_c4
  · exact w_c5
  · exact w_c6
  · exact w_c7
  · exact w_c8
  · exact w_c9
  · exact w_c10
  · exact w_c11
  · exact w_c12
  · exact w_c13
  · exact w_c14
  · exact w_c15
  · exact w_c16
  · exact w_c17
  · exact w_c18
  · exact w_c19
  · exact w_c20
  · exact w_c21
  · exact w_c22
  · exact w_c23
  · exact w_c24
  · exact w_c25
  · exact w_c26
  · exact w_c27
  · exact w_c28
  · exact w_c29
  · exact w_c30
  · exact w_c31
  · exact w_c32
  · exact w_c33
  · exact w_c34
  · exact w_c35
  · exact w_c36
  · exact w_c37
  · exact w_c38
set_option maxRecDepth 65536 in
theorem w_t1 : (words1.take 24).all (fun c => isCode c || c.before args0 about1) = true := by decide +kernel
set_option maxRecDepth 65536 in
theorem w_t2 : ((words1.drop 24).take 24).all (fun c => isCode c || c.before args0 about1) = true := by decide +kernel
set_option maxRecDepth 65536 in
theorem w_t3 : (((words1.drop 24).drop 24).take 24).all (fun c => isCode c || c.before args0 about1) = true := by decide +kernel
set_option maxRecDepth 65536 in
theorem w_t4 : ((((words1.drop 24).drop 24).drop 24).take 24).all (fun c => isCode c || c.before args0 about1) = true := by decide +kernel
set_option maxRecDepth 65536 in
theorem w_t5 : (((((words1.drop 24).drop 24).drop 24).drop 24).take 24).all (fun c => isCode c || c.before args0 about1) = true := by decide +kernel
set_option maxRecDepth 65536 in
theorem w_t6 : ((((((words1.drop 24).drop 24).drop 24).drop 24).drop 24).take 24).all (fun c => isCode c || c.before args0 about1) = true := by decide +kernel
set_option maxRecDepth 65536 in
theorem w_t7 : ((((((words1.drop 24).drop 24).drop 24).drop 24).drop 24).drop 24).all (fun c => isCode c || c.before args0 about1) = true := by decide +kernel
theorem w_tables : (allAtoms (Jvm.Cond.code x code maxLocals ret :: tables_1)).before args0 about1 = true := by
  rw [allAtoms_all]
  show words1.all (fun c => c.before args0 about1) = true
  refine all_split ?_ w_codes
  rw [← List.take_append_drop 24 words1, List.all_append, w_t1, ← List.take_append_drop 24 (words1.drop 24), List.all_append, w_t2, ← List.take_append_drop 24 ((words1.drop 24).drop 24), List.all_append, w_t3, ← List.take_append_drop 24 (((words1.drop 24).drop 24).drop 24), List.all_append, w_t4, ← List.take_append_drop 24 ((((words1.drop 24).drop 24).drop 24).drop 24), List.all_append, w_t5, ← List.take_append_drop 24 (((((words1.drop 24).drop 24).drop 24).drop 24).drop 24), List.all_append, w_t6, w_t7]
  rfl
set_option maxRecDepth 65536 in
theorem w_rest : rest_1_c.before args0 about1 = true := by decide +kernel
set_option maxRecDepth 65536 in
theorem w_case : (Jvm.Cond.and given_1 narrow_1).before args0 about1 = true := by decide +kernel
set_option maxRecDepth 65536 in
theorem w_consts : constsHeld consts_1 about1 := Jvm.Lit.constsHeldB_iff.mp (by decide +kernel)
theorem w_applies : (headSpec (Jvm.Cond.code x code maxLocals ret :: tables_1) room_1).applies x e0.platform about1 = true :=
  (Spec.applies_iff w_frames).mpr ⟨w_running, w_runnable, w_alone, w_named, w_hears, w_ripe, w_room, w_tables⟩
theorem atStart : AtStart classFile x code maxLocals ret World_1 tables_1 room_1 Calls_1 rest_1 Pre_1 launch0 p0 e0 about1 theMethod args0 below0 :=
  ⟨lists_1, trivial, launch0.admits_env _ _ _, launch0.least_env, fairChoices_fair.cas, fairChoices_fair.clock, w_frames, w_args, w_heap, w_applies, ⟨w_consts, trivial⟩, w_rest, w_case⟩
end start1
theorem witness_1 : WitnessClaimed_1 := ⟨start1.p0, start1.e0, start1.about1, start1.theMethod, start1.args0, start1.below0, start1.atStart⟩
end Jvm.Pilot.@@N@@
