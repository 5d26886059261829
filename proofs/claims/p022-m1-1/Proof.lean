import JvmDerived
import JvmDerived.Pilot.@@N@@Statement
import JvmDerived.Pilot.@@N@@Code
set_option linter.unusedVariables false
set_option linter.unusedSimpArgs false
/- laws to paste: pair_says, chr8_lo8, shr1 (cut by pick.py; bodies as the Statement names them) -/
namespace Jvm.Pilot.@@N@@
namespace StrChars
open Jvm Sem ClassFile Op Lib Jvm.Stand Jvm.Free.XT Jvm.Free.ALB Jvm.Free.JM Jvm.Free
open Jvm.Lib.Cold (StaticIs)
/-- the byte that i2b leaves of a char -/
def lo8 (x : Int32) : Int32 := x.toInt8.toInt32
/-- the byte, read back as charAt reads it, is the char -/
theorem lo8_mask {x : Int32} (h0 : ¬ x < 0) (h1 : ¬ 255 < x) : lo8 x &&& 255 = x := by
  have t : ∀ k : Fin 256, lo8 (Int32.ofNat k.val) &&& 255 = Int32.ofNat k.val := by decide +kernel
  rw [Int32.lt_iff_toInt_lt] at h0 h1
  have e0 : (0 : Int32).toInt = 0 := rfl
  have e1 : (255 : Int32).toInt = 255 := rfl
  obtain ⟨k, hk⟩ : ∃ k : Nat, x.toInt = k := ⟨x.toInt.toNat, by omega⟩
  have hx : x = Int32.ofNat k := Int32.toInt_inj.mp (by rw [hk, Int32.toInt_ofNat_small (by omega)])
  rw [hx]
  exact t ⟨k, by omega⟩
end StrChars
namespace StrChars
open Jvm Sem ClassFile Op Lib Jvm.Stand Jvm.Free.XT Jvm.Free.ALB Jvm.Free.JM Jvm.Free
open Jvm.Lib.Cold (StaticIs)
def hi8 (x : Int32) : Int32 := lo8 (x >>> ((8 : Int32) &&& 31))
/-- what StringUTF16.getChar makes of two bytes -/
def pairCh (u v : Int32) : Int32 := (((u &&& 255) <<< ((0 : Int32) &&& 31)) ||| ((v &&& 255) <<< ((8 : Int32) &&& 31))).toUInt32.toUInt16.toUInt32.toInt32
theorem lo8_and (x : Int32) : (lo8 x &&& 255).toBitVec.toNat = x.toBitVec.toNat % 256 := by
  have h : (lo8 x).toBitVec = (x.toBitVec.signExtend 8).signExtend 32 := by rw [lo8, Int8.toBitVec_toInt32, Int32.toBitVec_toInt8]
  rw [Int32.toBitVec_and, BitVec.toNat_and, h]
  have e : ((x.toBitVec.signExtend 8).signExtend 32).toNat % 256 = x.toBitVec.toNat % 256 := by
    rw [BitVec.toNat_signExtend]
    have hlt := x.toBitVec.isLt
    simp only [BitVec.toNat_setWidth, BitVec.toNat_signExtend]
    split <;> split <;> omega
  rw [← e]
  exact Nat.and_two_pow_sub_one_eq_mod _ 8
theorem pair_says {c : Int32} (h0 : ¬ c < 0) (h1 : ¬ 65535 < c) : pairCh (lo8 c) (hi8 c) = c := by
  rw [Int32.lt_iff_toInt_lt] at h0 h1
  have e0 : (0 : Int32).toInt = 0 := rfl
  have e1 : (65535 : Int32).toInt = 65535 := rfl
  have hc : c.toInt = c.toBitVec.toNat := by
    have := c.toBitVec.isLt
    have e : c.toInt = c.toBitVec.toInt := rfl
    rw [e] at h0 h1
    rw [e]
    rw [BitVec.toInt_eq_toNat_cond] at h0 h1 ⊢
    split at h0 <;> split <;> omega
  have hn : c.toBitVec.toNat < 65536 := by omega
  have a1 := lo8_and c
  have a2 : (hi8 c &&& 255).toBitVec.toNat = c.toBitVec.toNat / 256 := by
    rw [hi8, lo8_and]
    have e : ((8 : Int32) &&& 31) = 8 := by decide
    rw [e, Int32.toBitVec_shiftRight]
    have e2 : ((8 : Int32).toBitVec.smod 32) = 8#32 := by decide
    rw [e2, BitVec.sshiftRight_eq', BitVec.toNat_sshiftRight_of_msb_false (by rw [BitVec.msb_eq_false_iff_two_mul_lt]; omega)]
    show c.toBitVec.toNat >>> 8 % 256 = _
    rw [Nat.shiftRight_eq_div_pow]
    omega
  unfold pairCh
  apply Int32.toBitVec_inj.mp
  apply BitVec.eq_of_toNat_eq
  have f0 : ((0 : Int32) &&& 31) = 0 := by decide
  have f8 : ((8 : Int32) &&& 31) = 8 := by decide
  rw [f0, f8]
  have g : (((lo8 c &&& 255) <<< (0 : Int32)) ||| ((hi8 c &&& 255) <<< (8 : Int32))).toBitVec.toNat = c.toBitVec.toNat := by
    rw [Int32.toBitVec_or, Int32.toBitVec_shiftLeft, Int32.toBitVec_shiftLeft]
    have s0 : ((0 : Int32).toBitVec.smod 32) = 0#32 := by decide
    have s8 : ((8 : Int32).toBitVec.smod 32) = 8#32 := by decide
    rw [s0, s8, BitVec.toNat_or]
    simp only [BitVec.shiftLeft_eq', BitVec.toNat_shiftLeft, a1, a2]
    show (c.toBitVec.toNat % 256) <<< 0 % 2 ^ 32 ||| (c.toBitVec.toNat / 256) <<< 8 % 2 ^ 32 = _
    rw [Nat.shiftLeft_zero, Nat.mod_eq_of_lt (show c.toBitVec.toNat % 256 < 2 ^ 32 by omega), Nat.mod_eq_of_lt (show (c.toBitVec.toNat / 256) <<< 8 < 2 ^ 32 by rw [Nat.shiftLeft_eq]; omega), Nat.or_comm, ← Nat.shiftLeft_add_eq_or_of_lt (by omega), Nat.shiftLeft_eq]
    omega
  show BitVec.toNat (((((lo8 c &&& 255) <<< (0 : Int32)) ||| ((hi8 c &&& 255) <<< (8 : Int32))).toBitVec.setWidth 16).setWidth 32) = _
  rw [BitVec.toNat_setWidth, BitVec.toNat_setWidth, g]
  omega
end StrChars
namespace StrChars
open Jvm Sem ClassFile Op Lib Jvm.Stand Jvm.Free.XT Jvm.Free.ALB Jvm.Free.JM Jvm.Free
open Jvm.Lib.Cold (StaticIs)
theorem shr1 {n : Nat} (h : 2 * n < 2 ^ 31) : Int32.ofNat (2 * n) >>> ((1 : Int32) &&& 31) = Int32.ofNat n := by
  have e : ((1 : Int32) &&& 31) = 1 := by decide
  rw [e]
  apply Int32.toBitVec_inj.mp
  rw [Int32.toBitVec_shiftRight]
  have e1 : ((1 : Int32).toBitVec.smod 32) = 1#32 := by decide
  have hm : (BitVec.ofNat 32 (2 * n)).toNat = 2 * n := by rw [BitVec.toNat_ofNat, Nat.mod_eq_of_lt (by omega)]
  rw [e1, BitVec.sshiftRight_eq']
  apply BitVec.eq_of_toNat_eq
  show ((BitVec.ofNat 32 (2 * n)).sshiftRight 1).toNat = (BitVec.ofNat 32 n).toNat
  rw [BitVec.toNat_sshiftRight_of_msb_false (by rw [BitVec.msb_eq_false_iff_two_mul_lt, hm]; omega), hm, BitVec.toNat_ofNat, Nat.shiftRight_eq_div_pow]
  omega
/-- charAt's cast of a byte read back -/
def chr8 (u : Int32) : Int32 := (u &&& 255).toUInt32.toUInt16.toUInt32.toInt32
theorem chr8_lo8 {c : Int32} (h0 : ¬ c < 0) (h1 : ¬ 255 < c) : chr8 (lo8 c) = c := by
  have t : ∀ k : Fin 256, (Int32.ofNat k.val).toUInt32.toUInt16.toUInt32.toInt32 = Int32.ofNat k.val := by decide +kernel
  unfold chr8
  rw [lo8_mask h0 h1]
  rw [Int32.lt_iff_toInt_lt] at h0 h1
  have e0 : (0 : Int32).toInt = 0 := rfl
  have e1 : (255 : Int32).toInt = 255 := rfl
  obtain ⟨k, hk⟩ : ∃ k : Nat, c.toInt = k := ⟨c.toInt.toNat, by omega⟩
  have hx : c = Int32.ofNat k := Int32.toInt_inj.mp (by rw [hk, Int32.toInt_ofNat_small (by omega)])
  rw [hx]
  exact t ⟨k, by omega⟩
end StrChars
end Jvm.Pilot.@@N@@
namespace Jvm.Pilot.@@N@@
open Jvm Jvm.ClassFile Sem Op Lib Jvm.Free Jvm.Stand Jvm.LawKit Jvm.RoadKit Bundle Jvm.Pilot.@@N@@.Jvm.D

section OwnKit
variable {p : Program} {l : Launch} {e : Env} {R : Room} {s : State} {m : MethodId} {args : Array Value} {below : List Frame} {meth : Method} {c : Code} {T : State} {locs : List Loc} {cells slots : Nat} {Q : Option Value → Heap → List Loc → Prop} {kc kn : Nat} {h : Heap}
/-- from T, with the frame g on top, the body comes to its end, and the end is as Q says -/
def own_Fin (p : Program) (e : Env) (s : State) (below : List Frame) (Q : Option Value → Heap → List Loc → Prop) (kc kn : Nat) (T : State) (g : JFrame) : Prop :=
  ∃ s₂ o, Steps p.tables e below (T.setTop g) s₂ ∧ s₂.status = .running ∧ Ended s₂ below o ∧ ∃ v L, o = .returned v ∧ Q v s₂.heap L ∧ FrameEnd s o s₂ L kc kn
theorem own_w {Z : State} {a0 : Array Value} (hw : ∀ d ∈ tables_1, d.before a0 Z = true) (i : Nat) {d : Jvm.Cond} (h : tables_1[i]? = some d) : d.before a0 Z = true := hw d (List.mem_of_getElem? h)
theorem own_eq {T : State} {h : Heap} {x : Addr} {c : Cell} (e : T.heap = h) (q : h[x]? = some c) : T.heap[x]? = some c := by rw [e]; exact q
theorem own_via {T' : State} {g g' : JFrame} (k : ∀ t, Steps p.tables e below (T'.setTop g') t → Steps p.tables e below (T.setTop g) t) (hf : own_Fin p e s below Q kc kn T' g') : own_Fin p e s below Q kc kn T g := by
  obtain ⟨s2, o, h1, r⟩ := hf
  exact ⟨s2, o, k _ h1, r⟩
theorem own_ret0 (X : Stand p l e R s m args below meth c T locs cells slots) (hx : p.tables.exec = Jvm.exec) (hret : meth.sig.returnType = none) (hlk : meth.locks = false) {pc : Nat} {Ls : Array Slot} (hd : decode c.code pc = .ok (.return_, 1)) (eT : T.heap = h) (hq : Q none h locs) (hc : cells ≤ kc) (hs : slots ≤ kn) : own_Fin p e s below Q kc kn T (mkF m pc Ls []) := by
  obtain ⟨fs, hr, hrun, hended, hW, hsame⟩ := X.leave (v := none) (fun _ => rfl) hlk
  exact ⟨_, _, X.returnOut hx hret hd hr, hrun, hended, none, locs, rfl, by subst eT; exact hq, ⟨_, rfl⟩, hW, hsame.mono hc hs⟩
theorem own_retN (X : Stand p l e R s m args below meth c T locs cells slots) (hx : p.tables.exec = Jvm.exec) {t : FieldType} (hret : meth.sig.returnType = some t) (hlk : meth.locks = false) (ht : t = .boolean ∨ t = .byte ∨ t = .char ∨ t = .short) {pc : Nat} {Ls : Array Slot} {z r : Int32} {rest : List Value} (hd : decode c.code pc = .ok (.ireturn, 1)) (eT : T.heap = h) (hv : nar t z = r) (hq : Q (some (.int r)) h locs) (hc : cells ≤ kc) (hs : slots ≤ kn) : own_Fin p e s below Q kc kn T (mkF m pc Ls (.int z :: rest)) := by
  obtain ⟨fs, hr, hrun, hended, hW, hsame⟩ := X.leave (v := some (.int (nar t z))) (fun h => by rw [hret] at h; cases h) hlk
  exact ⟨_, _, retN X hx hret ht hd hr, hrun, hended, _, locs, rfl, by subst eT; rw [hv]; exact hq, ⟨_, rfl⟩, hW, hsame.mono hc hs⟩
theorem own_retI (X : Stand p l e R s m args below meth c T locs cells slots) (hx : p.tables.exec = Jvm.exec) (hret : meth.sig.returnType = some .int) (hlk : meth.locks = false) {pc : Nat} {Ls : Array Slot} {z r : Int32} {rest : List Value} (hd : decode c.code pc = .ok (.ireturn, 1)) (eT : T.heap = h) (hv : z = r) (hq : Q (some (.int r)) h locs) (hc : cells ≤ kc) (hs : slots ≤ kn) : own_Fin p e s below Q kc kn T (mkF m pc Ls (.int z :: rest)) := by
  subst hv
  obtain ⟨fs, hr, hrun, hended, hW, hsame⟩ := X.leave (v := some (.int z)) (fun h => by rw [hret] at h; cases h) hlk
  exact ⟨_, _, retOut X hx hret rfl (Or.inl ⟨rfl, Or.inl rfl, z, rfl⟩) hd hr, hrun, hended, _, locs, rfl, by subst eT; exact hq, ⟨_, rfl⟩, hW, hsame.mono hc hs⟩
theorem own_retJ (X : Stand p l e R s m args below meth c T locs cells slots) (hx : p.tables.exec = Jvm.exec) (hret : meth.sig.returnType = some .long) (hlk : meth.locks = false) {pc : Nat} {Ls : Array Slot} {z r : Int64} {rest : List Value} (hd : decode c.code pc = .ok (.lreturn, 1)) (eT : T.heap = h) (hv : z = r) (hq : Q (some (.long r)) h locs) (hc : cells ≤ kc) (hs : slots ≤ kn) : own_Fin p e s below Q kc kn T (mkF m pc Ls (.long z :: rest)) := by
  subst hv
  obtain ⟨fs, hr, hrun, hended, hW, hsame⟩ := X.leave (v := some (.long z)) (fun h => by rw [hret] at h; cases h) hlk
  exact ⟨_, _, retOut X hx hret rfl (Or.inr (Or.inl ⟨rfl, rfl, z, rfl⟩)) hd hr, hrun, hended, _, locs, rfl, by subst eT; exact hq, ⟨_, rfl⟩, hW, hsame.mono hc hs⟩
theorem own_retD (X : Stand p l e R s m args below meth c T locs cells slots) (hx : p.tables.exec = Jvm.exec) (hret : meth.sig.returnType = some .double) (hlk : meth.locks = false) {pc : Nat} {Ls : Array Slot} {z r : UInt64} {rest : List Value} (hd : decode c.code pc = .ok (.dreturn, 1)) (eT : T.heap = h) (hv : z = r) (hq : Q (some (.double r)) h locs) (hc : cells ≤ kc) (hs : slots ≤ kn) : own_Fin p e s below Q kc kn T (mkF m pc Ls (.double z :: rest)) := by
  subst hv
  obtain ⟨fs, hr, hrun, hended, hW, hsame⟩ := X.leave (v := some (.double z)) (fun h => by rw [hret] at h; cases h) hlk
  exact ⟨_, _, retOut X hx hret rfl (Or.inr (Or.inr (Or.inl ⟨rfl, rfl, z, rfl⟩))) hd hr, hrun, hended, _, locs, rfl, by subst eT; exact hq, ⟨_, rfl⟩, hW, hsame.mono hc hs⟩
theorem own_retA (X : Stand p l e R s m args below meth c T locs cells slots) (hx : p.tables.exec = Jvm.exec) {t : FieldType} (hret : meth.sig.returnType = some t) (hlk : meth.locks = false) (ht : t.isReference = true) {pc : Nat} {Ls : Array Slot} {w : Value} {rest : List Value} (hw : w.isRef = true) (hd : decode c.code pc = .ok (.areturn, 1)) (eT : T.heap = h) (hq : Q (some w) h locs) (hc : cells ≤ kc) (hs : slots ≤ kn) : own_Fin p e s below Q kc kn T (mkF m pc Ls (w :: rest)) := by
  obtain ⟨fs, hr, hrun, hended, hW, hsame⟩ := X.leave (v := some w) (fun h => by rw [hret] at h; cases h) hlk
  have hn : narrow t w = w := by
    cases t <;> first | (cases ht; done) | rfl
  exact ⟨_, _, retOut X hx hret hn (Or.inr (Or.inr (Or.inr (Or.inr ⟨rfl, ht, hw⟩)))) hd hr, hrun, hended, _, locs, rfl, by subst eT; exact hq, ⟨_, rfl⟩, hW, hsame.mono hc hs⟩
theorem own_cloneV {Z : State} {a0 : Array Value} {a : Addr} {ty : FieldType} (X : Stand p l e R s m args below meth c T locs cells slots) (hx : p.tables.exec = Jvm.exec) (hZ : Z.Warmed39 s.vm) {own ad : String} {index : Nat} (hown : s.vm.findClass own = some m.cls)
    (w1 : (Cond.methodLink own index ⟨ad, "clone", "()Ljava/lang/Object;"⟩).before a0 Z = true) (w2 : (Cond.sameMethod ad "java/lang/Object" "clone" "()Ljava/lang/Object;").before a0 Z = true) (w3 : (Cond.native ⟨"java/lang/Object", "clone", "()Ljava/lang/Object;"⟩).before a0 Z = true)
    (w4 : (Cond.instanceMethod ⟨"java/lang/Object", "clone", "()Ljava/lang/Object;"⟩).before a0 Z = true) (w5 : (Cond.selects ad ⟨ad, "clone", "()Ljava/lang/Object;"⟩ ⟨"java/lang/Object", "clone", "()Ljava/lang/Object;"⟩).before a0 Z = true) (w6 : (Cond.castable ad "java/lang/Cloneable").before a0 Z = true)
    (eT : T.heap = h) {k : ClassId} {z : Int32} {vs : List Value} {dv : Value} (F : Arv Z h a k ty z vs dv) (E : Exa Z h a ad) {g : JFrame} (hg : g.method = m) (hsize : g.locals.size = c.maxLocals) {rest : List Value} (hst : g.stack = .ref a :: rest) (hd : decode c.code g.pc = .ok (.invokevirtual index, 3))
    (hf : 1 ≤ R.frames) {W cap : Nat} (hW : 2 * g.monitorRoom + (rest.map fun v => v.category).sum ≤ W) (hl : W + 14 ≤ R.locals) (hcap : z.toNatClampNeg ≤ cap) (hc : cells + 1 ≤ R.cells) (hsl : slots + cap ≤ R.slots) :
    ∃ T' h', Stand p l e R s m args below meth c T' locs (cells + 1) (slots + cap) ∧ T'.heap = h' ∧ Ext h h' ∧ Arv Z h' h.size k ty z vs dv ∧ Exa Z h' h.size ad ∧
      ∀ target, Steps p.tables e below (T'.setTop { g with pc := g.pc + 3, stack := .ref h.size :: rest }) target → Steps p.tables e below (T.setTop g) target := by
  obtain ⟨cl, A, r1, r2, r3, r4, r5⟩ := F
  have fc : FitC Z cl := fitC_of A fun i hi v hv => by
    have q := r4 i hi
    rw [q] at hv
    cases hv
    exact r5 i hi
  obtain ⟨T1, h1, X1, e1, x1, A1, E1, st1⟩ := cloneA X hx hZ hown w1 w2 w3 w4 w5 w6 eT A E fc hg hsize hst hd hf hW hl (by rw [r2]; exact hcap) hc hsl
  exact ⟨T1, h1, X1, e1, x1, ⟨_, A1, r1, r2, r3, r4, r5⟩, E1, st1⟩
theorem own_selfsel {s : State} {args : Array Value} {C : String} {y : MethodName} (hs : (Cond.selects C y y).before args s = true) (hi : (Cond.instanceMethod y).before args s = true) (hp : s.PrivateAt y) (hy : y.cls ≠ "java/lang/invoke/MethodHandle" ∧ y.cls ≠ "java/lang/invoke/VarHandle") : (Cond.selects y.cls y y).before args s = true := by
  obtain ⟨c2, r2, m2, -, -, q3, -, kP, hkP, hkPi⟩ := Cond.selects_spec hs
  exact Jvm.Stand.selects_self_of_private (findClass_of_methodNamed q3) hkP hkPi hp hi hy
theorem own_notFace {s : State} {args : Array Value} {C : String} {x y z : MethodName} (hs : (Cond.selects C x z).before args s = true) (hz : z.cls = y.cls) : NotFace s y := fun r0 h0 => by
  obtain ⟨c2, r2, m2, -, -, q3, -, kP, hkP, hkPi⟩ := Cond.selects_spec hs
  have h1 := findClass_of_methodNamed h0
  have h2 := findClass_of_methodNamed q3
  rw [hz] at h2
  have e : m2.cls = r0.cls := Option.some.inj (h2.symm.trans h1)
  rw [e] at hkP
  exact ⟨kP, hkP, hkPi⟩
theorem own_same {Z : State} {a0 : Array Value} {C : String} {x y z : MethodName} (hi : (Cond.instanceMethod y).before a0 Z = true) (hs : (Cond.selects C x z).before a0 Z = true) (hz : z.cls = y.cls) (hy : y.cls ≠ "java/lang/invoke/MethodHandle" ∧ y.cls ≠ "java/lang/invoke/VarHandle") : (Cond.sameMethod y.cls y.cls y.name y.desc).before a0 Z = true := by
  obtain ⟨mk, methM, hnamed, -, -, -⟩ := Cond.instanceMethod_spec hi
  obtain ⟨c2, r2, m2, -, -, q3, -, kP, hkP, hkPi⟩ := Cond.selects_spec hs
  have h1 := findClass_of_methodNamed hnamed
  have h2 := findClass_of_methodNamed q3
  rw [hz] at h2
  have e : m2.cls = mk.cls := Option.some.inj (h2.symm.trans h1)
  have hfound := State.methodFound?_of_named hnamed hy
  have hn' : Z.methodNamed? ⟨y.cls, y.name, y.desc⟩ = some mk := hnamed
  rw [e] at hkP
  simp only [Cond.before, Cond.holds, Cond.value, h1, hfound, hn']
  simp [hkP, hkPi]
end OwnKit

section OwnKitH
variable {p : Program} {l : Launch} {e : Env} {R : Room} {s : State} {m : MethodId} {args : Array Value} {below : List Frame} {meth : Method} {c : Code} {T : State} {locs : List Loc} {cells slots : Nat} {Q : Option Value → Heap → List Loc → Prop} {kc kn : Nat} {h h0 : Heap} {Z : State} {a0 : Array Value} {EL : List (String × Nat)} {vm : Vm} {k0 : Nat}
/-- own_Fin of a body that may load String constants -/
def own_FinH (p : Program) (e : Env) (s : State) (below : List Frame) (Z : State) (EL : List (String × Nat)) (Q : Option Value → Heap → List Loc → Prop) (kc kn : Nat) (T : State) (g : JFrame) : Prop :=
  ∃ s₂ o, Steps p.tables e below (T.setTop g) s₂ ∧ s₂.status = .running ∧ Ended s₂ below o ∧ ∃ v L, o = .returned v ∧ Q v s₂.heap L ∧ CHr Z EL s.vm s.heap s₂.vm s₂.heap ∧ ReturnedEndW s o s₂ L kc kn
theorem own_viaH {T' : State} {g g' : JFrame} (k : ∀ t, Steps p.tables e below (T'.setTop g') t → Steps p.tables e below (T.setTop g) t) (hf : own_FinH p e s below Z EL Q kc kn T' g') : own_FinH p e s below Z EL Q kc kn T g := by
  obtain ⟨s2, o, h1, r⟩ := hf
  exact ⟨s2, o, k _ h1, r⟩
theorem own_endH (X : Stand p l e R (s.setVm vm) m args below meth c T locs cells slots) (hlk : meth.locks = false) (hEL : EW Z a0 EL) (hZ : Z.Warmed39 vm) (hS : s.Since vm k0) (hk : k0 ≤ h.size) (hh : s.heap = h0) (C : CHr Z EL s.vm h0 vm h) (eT : T.heap = h) {v : Option Value} (hv : meth.sig.returnType = none → v = none) {g : JFrame}
    (st : ∀ fs : List Frame, (∀ (f : JFrame) (acts : List Action), f.method = m → f.locked = none → f.entered = [] → (doReturn e (T.setTop f) acts v).1 = T.setFrames fs) → Steps p.tables e below (T.setTop g) (T.setFrames fs)) (hq : Q v h locs) (hc : cells ≤ kc) (hs : slots ≤ kn) : own_FinH p e s below Z EL Q kc kn T g := by
  obtain ⟨fs, hr, hrun, hended, w1, w2, w3, w4⟩ := X.leaveW hS (by rw [eT]; exact hk) hv hlk
  subst eT hh
  have K : CHr Z EL vm T.heap T.vm T.heap := CHv.at X hZ hEL C.1
  exact ⟨_, _, st fs hr, hrun, hended, v, locs, rfl, hq, C.trans K, w1, w2, w3, w4.mono hc hs⟩
theorem own_ret0H (X : Stand p l e R (s.setVm vm) m args below meth c T locs cells slots) (hx : p.tables.exec = Jvm.exec) (hret : meth.sig.returnType = none) (hlk : meth.locks = false) (hEL : EW Z a0 EL) (hZ : Z.Warmed39 vm) (hS : s.Since vm k0) (hk : k0 ≤ h.size) (hh : s.heap = h0) (C : CHr Z EL s.vm h0 vm h) {pc : Nat} {Ls : Array Slot} (hd : decode c.code pc = .ok (.return_, 1)) (eT : T.heap = h) (hq : Q none h locs) (hc : cells ≤ kc) (hs : slots ≤ kn) : own_FinH p e s below Z EL Q kc kn T (mkF m pc Ls []) :=
  own_endH X hlk hEL hZ hS hk hh C eT (fun _ => rfl) (fun fs hr => X.returnOut hx hret hd hr) hq hc hs
theorem own_retNH (X : Stand p l e R (s.setVm vm) m args below meth c T locs cells slots) (hx : p.tables.exec = Jvm.exec) {t : FieldType} (hret : meth.sig.returnType = some t) (hlk : meth.locks = false) (hEL : EW Z a0 EL) (hZ : Z.Warmed39 vm) (hS : s.Since vm k0) (hk : k0 ≤ h.size) (hh : s.heap = h0) (C : CHr Z EL s.vm h0 vm h) (ht : t = .boolean ∨ t = .byte ∨ t = .char ∨ t = .short) {pc : Nat} {Ls : Array Slot} {z r : Int32} {rest : List Value} (hd : decode c.code pc = .ok (.ireturn, 1)) (eT : T.heap = h) (hv : nar t z = r) (hq : Q (some (.int r)) h locs) (hc : cells ≤ kc) (hs : slots ≤ kn) : own_FinH p e s below Z EL Q kc kn T (mkF m pc Ls (.int z :: rest)) := by
  subst hv
  exact own_endH X hlk hEL hZ hS hk hh C eT (fun q => by rw [hret] at q; cases q) (fun fs hr => retN X hx hret ht hd hr) hq hc hs
theorem own_retIH (X : Stand p l e R (s.setVm vm) m args below meth c T locs cells slots) (hx : p.tables.exec = Jvm.exec) (hret : meth.sig.returnType = some .int) (hlk : meth.locks = false) (hEL : EW Z a0 EL) (hZ : Z.Warmed39 vm) (hS : s.Since vm k0) (hk : k0 ≤ h.size) (hh : s.heap = h0) (C : CHr Z EL s.vm h0 vm h) {pc : Nat} {Ls : Array Slot} {z r : Int32} {rest : List Value} (hd : decode c.code pc = .ok (.ireturn, 1)) (eT : T.heap = h) (hv : z = r) (hq : Q (some (.int r)) h locs) (hc : cells ≤ kc) (hs : slots ≤ kn) : own_FinH p e s below Z EL Q kc kn T (mkF m pc Ls (.int z :: rest)) := by
  subst hv
  exact own_endH X hlk hEL hZ hS hk hh C eT (fun q => by rw [hret] at q; cases q) (fun fs hr => retOut X hx hret rfl (Or.inl ⟨rfl, Or.inl rfl, z, rfl⟩) hd hr) hq hc hs
theorem own_retAH (X : Stand p l e R (s.setVm vm) m args below meth c T locs cells slots) (hx : p.tables.exec = Jvm.exec) {t : FieldType} (hret : meth.sig.returnType = some t) (hlk : meth.locks = false) (hEL : EW Z a0 EL) (hZ : Z.Warmed39 vm) (hS : s.Since vm k0) (hk : k0 ≤ h.size) (hh : s.heap = h0) (C : CHr Z EL s.vm h0 vm h) (ht : t.isReference = true) {pc : Nat} {Ls : Array Slot} {w : Value} {rest : List Value} (hw : w.isRef = true) (hd : decode c.code pc = .ok (.areturn, 1)) (eT : T.heap = h) (hq : Q (some w) h locs) (hc : cells ≤ kc) (hs : slots ≤ kn) : own_FinH p e s below Z EL Q kc kn T (mkF m pc Ls (w :: rest)) := by
  have hn : narrow t w = w := by
    cases t <;> first | (cases ht; done) | rfl
  exact own_endH X hlk hEL hZ hS hk hh C eT (fun q => by rw [hret] at q; cases q) (fun fs hr => retOut X hx hret hn (Or.inr (Or.inr (Or.inr (Or.inr ⟨rfl, ht, hw⟩)))) hd hr) hq hc hs
/-- a String whose value is still null is no booked one -/
theorem own_safe_null {x : Addr} (hal : Z.vm.Alike vm) (E : Exa Z h x "java/lang/String") (F : Fld Z h x "java/lang/String" "value" "[B" .null) : Safe Z EL vm h x := fun B => by
  obtain ⟨p1, -, u, a, -, q, -, G, rfl | rfl⟩ := B
  · obtain ⟨cell, cf, k, i, f, h1, h2, h3, -, -, -, h7⟩ := F
    obtain ⟨cS, ⟨⟨s1, s2, s3, ⟨c', k', i', s4, s4'⟩, s5, s6, s7, s8, -⟩, -, -⟩, -⟩ := G
    cases (show h[q.sa]? = some q.sC from s1).symm.trans h1
    obtain ⟨k2, z4⟩ := ff_back (U := Wst Z vm h) hal s4
    cases h2.symm.trans z4
    rw [h7] at s8
    cases s8
  · obtain ⟨cell, k, e1, e2, e3, -⟩ := E
    cases (show h[q.sd]? = some q.SA from G.hd).symm.trans e1
    obtain ⟨cS, -, -, f, -⟩ := G
    have f' : vm.findClass "[B" = some q.SA.cls := f
    rw [hal.findClass] at f'
    obtain ⟨k1, q1, q2⟩ := Vm.findClass_spec f'
    obtain ⟨k2, q3, q4⟩ := Vm.findClass_spec e2
    cases q1.symm.trans q3
    exact absurd (q2.symm.trans q4) (by decide)
end OwnKitH

theorem own_gset {ws : List Value} {i : Nat} {v d : Value} (hi : i < ws.length) : (ws.set i v).getD i d = v := by
  rw [List.getD_eq_getElem?_getD, List.getElem?_set_self hi]; rfl
theorem own_gset_ne {ws : List Value} {i k : Nat} {v d : Value} (hi : i ≠ k) : (ws.set i v).getD k d = ws.getD k d := by
  rw [List.getD_eq_getElem?_getD, List.getElem?_set_ne hi, List.getD_eq_getElem?_getD]
theorem own_neg31 {x : Int32} (h : x.toInt < 0) : (x.toUInt32 >>> ((31 : Int32) &&& 31).toUInt32).toInt32 = 1 := by
  have e := c_iushr x (31 : Int32) 31 (by decide) (by decide)
  have r := rng32 x
  apply Int32.toInt_inj.mp
  have e1 : (1 : Int32).toInt = 1 := rfl
  omega

theorem own_lt32 {a b : Int32} : a < b ↔ a.toInt < b.toInt := Int32.lt_iff_toInt_lt
theorem own_getD {ds : List Int32} {k : Nat} : (ds.map Value.int).getD k (.int 0) = .int (ds.getD k 0) := by
  simp only [List.getD_eq_getElem?_getD, List.getElem?_map]
  cases ds[k]? <;> rfl
theorem own_toI {i : Nat} (hi : i ≤ 10000) : (Int32.ofNat i).toInt = (i : Int) := Int32.toInt_ofNat_of_lt (by omega)
theorem own_jI {i : Nat} {j : Int32} (hj : j = Int32.ofNat i) (hi : i ≤ 10000) : j.toInt = (i : Int) := by rw [hj]; exact own_toI hi
theorem own_clamp {i : Nat} {j : Int32} (hj : j = Int32.ofNat i) (hi : i ≤ 10000) : j.toNatClampNeg = i := by
  show j.toInt.toNat = i
  rw [own_jI hj hi]; exact Int.toNat_natCast i
theorem own_el {ds : List Int32} {i : Nat} {j : Int32} (hj : j = Int32.ofNat i) (hi : i ≤ 10000) : (ds.map Value.int).getD j.toNatClampNeg (.int 0) = .int (ds.getD i 0) := by rw [own_clamp hj hi]; exact own_getD
theorem own_ltN {i n : Nat} {j N : Int32} (hj : j = Int32.ofNat i) (hN : N = Int32.ofNat n) (hi : i ≤ 10000) (hn : n ≤ 10000) : j < N ↔ i < n := by
  rw [own_lt32, own_jI hj hi, own_jI hN hn]; omega
theorem own_nneg {i : Nat} {j : Int32} (hj : j = Int32.ofNat i) (hi : i ≤ 10000) : ¬ j < 0 := by
  have e : (0 : Int32).toInt = 0 := rfl
  rw [own_lt32, own_jI hj hi, e]; omega
theorem own_inb {i n : Nat} {j N : Int32} (hj : j = Int32.ofNat i) (hN : N = Int32.ofNat n) (hi : i < n) (hn : n ≤ 10000) : ¬ j < 0 ∧ j < N := ⟨own_nneg hj (by omega), (own_ltN hj hN (by omega) hn).mpr hi⟩
theorem own_succ {i : Nat} {j : Int32} (hj : j = Int32.ofNat i) : j + (1 : Int32) = Int32.ofNat (i + 1) := by rw [hj, Int32.ofNat_add]; rfl
theorem own_one {z : Int32} : One (.val (.int z)) := Or.inr ⟨_, rfl, rfl⟩
theorem own_subI {x y : Int32} {a b : Int} (hx : x.toInt = a) (hy : y.toInt = b) (h1 : -2147483648 ≤ a - b) (h2 : a - b < 2147483648) : (x - y).toInt = a - b := by
  have e := c_isub x y
  have r := rng32 (x - y)
  omega
theorem own_addI {x y : Int32} {a b : Int} (hx : x.toInt = a) (hy : y.toInt = b) (h1 : -2147483648 ≤ a + b) (h2 : a + b < 2147483648) : (x + y).toInt = a + b := by
  have e := c_iadd x y
  have r := rng32 (x + y)
  omega
theorem own_nz {n : Nat} {N : Int32} (hN : N = Int32.ofNat n) (hp0 : 0 < n) (hn : n ≤ 4000) : ¬ N = (0 : Int32) := fun q => by
  have e := own_jI hN (by omega)
  rw [q] at e
  have e2 : (0 : Int32).toInt = 0 := rfl
  omega
theorem own_ofne {i n : Nat} {j N : Int32} (hj : j = Int32.ofNat i) (hN : N = Int32.ofNat n) (hi : i < n) (hn : n ≤ 4000) : ¬ j = N := fun q => by
  have e := own_jI hN (by omega)
  have e2 := own_jI hj (by omega)
  rw [q] at e2
  omega
theorem own_small {n : Nat} {j : Int32} (hj : j = Int32.ofNat n) (hn : n ≤ 4000) : j < (1073741823 : Int32) := by
  have e : (1073741823 : Int32).toInt = 1073741823 := rfl
  rw [own_lt32, own_jI hj (by omega), e]; omega
theorem own_i2c {x : Int32} (h0 : 0 ≤ x.toInt) (h1 : x.toInt < 65536) : x.toUInt32.toUInt16.toUInt32.toInt32 = x := Int32.toInt_inj.mp (by have := c_i2c x; omega)
def own_lat (x : Int32) : Prop := 0 ≤ x.toInt ∧ x.toInt ≤ 255
def own_chr (x : Int32) : Prop := 0 ≤ x.toInt ∧ x.toInt ≤ 65535
def own_chs (cs : List Int32) : Prop := ∀ q, own_chr (cs.getD q 0)
theorem own_chs_of {cs : List Int32} (h : ∀ c ∈ cs, own_chr c) : own_chs cs := fun q => by
  rw [List.getD_eq_getElem?_getD]
  cases e : cs[q]? with
  | none => exact ⟨by decide, by decide⟩
  | some c => exact h c (List.mem_of_getElem? e)
theorem own_255 {x : Int32} : (255 : Int32) < x ↔ 255 < x.toInt := by
  have e : (255 : Int32).toInt = 255 := rfl
  rw [own_lt32, e]
theorem own_lat_of {x : Int32} (h : own_chr x) (h2 : ¬ (255 : Int32) < x) : own_lat x := by
  rw [own_255] at h2
  exact ⟨h.1, by omega⟩
theorem own_narch {x : Int32} (h : own_chr x) : nar .char x = x := by
  obtain ⟨h1, h2⟩ := h
  show x.toUInt32.toUInt16.toUInt32.toInt32 = _
  rw [own_i2c (by omega) (by omega)]
abbrev own_lo (x : Int32) : Int32 := x.toInt8.toInt32
abbrev own_hi (x : Int32) : Int32 := (x >>> ((8 : Int32) &&& 31)).toInt8.toInt32
theorem own_shr0 (N : Int32) : N >>> ((0 : Int32) &&& 31) = N := Int32.toInt_inj.mp (by rw [c_ishr N 0 0 (by decide)]; simp)
theorem own_lo2 (x : Int32) : x.toInt8.toInt32.toInt8.toInt32 = x.toInt8.toInt32 := by rw [Int8.toInt8_toInt32]
theorem own_st1 (x : Int32) : nar .byte (x.toInt8.toInt32) = own_lo x := own_lo2 x
theorem own_st0 (x : Int32) : nar .byte ((x >>> ((0 : Int32) &&& 31)).toInt8.toInt32) = own_lo x := by rw [own_shr0]; exact own_lo2 x
theorem own_st8 (x : Int32) : nar .byte ((x >>> ((8 : Int32) &&& 31)).toInt8.toInt32) = own_hi x := own_lo2 _
theorem own_cdb {cd : Int32} (h : cd = (0 : Int32) ∨ cd = (1 : Int32)) : nar .byte cd = cd := by rcases h with rfl | rfl <;> decide
theorem own_cdn {cd : Int32} (h : cd = (0 : Int32) ∨ cd = (1 : Int32)) : narrow .byte (.int cd) = .int cd := by rcases h with rfl | rfl <;> decide
theorem own_cdf {cd : Int32} (h : cd = (0 : Int32) ∨ cd = (1 : Int32)) : fits .byte (.int cd) = true := by rcases h with rfl | rfl <;> decide
theorem own_zl {x : Int32} {k : Int32} {n : Int} (hk : k.toInt = n) : ¬ x < 0 ∧ ¬ k < x ↔ 0 ≤ x.toInt ∧ x.toInt ≤ n := by
  have e : (0 : Int32).toInt = 0 := rfl
  rw [own_lt32, own_lt32, e, hk]; omega
theorem own_getch {c : Int32} (h : own_chr c) : nar .char ((((own_lo c &&& (255 : Int32)) <<< ((0 : Int32) &&& 31)) ||| ((own_hi c &&& (255 : Int32)) <<< ((8 : Int32) &&& 31))).toUInt32.toUInt16.toUInt32.toInt32) = c := by
  have q := (own_zl (x := c) (k := (65535 : Int32)) (n := 65535) rfl).mpr h
  have e : (((own_lo c &&& (255 : Int32)) <<< ((0 : Int32) &&& 31)) ||| ((own_hi c &&& (255 : Int32)) <<< ((8 : Int32) &&& 31))).toUInt32.toUInt16.toUInt32.toInt32 = c := StrChars.pair_says q.1 q.2
  rw [e]; exact own_narch h
theorem own_latch {c : Int32} (h : own_lat c) : nar .char ((own_lo c &&& (255 : Int32)).toUInt32.toUInt16.toUInt32.toInt32) = c := by
  have q := (own_zl (x := c) (k := (255 : Int32)) (n := 255) rfl).mpr h
  have e : (own_lo c &&& (255 : Int32)).toUInt32.toUInt16.toUInt32.toInt32 = c := StrChars.chr8_lo8 q.1 q.2
  rw [e]; exact own_narch ⟨h.1, by have := h.2; omega⟩
theorem own_shl1 {i : Nat} {j : Int32} (hj : j = Int32.ofNat i) (hi : i ≤ 4000) : (j <<< ((1 : Int32) &&& 31)).toInt = 2 * (i : Int) := by
  have e := c_ishl j (1 : Int32) 1 (by decide)
  have r := rng32 (j <<< ((1 : Int32) &&& 31))
  rw [own_jI hj (by omega)] at e
  omega
theorem own_sh1 {i : Nat} {j : Int32} (hj : j = Int32.ofNat i) (hi : i ≤ 4000) : (j <<< ((1 : Int32) &&& 31)).toNatClampNeg = 2 * i := by
  show (j <<< ((1 : Int32) &&& 31)).toInt.toNat = _
  rw [own_shl1 hj hi]; omega
theorem own_shl2 {i : Nat} {j : Int32} (hj : j = Int32.ofNat i) (hi : i ≤ 4000) : ((j <<< ((1 : Int32) &&& 31)) + (1 : Int32)).toInt = 2 * (i : Int) + 1 := own_addI (own_shl1 hj hi) rfl (by omega) (by omega)
theorem own_sh2 {i : Nat} {j : Int32} (hj : j = Int32.ofNat i) (hi : i ≤ 4000) : ((j <<< ((1 : Int32) &&& 31)) + (1 : Int32)).toNatClampNeg = 2 * i + 1 := by
  show ((j <<< ((1 : Int32) &&& 31)) + (1 : Int32)).toInt.toNat = _
  rw [own_shl2 hj hi]; omega
theorem own_shin {i n : Nat} {j N2 : Int32} (hj : j = Int32.ofNat i) (hN : N2 = Int32.ofNat (2 * n)) (hi : i < n) (hn : n ≤ 4000) : ¬ (j <<< ((1 : Int32) &&& 31)) < 0 ∧ (j <<< ((1 : Int32) &&& 31)) < N2 := by
  have e0 : (0 : Int32).toInt = 0 := rfl
  rw [own_lt32, own_lt32, own_shl1 hj (by omega), own_jI hN (by omega), e0]; omega
theorem own_shin2 {i n : Nat} {j N2 : Int32} (hj : j = Int32.ofNat i) (hN : N2 = Int32.ofNat (2 * n)) (hi : i < n) (hn : n ≤ 4000) : ¬ ((j <<< ((1 : Int32) &&& 31)) + (1 : Int32)) < 0 ∧ ((j <<< ((1 : Int32) &&& 31)) + (1 : Int32)) < N2 := by
  have e0 : (0 : Int32).toInt = 0 := rfl
  rw [own_lt32, own_lt32, own_shl2 hj (by omega), own_jI hN (by omega), e0]; omega
theorem own_dbl2 {n : Nat} {j : Int32} (hj : j = Int32.ofNat n) (hn : n ≤ 4000) : j <<< ((1 : Int32) &&& 31) = Int32.ofNat (2 * n) := Int32.toInt_inj.mp (by rw [own_shl1 hj hn, own_toI (by omega)]; omega)
theorem own_half {n : Nat} {N2 : Int32} (hN : N2 = Int32.ofNat (2 * n)) (hn : n ≤ 4000) : N2 >>> ((1 : Int32) &&& 31) = Int32.ofNat n := by rw [hN]; exact StrChars.shr1 (by omega)
def own_wide (cs : List Int32) (ws : List Value) : Prop := ∀ q, q < cs.length → ws.getD (2 * q) (.int 0) = .int (own_lo (cs.getD q 0)) ∧ ws.getD (2 * q + 1) (.int 0) = .int (own_hi (cs.getD q 0))
def own_thin (cs : List Int32) (ws : List Value) : Prop := ∀ q, q < cs.length → ws.getD q (.int 0) = .int (own_lo (cs.getD q 0)) ∧ ¬ (255 : Int32) < cs.getD q 0
/-- the bytes vs, with the coder cd, spell cs -/
def own_cod (cs : List Int32) (cd N2 : Int32) (vs : List Value) : Prop := (cd = (0 : Int32) ∧ N2 = Int32.ofNat cs.length ∧ own_thin cs vs) ∨ (cd = (1 : Int32) ∧ N2 = Int32.ofNat (2 * cs.length) ∧ own_wide cs vs ∧ ∃ q, q < cs.length ∧ (255 : Int32) < cs.getD q 0)
def own_cmpd (cs : List Int32) (N r : Int32) (ws : List Value) : Prop := (r = N ∧ own_thin cs ws) ∨ ∃ i, i < cs.length ∧ r = Int32.ofNat i ∧ (255 : Int32) < cs.getD i 0
section
variable {cs : List Int32} {cd N2 N : Int32} {vs ws : List Value}
theorem own_cod_cd (h : own_cod cs cd N2 vs) : cd = (0 : Int32) ∨ cd = (1 : Int32) := h.imp (fun q => q.1) fun q => q.1
theorem own_cod_l (h : own_cod cs cd N2 vs) (hd : cd = (0 : Int32)) : N2 = Int32.ofNat cs.length ∧ own_thin cs vs := (h.resolve_right fun q => absurd (hd.symm.trans q.1) (by decide)).2
theorem own_cod_u (h : own_cod cs cd N2 vs) (hd : ¬ cd = (0 : Int32)) : N2 = Int32.ofNat (2 * cs.length) ∧ own_wide cs vs ∧ ∃ q, q < cs.length ∧ (255 : Int32) < cs.getD q 0 := (h.resolve_left fun q => hd q.1).2
theorem own_cod_len (h : own_cod cs cd N2 vs) (hlen : cs.length ≤ 4000) : N2 >>> (cd &&& 31) = Int32.ofNat cs.length := by
  rcases h with ⟨rfl, h, -⟩ | ⟨rfl, h, -⟩
  · rw [own_shr0]; exact h
  · exact own_half h hlen
theorem own_cfl (h : own_cod cs cd N2 vs) (hN : N = Int32.ofNat cs.length) (hn : cs.length ≤ 4000) (hp : 0 < cs.length) : nar .byte (((N - N2).toUInt32 >>> ((31 : Int32) &&& 31).toUInt32).toInt32.toInt8.toInt32) = cd := by
  rcases h with ⟨rfl, h, -⟩ | ⟨rfl, h, -⟩
  · have e : N - N2 = 0 := by rw [h, hN]; exact Int32.sub_self _
    rw [e]; decide
  · have e := own_subI (own_jI hN (by omega)) (own_jI h (by omega)) (by omega) (by omega)
    have q : ((N - N2).toUInt32 >>> ((31 : Int32) &&& 31).toUInt32).toInt32 = 1 := own_neg31 (by omega)
    rw [q]; decide
theorem own_setn {i : Nat} (hh : ∀ q, q < i → ws.getD q (.int 0) = .int (own_lo (cs.getD q 0)) ∧ ¬ (255 : Int32) < cs.getD q 0) (hi : i < ws.length) (he : ¬ (255 : Int32) < cs.getD i 0) : ∀ q, q < i + 1 → (ws.set i (.int (own_lo (cs.getD i 0)))).getD q (.int 0) = .int (own_lo (cs.getD q 0)) ∧ ¬ (255 : Int32) < cs.getD q 0 := fun q hq => by
  rcases Nat.lt_succ_iff_lt_or_eq.mp hq with z | rfl
  · rw [own_gset_ne (by omega)]; exact hh q z
  · rw [own_gset hi]; exact ⟨rfl, he⟩
theorem own_set2 {i : Nat} (hh : ∀ q, q < i → ws.getD (2 * q) (.int 0) = .int (own_lo (cs.getD q 0)) ∧ ws.getD (2 * q + 1) (.int 0) = .int (own_hi (cs.getD q 0))) (hi : 2 * i + 1 < ws.length) : ∀ q, q < i + 1 → ((ws.set (2 * i) (.int (own_lo (cs.getD i 0)))).set (2 * i + 1) (.int (own_hi (cs.getD i 0)))).getD (2 * q) (.int 0) = .int (own_lo (cs.getD q 0)) ∧ ((ws.set (2 * i) (.int (own_lo (cs.getD i 0)))).set (2 * i + 1) (.int (own_hi (cs.getD i 0)))).getD (2 * q + 1) (.int 0) = .int (own_hi (cs.getD q 0)) := fun q hq => by
  rcases Nat.lt_succ_iff_lt_or_eq.mp hq with z | rfl
  · rw [own_gset_ne (by omega), own_gset_ne (by omega), own_gset_ne (by omega), own_gset_ne (by omega)]; exact hh q z
  · rw [own_gset_ne (by omega), own_gset (by omega), own_gset (by rw [List.length_set]; exact hi)]; exact ⟨rfl, rfl⟩
end
theorem own_eqi {Z : State} {args : Array Value} {t : Term} {k : Int32} (h : (Cond.eq t (.int k)).value args Z none Z [] = some true) : t.eval args Z none [] Z = some (.int k) := eqv_i (Term.int_eval k) h
def own_EL : List (String × Nat) := [("com/example/lichen/lichen/webhook/EventTypeOfPinLaw", 7), ("com/example/lichen/lichen/webhook/EventTypeOfPinLaw", 9), ("java/lang/String", 7)]
theorem own_ew {Z : State} {a0 : Array Value} (hw : ∀ d ∈ tables_1, d.before a0 Z = true) : EW Z a0 own_EL := (EW.cons (own_w hw 0 rfl) (by decide) (EW.cons (own_w hw 80 rfl) (by decide) (EW.cons (own_w hw 136 rfl) (by decide) EW.nil)))
theorem own_atoms {Z : State} {a0 : Array Value} (hw : ∀ d ∈ tables_1, d.before a0 Z = true) : ∀ a ∈ Bundle.stringAtoms, a.before a0 Z = true := fun d hd => hw d ((by decide +kernel : ∀ d ∈ Bundle.stringAtoms, d ∈ tables_1) d hd)

def own_v1 : List Value := [(.int (98 : Int32)), (.int (97 : Int32)), (.int (116 : Int32)), (.int (99 : Int32)), (.int (104 : Int32)), (.int (46 : Int32)), (.int (115 : Int32)), (.int (105 : Int32)), (.int (103 : Int32)), (.int (110 : Int32)), (.int (101 : Int32)), (.int (100 : Int32))]
def own_v2 : List Value := [(.int (99 : Int32)), (.int (114 : Int32)), (.int (101 : Int32)), (.int (100 : Int32)), (.int (101 : Int32)), (.int (110 : Int32)), (.int (116 : Int32)), (.int (105 : Int32)), (.int (97 : Int32)), (.int (108 : Int32)), (.int (46 : Int32)), (.int (114 : Int32)), (.int (101 : Int32)), (.int (118 : Int32)), (.int (111 : Int32)), (.int (107 : Int32)), (.int (101 : Int32)), (.int (100 : Int32))]
def own_t1 : List Int32 := [(98 : Int32), (97 : Int32), (116 : Int32), (99 : Int32), (104 : Int32), (46 : Int32), (115 : Int32), (105 : Int32), (103 : Int32), (110 : Int32), (101 : Int32), (100 : Int32)]
def own_t2 : List Int32 := [(99 : Int32), (114 : Int32), (101 : Int32), (100 : Int32), (101 : Int32), (110 : Int32), (116 : Int32), (105 : Int32), (97 : Int32), (108 : Int32), (46 : Int32), (114 : Int32), (101 : Int32), (118 : Int32), (111 : Int32), (107 : Int32), (101 : Int32), (100 : Int32)]
theorem own_lita1 : (12 : Int32) = Int32.ofNat own_t1.length ∧ own_thin own_t1 own_v1 := ⟨rfl, by unfold own_thin; decide +kernel⟩
theorem own_lita2 : (18 : Int32) = Int32.ofNat own_t2.length ∧ own_thin own_t2 own_v2 := ⟨rfl, by unfold own_thin; decide +kernel⟩
theorem own_lit1 : own_cod own_t1 (0 : Int32) (12 : Int32) own_v1 := Or.inl ⟨rfl, own_lita1⟩
theorem own_lit2 : own_cod own_t2 (0 : Int32) (18 : Int32) own_v2 := Or.inl ⟨rfl, own_lita2⟩
theorem own_litr1 : own_chs own_t1 := own_chs_of (by unfold own_chr; decide +kernel)
theorem own_litr2 : own_chs own_t2 := own_chs_of (by unfold own_chr; decide +kernel)
theorem own_chs_nil : own_chs ([] : List Int32) := own_chs_of (by intro c hc; cases hc)
theorem own_cod_nil : own_cod ([] : List Int32) (0 : Int32) (0 : Int32) [] := Or.inl ⟨rfl, rfl, fun q hq => absurd hq (Nat.not_lt_zero q)⟩
theorem own_i2c_chr (x : Int32) : own_chr (x.toUInt32.toUInt16.toUInt32.toInt32) := by
  have q := c_i2c x
  exact ⟨by omega, by omega⟩
theorem own_chs_rep {n : Nat} : own_chs (List.replicate n (0 : Int32)) := own_chs_of (by
  intro c hc
  rw [List.eq_of_mem_replicate hc]
  exact ⟨by decide, by decide⟩)
theorem own_chs_set {xs : List Int32} {k : Nat} {r : Int32} (h : own_chs xs) (hr : own_chr r) : own_chs (xs.set k r) := fun q => by
  rw [List.getD_eq_getElem?_getD, List.getElem?_set]
  split
  · split
    · exact hr
    · exact ⟨by decide, by decide⟩
  · have := h q
    rw [List.getD_eq_getElem?_getD] at this
    exact this
theorem own_kn {i n : Nat} {j N : Int32} (hj : j = Int32.ofNat i) (hN : N = Int32.ofNat n) (hi : i ≤ 4000) (hn : n ≤ 4000) (h : j < N) : i < n := (own_ltN hj hN (by omega) (by omega)).mp h
theorem own_n20 (p2 : Int32) : ∃ n : Nat, ((p2 &&& (2147483647 : Int32)) % (20 : Int32)) = Int32.ofNat n ∧ n ≤ 19 := by
  have r := c_and p2 (2147483647 : Int32) (by decide)
  have e := (c_irem (p2 &&& (2147483647 : Int32)) (20 : Int32) 20 rfl).1 r.1
  generalize (p2 &&& (2147483647 : Int32)) % (20 : Int32) = w at *
  have b1 : 0 ≤ w.toInt := by omega
  have b2 : w.toInt < 20 := by omega
  exact ⟨w.toInt.toNat, Int32.toInt_inj.mp (by rw [own_toI (by omega)]; omega), by omega⟩
def own_ints (vs : List Value) (n : Nat) : Prop := ∀ q, q < n → ∃ e : Int32, vs.getD q (.int 0) = .int e
def own_beq (n k2 : Nat) (vs vs2 : List Value) (r : Int32) : Prop := (r = (1 : Int32) ∧ n = k2 ∧ ∀ q, q < n → vs.getD q (.int 0) = vs2.getD q (.int 0)) ∨ (r = (0 : Int32) ∧ ¬ (n = k2 ∧ ∀ q, q < n → vs.getD q (.int 0) = vs2.getD q (.int 0)))
theorem own_ofinj {n k : Nat} {N M : Int32} (hN : N = Int32.ofNat n) (hM : M = Int32.ofNat k) (h : N = M) (hn : n ≤ 8000) (hk : k ≤ 8000) : n = k := by
  have a := own_jI hN (by omega)
  have b := own_jI hM (by omega)
  rw [h] at a
  omega
theorem own_nextV {vs vs2 : List Value} {i : Nat} (hh : ∀ q, q < i → vs.getD q (.int 0) = vs2.getD q (.int 0)) (he : vs.getD i (.int 0) = vs2.getD i (.int 0)) : ∀ q, q < i + 1 → vs.getD q (.int 0) = vs2.getD q (.int 0) := fun q hq => by
  rcases Nat.lt_succ_iff_lt_or_eq.mp hq with z | rfl
  · exact hh q z
  · exact he
section
variable {cs ds : List Int32} {cd cd2 N2 M2 : Int32} {vs vs2 : List Value}
theorem own_cod_ints (h : own_cod cs cd N2 vs) (hl : cs.length ≤ 4000) : ∃ nb, nb ≤ 8000 ∧ N2 = Int32.ofNat nb ∧ own_ints vs nb := by
  rcases h with ⟨-, h1, h2⟩ | ⟨-, h1, h2, -⟩
  · exact ⟨cs.length, by omega, h1, fun q hq => ⟨_, (h2 q hq).1⟩⟩
  · refine ⟨2 * cs.length, by omega, h1, fun q hq => ?_⟩
    rcases Nat.mod_two_eq_zero_or_one q with z | z
    · have e : q = 2 * (q / 2) := by omega
      rw [e]; exact ⟨_, (h2 (q / 2) (by omega)).1⟩
    · have e : q = 2 * (q / 2) + 1 := by omega
      rw [e]; exact ⟨_, (h2 (q / 2) (by omega)).2⟩
theorem own_cod_ne (h : own_cod cs cd N2 vs) (h2 : own_cod ds cd2 M2 vs2) (hd : ¬ cd = cd2) : ¬ cs = ds := fun e => by
  subst e
  rcases h with ⟨a, -, b⟩ | ⟨a, -, -, q, b, c⟩ <;> rcases h2 with ⟨a2, -, b2⟩ | ⟨a2, -, -, q2, b3, c2⟩
  · exact hd (a.trans a2.symm)
  · exact (b q2 b3).2 c2
  · exact (b2 q b).2 c
  · exact hd (a.trans a2.symm)
theorem own_ext (hl : cs.length = ds.length) (h : ∀ q, q < cs.length → cs.getD q 0 = ds.getD q 0) : cs = ds := by
  apply List.ext_getElem hl
  intro q h1 h2
  have := h q h1
  rw [List.getD_eq_getElem?_getD, List.getD_eq_getElem?_getD, List.getElem?_eq_getElem h1, List.getElem?_eq_getElem h2] at this
  exact this
theorem own_lo_inj {a b : Int32} (ha : own_lat a) (hb : own_lat b) (h : own_lo a = own_lo b) : a = b := by
  have q := (own_zl (x := a) (k := (255 : Int32)) (n := 255) rfl).mpr ha
  have q2 := (own_zl (x := b) (k := (255 : Int32)) (n := 255) rfl).mpr hb
  have e1 : own_lo a &&& (255 : Int32) = a := StrChars.lo8_mask q.1 q.2
  have e2 : own_lo b &&& (255 : Int32) = b := StrChars.lo8_mask q2.1 q2.2
  rw [← e1, ← e2, h]
theorem own_pair_inj {a b : Int32} (ha : own_chr a) (hb : own_chr b) (h : own_lo a = own_lo b) (h2 : own_hi a = own_hi b) : a = b := by
  rw [← own_getch ha, ← own_getch hb, h, h2]
theorem own_cod_beq (h : own_cod cs cd N2 vs) (h2 : own_cod ds cd M2 vs2) (hl : cs.length ≤ 4000) (hl2 : ds.length ≤ 4000) (hr : own_chs cs) (hr2 : own_chs ds) {nb mb : Nat} (hN : N2 = Int32.ofNat nb) (hM : M2 = Int32.ofNat mb) (hn : nb ≤ 8000) (hm : mb ≤ 8000) : (nb = mb ∧ ∀ q, q < nb → vs.getD q (.int 0) = vs2.getD q (.int 0)) ↔ cs = ds := by
  rcases h with ⟨a, n1, b⟩ | ⟨a, n1, b, -⟩ <;> rcases h2 with ⟨a2, n2, b2⟩ | ⟨a2, n2, b2, -⟩
  · have e1 := own_ofinj hN n1 rfl hn (by omega)
    have e2 := own_ofinj hM n2 rfl hm (by omega)
    constructor
    · rintro ⟨q1, q2⟩
      refine own_ext (by omega) fun q hq => ?_
      have z := q2 q (by omega)
      rw [(b q hq).1, (b2 q (by omega)).1] at z
      exact own_lo_inj (own_lat_of (hr q) (b q hq).2) (own_lat_of (hr2 q) (b2 q (by omega)).2) (Value.int.inj z)
    · rintro rfl
      exact ⟨by omega, fun q hq => by rw [(b q (by omega)).1, (b2 q (by omega)).1]⟩
  · exact absurd (a.symm.trans a2) (by decide)
  · exact absurd (a2.symm.trans a) (by decide)
  · have e1 := own_ofinj hN n1 rfl hn (by omega)
    have e2 := own_ofinj hM n2 rfl hm (by omega)
    constructor
    · rintro ⟨q1, q2⟩
      refine own_ext (by omega) fun q hq => ?_
      have z := q2 (2 * q) (by omega)
      have z2 := q2 (2 * q + 1) (by omega)
      rw [(b q hq).1, (b2 q (by omega)).1] at z
      rw [(b q hq).2, (b2 q (by omega)).2] at z2
      exact own_pair_inj (hr q) (hr2 q) (Value.int.inj z) (Value.int.inj z2)
    · rintro rfl
      refine ⟨by omega, fun q hq => ?_⟩
      rcases Nat.mod_two_eq_zero_or_one q with z | z
      · have e : q = 2 * (q / 2) := by omega
        rw [e, (b (q / 2) (by omega)).1, (b2 (q / 2) (by omega)).1]
      · have e : q = 2 * (q / 2) + 1 := by omega
        rw [e, (b (q / 2) (by omega)).2, (b2 (q / 2) (by omega)).2]
end
theorem own_lenK {Z : State} {args : Array Value} {t : Term} {a : Addr} {c : Cell} {ty : FieldType} {k : Int32} (ev : t.eval args Z none [] Z = some (.ref a)) (A : Arr Z Z.heap a c ty) (h : (Cond.eq (.length t) (.int k)).value args Z none Z [] = some true) : c.slots.size < 2 ^ 31 ∧ c.slots.size.toInt32 = k := by
  have e := eqv_i (Term.int_eval k) h
  have ha : Z.arrayAt? a = some c := A.fin (Vm.Alike.refl _)
  have q : c.slots.size < 2 ^ 31 := by
    by_cases hl : c.slots.size < 2 ^ 31
    · exact hl
    · simp [Term.eval, ev, ha, hl] at e
  refine ⟨q, ?_⟩
  have e2 := len_f ev ha q
  rw [e] at e2
  exact (Value.int.inj (Option.some.inj e2)).symm
theorem own_eqr {Z : State} {args : Array Value} {X F : Term} {x : Addr} (hF : F.eval args Z none [] Z = some (.ref x)) (h : (Cond.eq X F).value args Z none Z [] = some true) : X.eval args Z none [] Z = some (.ref x) := by
  simp only [Cond.value] at h
  cases hX : X.eval args Z none [] Z with
  | none => simp [hX, hF] at h
  | some v => cases v <;> simp [hX, hF] at h ⊢; exact h
theorem own_el0 {Z : State} {args : Array Value} {t : Term} {a : Addr} {c : Cell} {ty : FieldType} {j : Int32} {v : Value} (ev : t.eval args Z none [] Z = some (.ref a)) (A : Arr Z Z.heap a c ty) (hj : ¬ j < 0) (h : (Term.elem t (.int j)).eval args Z none [] Z = some v) : c.slots[j.toNatClampNeg]? = some v := by
  rw [elem_f ev (Term.int_eval j) (A.fin (Vm.Alike.refl _)) hj] at h
  exact h
theorem own_fat {Z : State} {args : Array Value} {t : Term} {C n d : String} {x : Addr} {v : Value} (ht : t.eval args Z none [] Z = some (.ref x)) (h : (Term.field t C n d).eval args Z none [] Z = some v) : Z.fieldOf? x C n d = some v := by
  rw [fld_at ht] at h
  exact h
theorem own_d0 : decode jdk_42_method_152_code 0 = .ok (.getstatic 38, 3) := by decide +kernel
theorem own_d1 : decode jdk_42_method_152_code 3 = .ok (.ifCond .eq 10, 3) := by decide +kernel
theorem own_d2 : decode jdk_42_method_152_code 6 = .ok (.aload_n 0, 1) := by decide +kernel
theorem own_d3 : decode jdk_42_method_152_code 7 = .ok (.getfield 15, 3) := by decide +kernel
theorem own_d4 : decode jdk_42_method_152_code 10 = .ok (.goto 4, 3) := by decide +kernel
theorem own_d5 : decode jdk_42_method_152_code 14 = .ok (.ireturn, 1) := by decide +kernel
theorem own_pn0 : plainName "java/lang/String" = true := by first | (simp [plainName, overriddenIn]; done) | decide +kernel
theorem own_ef_coder (m : MethodId) (a1 : Addr) : entryFrame m #[(.ref a1)] 1 = mkF m 0 #[.val (.ref a1)] [] := by (first | (simp [entryFrame, mkF, argsToLocals, Value.category]; done) | rfl)
def own_Q_coder (Z : State) (a1 : Addr) (cz : Int32) (cd : Int32) (h0 : Heap) (n0 : Nat) (vq : Option Value) (h : Heap) (Lq : List Loc) : Prop := (vq = some (.int cd)) ∧ (Fr n0 Lq) ∧ (h = h0)
abbrev own_R_coder : Room := { frames := 0, cells := 0, slots := 0, locals := 0 }
set_option maxRecDepth 65536 in
set_option maxHeartbeats 40000000 in
theorem own_rm_coder (l : Launch) (Z : State) (a0 : Array Value) (hw : ∀ d ∈ tables_1, d.before a0 Z = true) (wsq : List Jvm.Cond) (a1 : Addr) (cz : Int32) (cd : Int32) (h0 : Heap) (n0 : Nat) (Z0 : n0 ≤ h0.size) (O0 : Old Z n0 h0) (S1 : Sta Z Z.heap "java/lang/String" "COMPACT_STRINGS" "Z" (.int cz)) (P5 : ¬ cz = (0 : Int32)) (F1 : Fld Z h0 a1 "java/lang/String" "coder" "B" (.int cd)) (hcd : cd = (0 : Int32) ∨ cd = (1 : Int32)) :
    MetFree l (⟨"java/lang/String", "coder", "()B"⟩ : MethodName) (head1 (Jvm.Cond.code (⟨"java/lang/String", "coder", "()B"⟩ : MethodName) jdk_42_method_152_code 1 (some .byte) :: wsq) own_R_coder) (fun aq Uq => aq = #[(.ref a1)] ∧ Z.Warmed39 Uq.vm ∧ Uq.heap = h0) (fun _ _ _ _ _ => True) (fun _ Uq oq Uq' => ∃ vq Lq, oq = .returned vq ∧ own_Q_coder Z a1 cz cd h0 n0 vq Uq'.heap Lq ∧ FrameEnd Uq oq Uq' Lq own_R_coder.cells own_R_coder.slots) := by
  refine MetFree.of_bodySF (plainFor_of_name own_pn0) hisR ?_
  intro p e s m args below meth cde s₁ Bd hml0 hP hK
  obtain ⟨rfl, hZ, hh⟩ := hP
  have hx := Bd.exec
  have hby := Bd.bytes
  have hml : cde.maxLocals = 1 := hml0
  have hown : s.vm.findClass "java/lang/String" = some m.cls := findClass_of_methodNamed Bd.named
  have hnm := (name_of_methodNamed Bd.named Bd.method).1
  have X0 : Stand p l e own_R_coder s m #[(.ref a1)] below meth cde s₁ [] 0 0 := Stand.of_body Bd
  have e0 : s₁.heap = h0 := by rw [← hh, Bd.state]; rfl
  have N0 := Fr.nil n0
  show own_Fin p e s below (own_Q_coder Z a1 cz cd h0 n0) own_R_coder.cells own_R_coder.slots s₁ (entryFrame m #[(.ref a1)] 1)
  rw [own_ef_coder m a1]
  obtain ⟨T1_, X1_, e1_, st1_⟩ := getS2 X0 hx hZ hown (host := "") (Or.inl (own_w hw 26 rfl)) Via.refl e0 (S1.ext O0.2) (g := (mkF m 0 #[.val (.ref a1)] [])) rfl (hb hby own_d0)
  refine own_via (fun _ kq => st1_ _ kq) ?_
  show own_Fin _ _ _ _ _ _ _ T1_ (mkF m 3 #[.val (.ref a1)] [(.int cz)])
  refine own_via (fun _ kq => XS.ifNo X1_.here hx rfl (hb hby own_d1) rfl ((if0 _ _).trans (feq P5).1) kq) ?_
  show own_Fin _ _ _ _ _ _ _ T1_ (mkF m 6 #[.val (.ref a1)] [])
  refine own_via (fun _ kq => XS.aloadN X1_.here hx rfl (hb hby own_d2) rfl rfl kq) ?_
  show own_Fin _ _ _ _ _ _ _ T1_ (mkF m 7 #[.val (.ref a1)] [(.ref a1)])
  obtain ⟨T2_, X2_, e2_, st2_⟩ := getF X1_ hx hZ hown (host := "") (Or.inl (own_w hw 27 rfl)) Via.refl e1_ F1 (g := (mkF m 7 #[.val (.ref a1)] [(.ref a1)])) rfl rfl (hb hby own_d3)
  refine own_via (fun _ kq => st2_ _ kq) ?_
  show own_Fin _ _ _ _ _ _ _ T2_ (mkF m 10 #[.val (.ref a1)] [(.int cd)])
  refine own_via (fun _ kq => XS.goto X2_.here hx rfl (pc0 := 10) (pc' := 14) rfl (hb hby own_d4) (by decide) (by decide) kq) ?_
  show own_Fin _ _ _ _ _ _ _ T2_ (mkF m 14 #[.val (.ref a1)] [(.int cd)])
  exact own_retN X2_ hx (t := .byte) Bd.returns Bd.notSynchronized (by simp) (hb hby own_d5) e2_ (own_cdb hcd) ⟨rfl, N0, rfl⟩ (by decide) (by decide)
theorem own_d6 : decode jdk_42_method_154_code 0 = .ok (.getstatic 38, 3) := by decide +kernel
theorem own_d7 : decode jdk_42_method_154_code 3 = .ok (.ifCond .eq 14, 3) := by decide +kernel
theorem own_d8 : decode jdk_42_method_154_code 6 = .ok (.aload_n 0, 1) := by decide +kernel
theorem own_d9 : decode jdk_42_method_154_code 7 = .ok (.getfield 15, 3) := by decide +kernel
theorem own_d10 : decode jdk_42_method_154_code 10 = .ok (.ifCond .ne 7, 3) := by decide +kernel
theorem own_d11 : decode jdk_42_method_154_code 17 = .ok (.iconst 0, 1) := by decide +kernel
theorem own_d12 : decode jdk_42_method_154_code 18 = .ok (.ireturn, 1) := by decide +kernel
theorem own_d13 : decode jdk_42_method_154_code 13 = .ok (.iconst 1, 1) := by decide +kernel
theorem own_d14 : decode jdk_42_method_154_code 14 = .ok (.goto 4, 3) := by decide +kernel
theorem own_ef_isLat (m : MethodId) (a1 : Addr) : entryFrame m #[(.ref a1)] 1 = mkF m 0 #[.val (.ref a1)] [] := by (first | (simp [entryFrame, mkF, argsToLocals, Value.category]; done) | rfl)
def own_Q_isLat (Z : State) (a1 : Addr) (cz : Int32) (cd : Int32) (h0 : Heap) (n0 : Nat) (vq : Option Value) (h : Heap) (Lq : List Loc) : Prop := ∃ (r : Int32), (vq = some (.int r)) ∧ (Fr n0 Lq) ∧ (h = h0) ∧ ((r = (1 : Int32) ∧ cd = (0 : Int32)) ∨ (r = (0 : Int32) ∧ ¬ cd = (0 : Int32)))
abbrev own_R_isLat : Room := { frames := 0, cells := 0, slots := 0, locals := 0 }
set_option maxRecDepth 65536 in
set_option maxHeartbeats 40000000 in
theorem own_rm_isLat (l : Launch) (Z : State) (a0 : Array Value) (hw : ∀ d ∈ tables_1, d.before a0 Z = true) (wsq : List Jvm.Cond) (a1 : Addr) (cz : Int32) (cd : Int32) (h0 : Heap) (n0 : Nat) (Z0 : n0 ≤ h0.size) (O0 : Old Z n0 h0) (S1 : Sta Z Z.heap "java/lang/String" "COMPACT_STRINGS" "Z" (.int cz)) (P5 : ¬ cz = (0 : Int32)) (F1 : Fld Z h0 a1 "java/lang/String" "coder" "B" (.int cd)) :
    MetFree l (⟨"java/lang/String", "isLatin1", "()Z"⟩ : MethodName) (head1 (Jvm.Cond.code (⟨"java/lang/String", "isLatin1", "()Z"⟩ : MethodName) jdk_42_method_154_code 1 (some .boolean) :: wsq) own_R_isLat) (fun aq Uq => aq = #[(.ref a1)] ∧ Z.Warmed39 Uq.vm ∧ Uq.heap = h0) (fun _ _ _ _ _ => True) (fun _ Uq oq Uq' => ∃ vq Lq, oq = .returned vq ∧ own_Q_isLat Z a1 cz cd h0 n0 vq Uq'.heap Lq ∧ FrameEnd Uq oq Uq' Lq own_R_isLat.cells own_R_isLat.slots) := by
  refine MetFree.of_bodySF (plainFor_of_name own_pn0) hisR ?_
  intro p e s m args below meth cde s₁ Bd hml0 hP hK
  obtain ⟨rfl, hZ, hh⟩ := hP
  have hx := Bd.exec
  have hby := Bd.bytes
  have hml : cde.maxLocals = 1 := hml0
  have hown : s.vm.findClass "java/lang/String" = some m.cls := findClass_of_methodNamed Bd.named
  have hnm := (name_of_methodNamed Bd.named Bd.method).1
  have X0 : Stand p l e own_R_isLat s m #[(.ref a1)] below meth cde s₁ [] 0 0 := Stand.of_body Bd
  have e0 : s₁.heap = h0 := by rw [← hh, Bd.state]; rfl
  have N0 := Fr.nil n0
  show own_Fin p e s below (own_Q_isLat Z a1 cz cd h0 n0) own_R_isLat.cells own_R_isLat.slots s₁ (entryFrame m #[(.ref a1)] 1)
  rw [own_ef_isLat m a1]
  obtain ⟨T1_, X1_, e1_, st1_⟩ := getS2 X0 hx hZ hown (host := "") (Or.inl (own_w hw 26 rfl)) Via.refl e0 (S1.ext O0.2) (g := (mkF m 0 #[.val (.ref a1)] [])) rfl (hb hby own_d6)
  refine own_via (fun _ kq => st1_ _ kq) ?_
  show own_Fin _ _ _ _ _ _ _ T1_ (mkF m 3 #[.val (.ref a1)] [(.int cz)])
  refine own_via (fun _ kq => XS.ifNo X1_.here hx rfl (hb hby own_d7) rfl ((if0 _ _).trans (feq P5).1) kq) ?_
  show own_Fin _ _ _ _ _ _ _ T1_ (mkF m 6 #[.val (.ref a1)] [])
  refine own_via (fun _ kq => XS.aloadN X1_.here hx rfl (hb hby own_d8) rfl rfl kq) ?_
  show own_Fin _ _ _ _ _ _ _ T1_ (mkF m 7 #[.val (.ref a1)] [(.ref a1)])
  obtain ⟨T2_, X2_, e2_, st2_⟩ := getF X1_ hx hZ hown (host := "") (Or.inl (own_w hw 27 rfl)) Via.refl e1_ F1 (g := (mkF m 7 #[.val (.ref a1)] [(.ref a1)])) rfl rfl (hb hby own_d9)
  refine own_via (fun _ kq => st2_ _ kq) ?_
  show own_Fin _ _ _ _ _ _ _ T2_ (mkF m 10 #[.val (.ref a1)] [(.int cd)])
  rcases Classical.em (cd = (0 : Int32)) with hz | hz
  · refine own_via (fun _ kq => XS.ifNo X2_.here hx rfl (hb hby own_d10) rfl ((if0 _ _).trans (teq hz).2) kq) ?_
    show own_Fin _ _ _ _ _ _ _ T2_ (mkF m 13 #[.val (.ref a1)] [])
    refine own_via (fun _ kq => XS.iconst X2_.here hx rfl (hb hby own_d13) kq) ?_
    refine own_via (fun _ kq => XS.goto X2_.here hx rfl (pc0 := 14) (pc' := 18) rfl (hb hby own_d14) (by decide) (by decide) kq) ?_
    show own_Fin _ _ _ _ _ _ _ T2_ (mkF m 18 #[.val (.ref a1)] [(.int (1 : Int32))])
    exact own_retN X2_ hx (t := .boolean) Bd.returns Bd.notSynchronized (by simp) (hb hby own_d12) e2_ rfl ⟨(1 : Int32), rfl, N0, rfl, (Or.inl ⟨rfl, hz⟩)⟩ (by decide) (by decide)
  · refine own_via (fun _ kq => XS.ifYes X2_.here hx rfl (pc0 := 10) (pc' := 17) rfl (hb hby own_d10) rfl ((if0 _ _).trans (feq hz).2) (by decide) (by decide) kq) ?_
    show own_Fin _ _ _ _ _ _ _ T2_ (mkF m 17 #[.val (.ref a1)] [])
    refine own_via (fun _ kq => XS.iconst X2_.here hx rfl (hb hby own_d11) kq) ?_
    show own_Fin _ _ _ _ _ _ _ T2_ (mkF m 18 #[.val (.ref a1)] [(.int (0 : Int32))])
    exact own_retN X2_ hx (t := .boolean) Bd.returns Bd.notSynchronized (by simp) (hb hby own_d12) e2_ rfl ⟨(0 : Int32), rfl, N0, rfl, (Or.inr ⟨rfl, hz⟩)⟩ (by decide) (by decide)
theorem own_d15 : decode jdk_42_method_54_code 0 = .ok (.aload_n 0, 1) := by decide +kernel
theorem own_d16 : decode jdk_42_method_54_code 1 = .ok (.getfield 9, 3) := by decide +kernel
theorem own_d17 : decode jdk_42_method_54_code 4 = .ok (.arraylength, 1) := by decide +kernel
theorem own_d18 : decode jdk_42_method_54_code 5 = .ok (.aload_n 0, 1) := by decide +kernel
theorem own_d19 : decode jdk_42_method_54_code 6 = .ok (.invokevirtual 335, 3) := by decide +kernel
theorem own_pd0 : parseMethodDescriptor "()B" = some ⟨[], some .byte⟩ := by decide +kernel
theorem own_d20 : decode jdk_42_method_54_code 9 = .ok (.ishr, 1) := by decide +kernel
theorem own_d21 : decode jdk_42_method_54_code 10 = .ok (.ireturn, 1) := by decide +kernel
theorem own_ef_len (m : MethodId) (a1 : Addr) : entryFrame m #[(.ref a1)] 1 = mkF m 0 #[.val (.ref a1)] [] := by (first | (simp [entryFrame, mkF, argsToLocals, Value.category]; done) | rfl)
def own_Q_len (Z : State) (a1 : Addr) (cz : Int32) (t : Addr) (kt : ClassId) (cd : Int32) (N2 : Int32) (vs : List Value) (cs : List Int32) (h0 : Heap) (n0 : Nat) (vq : Option Value) (h : Heap) (Lq : List Loc) : Prop := (vq = some (.int (Int32.ofNat cs.length))) ∧ (Fr n0 Lq) ∧ (h = h0)
abbrev own_R_len : Room := { frames := 1, cells := 0, slots := 0, locals := 13 }
set_option maxRecDepth 65536 in
set_option maxHeartbeats 40000000 in
theorem own_rm_len (l : Launch) (Z : State) (a0 : Array Value) (hw : ∀ d ∈ tables_1, d.before a0 Z = true) (wsq : List Jvm.Cond) (a1 : Addr) (cz : Int32) (t : Addr) (kt : ClassId) (cd : Int32) (N2 : Int32) (vs : List Value) (cs : List Int32) (h0 : Heap) (n0 : Nat) (Z0 : n0 ≤ h0.size) (O0 : Old Z n0 h0) (S1 : Sta Z Z.heap "java/lang/String" "COMPACT_STRINGS" "Z" (.int cz)) (P5 : ¬ cz = (0 : Int32)) (E1 : Exa Z h0 a1 "java/lang/String") (F1 : Fld Z h0 a1 "java/lang/String" "coder" "B" (.int cd)) (F2 : Fld Z h0 a1 "java/lang/String" "value" "[B" (.ref t)) (Va : Arv Z h0 t kt .byte N2 vs (.int 0)) (hc : own_cod cs cd N2 vs) (hlen : cs.length ≤ 4000) (hr : own_chs cs) :
    MetFree l (⟨"java/lang/String", "length", "()I"⟩ : MethodName) (head1 (Jvm.Cond.code (⟨"java/lang/String", "length", "()I"⟩ : MethodName) jdk_42_method_54_code 1 (some .int) :: wsq) own_R_len) (fun aq Uq => aq = #[(.ref a1)] ∧ Z.Warmed39 Uq.vm ∧ Uq.heap = h0) (fun _ _ _ _ _ => True) (fun _ Uq oq Uq' => ∃ vq Lq, oq = .returned vq ∧ own_Q_len Z a1 cz t kt cd N2 vs cs h0 n0 vq Uq'.heap Lq ∧ FrameEnd Uq oq Uq' Lq own_R_len.cells own_R_len.slots) := by
  refine MetFree.of_bodySF (plainFor_of_name own_pn0) hisR ?_
  intro p e s m args below meth cde s₁ Bd hml0 hP hK
  obtain ⟨rfl, hZ, hh⟩ := hP
  have hx := Bd.exec
  have hby := Bd.bytes
  have hml : cde.maxLocals = 1 := hml0
  have hown : s.vm.findClass "java/lang/String" = some m.cls := findClass_of_methodNamed Bd.named
  have hnm := (name_of_methodNamed Bd.named Bd.method).1
  have X0 : Stand p l e own_R_len s m #[(.ref a1)] below meth cde s₁ [] 0 0 := Stand.of_body Bd
  have e0 : s₁.heap = h0 := by rw [← hh, Bd.state]; rfl
  have N0 := Fr.nil n0
  show own_Fin p e s below (own_Q_len Z a1 cz t kt cd N2 vs cs h0 n0) own_R_len.cells own_R_len.slots s₁ (entryFrame m #[(.ref a1)] 1)
  rw [own_ef_len m a1]
  refine own_via (fun _ kq => XS.aloadN X0.here hx rfl (hb hby own_d15) rfl rfl kq) ?_
  show own_Fin _ _ _ _ _ _ _ s₁ (mkF m 1 #[.val (.ref a1)] [(.ref a1)])
  obtain ⟨T1_, X1_, e1_, st1_⟩ := getF X0 hx hZ hown (host := "") (Or.inl (own_w hw 20 rfl)) Via.refl e0 F2 (g := (mkF m 1 #[.val (.ref a1)] [(.ref a1)])) rfl rfl (hb hby own_d16)
  refine own_via (fun _ kq => st1_ _ kq) ?_
  show own_Fin _ _ _ _ _ _ _ T1_ (mkF m 4 #[.val (.ref a1)] [(.ref t)])
  obtain ⟨c2_, Ar2_, -, S2_, M2_, -, -⟩ := (id Va)
  refine own_via (fun _ kq => X1_.arraylength hx (own_eq e1_ Ar2_.1) (State.isArrayOf_alike hZ.alike Ar2_.2.1) (g := (mkF m 4 #[.val (.ref a1)] [(.ref t)])) rfl rfl (hb hby own_d17) _ (by rw [len_of S2_ M2_]; exact kq)) ?_
  show own_Fin _ _ _ _ _ _ _ T1_ (mkF m 5 #[.val (.ref a1)] [(.int N2)])
  refine own_via (fun _ kq => XS.aloadN X1_.here hx rfl (hb hby own_d18) rfl rfl kq) ?_
  show own_Fin _ _ _ _ _ _ _ T1_ (mkF m 6 #[.val (.ref a1)] [(.ref a1), (.int N2)])
  obtain ⟨cq3_, kq3_, q3_a, q3_b, q3_c⟩ := isOf hZ e1_ E1
  obtain ⟨_, _, ⟨T3_, L3_, k3_, n3_⟩, -, X3_, ⟨Lc3_, hQ3_, l3_, y3_, z3_⟩, st3_⟩ := X1_.virtualBack hx (y := (⟨"java/lang/String", "coder", "()B"⟩ : MethodName)) (z := (⟨"java/lang/String", "coder", "()B"⟩ : MethodName)) hown (mvT hZ (own_w hw 21 rfl)) (mvT hZ (own_w hw 22 rfl)) (notFace_of_selects (args := #[]) (mvT hZ (own_w hw 24 rfl))) (mvT hZ (own_w hw 24 rfl)) (mvT hZ (own_w hw 23 rfl)) (by decide) (backOf (W := 1) (own_rm_coder l Z a0 hw [] a1 cz cd h0 n0 Z0 O0 S1 P5 F1 (own_cod_cd hc)) hZ (own_w hw 25 rfl) (own_w hw 1 rfl) (by decide) (by decide)) q3_a q3_c (g := (mkF m 6 #[.val (.ref a1)] [(.ref a1), (.int N2)])) rfl (by rw [hml]; rfl) (Steps.refl _) (argsL := []) (rest := [(.int N2)]) (lenOf own_pd0 rfl) rfl (by show 2 * 0 + _ ≤ _; exact Nat.le_of_eq rfl) (hb hby own_d19) (fun _ _ => ⟨rfl, e1_, (by decide : 0 + 0 ≤ _), (by decide : 0 + 0 ≤ _)⟩)
  dsimp only [Pt.U, Pt.locs, Pt.cells, Pt.slots] at X3_ l3_ y3_ z3_ st3_ hQ3_
  subst l3_ y3_ z3_
  obtain ⟨rfl, Nq3_, hh3_⟩ := hQ3_
  have N3_ := Fr.app N0 Nq3_
  refine own_via (fun _ kq => st3_.trans kq) ?_
  show own_Fin _ _ _ _ _ _ _ T3_ (mkF m 9 #[.val (.ref a1)] [(.int cd), (.int N2)])
  refine own_via (fun _ kq => XS.ishr X3_.here hx rfl (hb hby own_d20) rfl kq) ?_
  show own_Fin _ _ _ _ _ _ _ T3_ (mkF m 10 #[.val (.ref a1)] [(.int (N2 >>> (cd &&& 31)))])
  exact own_retI X3_ hx Bd.returns Bd.notSynchronized (hb hby own_d21) hh3_ (own_cod_len hc hlen) ⟨rfl, N3_, rfl⟩ (by decide) (by decide)
theorem own_d22 : decode jdk_41_method_11_code 0 = .ok (.iload_n 0, 1) := by decide +kernel
theorem own_d23 : decode jdk_41_method_11_code 1 = .ok (.ifCond .lt 8, 3) := by decide +kernel
theorem own_d24 : decode jdk_41_method_11_code 4 = .ok (.iload_n 0, 1) := by decide +kernel
theorem own_d25 : decode jdk_41_method_11_code 5 = .ok (.iload_n 1, 1) := by decide +kernel
theorem own_d26 : decode jdk_41_method_11_code 6 = .ok (.if_icmp .lt 10, 3) := by decide +kernel
theorem own_d27 : decode jdk_41_method_11_code 16 = .ok (.iload_n 0, 1) := by decide +kernel
theorem own_d28 : decode jdk_41_method_11_code 17 = .ok (.ireturn, 1) := by decide +kernel
theorem own_pn1 : plainName "jdk/internal/util/Preconditions" = true := by first | (simp [plainName, overriddenIn]; done) | decide +kernel
theorem own_ef_chkP (m : MethodId) (i : Int32) (n : Int32) (fm : Value) (r_fm : fm.isRef = true) : entryFrame m #[(.int i), (.int n), fm] 3 = mkF m 0 #[.val (.int i), .val (.int n), .val fm] [] := by cases fm <;> first | (cases r_fm; done) | (first | (simp [entryFrame, mkF, argsToLocals, Value.category]; done) | rfl)
def own_Q_chkP (Z : State) (i : Int32) (n : Int32) (fm : Value) (h0 : Heap) (n0 : Nat) (vq : Option Value) (h : Heap) (Lq : List Loc) : Prop := (vq = some (.int i)) ∧ (Fr n0 Lq) ∧ (h = h0)
abbrev own_R_chkP : Room := { frames := 0, cells := 0, slots := 0, locals := 0 }
set_option maxRecDepth 65536 in
set_option maxHeartbeats 40000000 in
theorem own_rm_chkP (l : Launch) (Z : State) (a0 : Array Value) (hw : ∀ d ∈ tables_1, d.before a0 Z = true) (wsq : List Jvm.Cond) (i : Int32) (n : Int32) (fm : Value) (h0 : Heap) (n0 : Nat) (Z0 : n0 ≤ h0.size) (h1 : ¬ i < (0 : Int32)) (h2 : i < n) (r_fm : fm.isRef = true) :
    MetFree l (⟨"jdk/internal/util/Preconditions", "checkIndex", "(IILjava/util/function/BiFunction;)I"⟩ : MethodName) (head1 (Jvm.Cond.code (⟨"jdk/internal/util/Preconditions", "checkIndex", "(IILjava/util/function/BiFunction;)I"⟩ : MethodName) jdk_41_method_11_code 3 (some .int) :: wsq) own_R_chkP) (fun aq Uq => aq = #[(.int i), (.int n), fm] ∧ Z.Warmed39 Uq.vm ∧ Uq.heap = h0) (fun _ _ _ _ _ => True) (fun _ Uq oq Uq' => ∃ vq Lq, oq = .returned vq ∧ own_Q_chkP Z i n fm h0 n0 vq Uq'.heap Lq ∧ FrameEnd Uq oq Uq' Lq own_R_chkP.cells own_R_chkP.slots) := by
  refine MetFree.of_bodySF (plainFor_of_name own_pn1) hisR ?_
  intro p e s m args below meth cde s₁ Bd hml0 hP hK
  obtain ⟨rfl, hZ, hh⟩ := hP
  have hx := Bd.exec
  have hby := Bd.bytes
  have hml : cde.maxLocals = 3 := hml0
  have hown : s.vm.findClass "jdk/internal/util/Preconditions" = some m.cls := findClass_of_methodNamed Bd.named
  have hnm := (name_of_methodNamed Bd.named Bd.method).1
  have X0 : Stand p l e own_R_chkP s m #[(.int i), (.int n), fm] below meth cde s₁ [] 0 0 := Stand.of_body Bd
  have e0 : s₁.heap = h0 := by rw [← hh, Bd.state]; rfl
  have N0 := Fr.nil n0
  show own_Fin p e s below (own_Q_chkP Z i n fm h0 n0) own_R_chkP.cells own_R_chkP.slots s₁ (entryFrame m #[(.int i), (.int n), fm] 3)
  rw [own_ef_chkP m i n fm r_fm]
  refine own_via (fun _ kq => XS.iloadN X0.here hx rfl (hb hby own_d22) rfl kq) ?_
  refine own_via (fun _ kq => XS.ifNo X0.here hx rfl (hb hby own_d23) rfl ((if0 _ _).trans (flt h1).1) kq) ?_
  show own_Fin _ _ _ _ _ _ _ s₁ (mkF m 4 #[.val (.int i), .val (.int n), .val fm] [])
  refine own_via (fun _ kq => XS.iloadN X0.here hx rfl (hb hby own_d24) rfl kq) ?_
  refine own_via (fun _ kq => XS.iloadN X0.here hx rfl (hb hby own_d25) rfl kq) ?_
  refine own_via (fun _ kq => XS.icmpYes X0.here hx rfl (pc0 := 6) (pc' := 16) rfl (hb hby own_d26) rfl (tlt h2).1 (by decide) (by decide) kq) ?_
  show own_Fin _ _ _ _ _ _ _ s₁ (mkF m 16 #[.val (.int i), .val (.int n), .val fm] [])
  refine own_via (fun _ kq => XS.iloadN X0.here hx rfl (hb hby own_d27) rfl kq) ?_
  show own_Fin _ _ _ _ _ _ _ s₁ (mkF m 17 #[.val (.int i), .val (.int n), .val fm] [(.int i)])
  exact own_retI X0 hx Bd.returns Bd.notSynchronized (hb hby own_d28) e0 rfl ⟨rfl, N0, rfl⟩ (by decide) (by decide)
theorem own_d29 : decode jdk_42_method_155_code 0 = .ok (.iload_n 0, 1) := by decide +kernel
theorem own_d30 : decode jdk_42_method_155_code 1 = .ok (.iload_n 1, 1) := by decide +kernel
theorem own_d31 : decode jdk_42_method_155_code 2 = .ok (.getstatic 1053, 3) := by decide +kernel
theorem own_d32 : decode jdk_42_method_155_code 5 = .ok (.invokestatic 1059, 3) := by decide +kernel
theorem own_pd1 : parseMethodDescriptor "(IILjava/util/function/BiFunction;)I" = some ⟨[.int, .int, (.object "java/util/function/BiFunction")], some .int⟩ := by decide +kernel
theorem own_d33 : decode jdk_42_method_155_code 8 = .ok (.pop, 1) := by decide +kernel
theorem own_d34 : decode jdk_42_method_155_code 9 = .ok (.return_, 1) := by decide +kernel
theorem own_ef_chk (m : MethodId) (i : Int32) (n : Int32) : entryFrame m #[(.int i), (.int n)] 2 = mkF m 0 #[.val (.int i), .val (.int n)] [] := by (first | (simp [entryFrame, mkF, argsToLocals, Value.category]; done) | rfl)
def own_Q_chk (Z : State) (i : Int32) (n : Int32) (fm : Value) (h0 : Heap) (n0 : Nat) (vq : Option Value) (h : Heap) (Lq : List Loc) : Prop := (vq = none) ∧ (Fr n0 Lq) ∧ (h = h0)
abbrev own_R_chk : Room := { frames := 1, cells := 0, slots := 0, locals := 14 }
set_option maxRecDepth 65536 in
set_option maxHeartbeats 40000000 in
theorem own_rm_chk (l : Launch) (Z : State) (a0 : Array Value) (hw : ∀ d ∈ tables_1, d.before a0 Z = true) (wsq : List Jvm.Cond) (i : Int32) (n : Int32) (fm : Value) (h0 : Heap) (n0 : Nat) (Z0 : n0 ≤ h0.size) (O0 : Old Z n0 h0) (S2 : Sta Z Z.heap "jdk/internal/util/Preconditions" "SIOOBE_FORMATTER" "Ljava/util/function/BiFunction;" fm) (r_fm : fm.isRef = true) (h1 : ¬ i < (0 : Int32)) (h2 : i < n) :
    MetFree l (⟨"java/lang/String", "checkIndex", "(II)V"⟩ : MethodName) (head1 (Jvm.Cond.code (⟨"java/lang/String", "checkIndex", "(II)V"⟩ : MethodName) jdk_42_method_155_code 2 none :: wsq) own_R_chk) (fun aq Uq => aq = #[(.int i), (.int n)] ∧ Z.Warmed39 Uq.vm ∧ Uq.heap = h0) (fun _ _ _ _ _ => True) (fun _ Uq oq Uq' => ∃ vq Lq, oq = .returned vq ∧ own_Q_chk Z i n fm h0 n0 vq Uq'.heap Lq ∧ FrameEnd Uq oq Uq' Lq own_R_chk.cells own_R_chk.slots) := by
  refine MetFree.of_bodySF (plainFor_of_name own_pn0) hisR ?_
  intro p e s m args below meth cde s₁ Bd hml0 hP hK
  obtain ⟨rfl, hZ, hh⟩ := hP
  have hx := Bd.exec
  have hby := Bd.bytes
  have hml : cde.maxLocals = 2 := hml0
  have hown : s.vm.findClass "java/lang/String" = some m.cls := findClass_of_methodNamed Bd.named
  have hnm := (name_of_methodNamed Bd.named Bd.method).1
  have X0 : Stand p l e own_R_chk s m #[(.int i), (.int n)] below meth cde s₁ [] 0 0 := Stand.of_body Bd
  have e0 : s₁.heap = h0 := by rw [← hh, Bd.state]; rfl
  have N0 := Fr.nil n0
  show own_Fin p e s below (own_Q_chk Z i n fm h0 n0) own_R_chk.cells own_R_chk.slots s₁ (entryFrame m #[(.int i), (.int n)] 2)
  rw [own_ef_chk m i n]
  refine own_via (fun _ kq => XS.iloadN X0.here hx rfl (hb hby own_d29) rfl kq) ?_
  refine own_via (fun _ kq => XS.iloadN X0.here hx rfl (hb hby own_d30) rfl kq) ?_
  show own_Fin _ _ _ _ _ _ _ s₁ (mkF m 2 #[.val (.int i), .val (.int n)] [(.int n), (.int i)])
  obtain ⟨T1_, X1_, e1_, st1_⟩ := getS2 X0 hx hZ hown (host := "") (Or.inl (own_w hw 45 rfl)) Via.refl e0 (S2.ext O0.2) (g := (mkF m 2 #[.val (.int i), .val (.int n)] [(.int n), (.int i)])) rfl (hb hby own_d31)
  refine own_via (fun _ kq => st1_ _ kq) ?_
  show own_Fin _ _ _ _ _ _ _ T1_ (mkF m 5 #[.val (.int i), .val (.int n)] [fm, (.int n), (.int i)])
  obtain ⟨_, _, ⟨T2_, L2_, k2_, n2_⟩, -, X2_, ⟨Lc2_, hQ2_, l2_, y2_, z2_⟩, st2_⟩ := Jvm.LawKit.callS X1_ hx (y := (⟨"jdk/internal/util/Preconditions", "checkIndex", "(IILjava/util/function/BiFunction;)I"⟩ : MethodName)) hown (mvT hZ (own_w hw 47 rfl)) (mvT hZ (own_w hw 48 rfl)) (mvT hZ (own_w hw 46 rfl)) (mvT hZ (own_w hw 49 rfl)) (by decide) (backOf (W := 0) (own_rm_chkP l Z a0 hw [] i n fm h0 n0 Z0 h1 h2 r_fm) hZ (own_w hw 49 rfl) (own_w hw 46 rfl) (by decide) (by decide)) (g := (mkF m 5 #[.val (.int i), .val (.int n)] [fm, (.int n), (.int i)])) rfl (by rw [hml]; rfl) (argsL := [(.int i), (.int n), fm]) (rest := []) (lenOf own_pd1 rfl) rfl (by show 2 * 0 + _ ≤ _; exact Nat.le_of_eq rfl) (hb hby own_d32) (fun _ _ => ⟨rfl, e1_, (by decide : 0 + 0 ≤ _), (by decide : 0 + 0 ≤ _)⟩)
  dsimp only [Pt.U, Pt.locs, Pt.cells, Pt.slots] at X2_ l2_ y2_ z2_ st2_ hQ2_
  subst l2_ y2_ z2_
  obtain ⟨rfl, Nq2_, hh2_⟩ := hQ2_
  have N2_ := Fr.app N0 Nq2_
  refine own_via (fun _ kq => st2_ _ kq) ?_
  show own_Fin _ _ _ _ _ _ _ T2_ (mkF m 8 #[.val (.int i), .val (.int n)] [(.int i)])
  refine own_via (fun _ kq => XS.pop X2_.here hx rfl (hb hby own_d33) rfl rfl kq) ?_
  show own_Fin _ _ _ _ _ _ _ T2_ (mkF m 9 #[.val (.int i), .val (.int n)] [])
  exact own_ret0 X2_ hx Bd.returns Bd.notSynchronized (hb hby own_d34) hh2_ ⟨rfl, N2_, rfl⟩ (by decide) (by decide)
theorem own_d35 : decode jdk_43_method_2_code 0 = .ok (.iload_n 1, 1) := by decide +kernel
theorem own_d36 : decode jdk_43_method_2_code 1 = .ok (.aload_n 0, 1) := by decide +kernel
theorem own_d37 : decode jdk_43_method_2_code 2 = .ok (.arraylength, 1) := by decide +kernel
theorem own_d38 : decode jdk_43_method_2_code 3 = .ok (.invokestatic 9, 3) := by decide +kernel
theorem own_pd2 : parseMethodDescriptor "(II)V" = some ⟨[.int, .int], none⟩ := by decide +kernel
theorem own_d39 : decode jdk_43_method_2_code 6 = .ok (.aload_n 0, 1) := by decide +kernel
theorem own_d40 : decode jdk_43_method_2_code 7 = .ok (.iload_n 1, 1) := by decide +kernel
theorem own_d41 : decode jdk_43_method_2_code 8 = .ok (.baload, 1) := by decide +kernel
theorem own_d42 : decode jdk_43_method_2_code 9 = .ok (.sipush 255, 3) := by decide +kernel
theorem own_d43 : decode jdk_43_method_2_code 12 = .ok (.iand, 1) := by decide +kernel
theorem own_d44 : decode jdk_43_method_2_code 13 = .ok (.i2c, 1) := by decide +kernel
theorem own_d45 : decode jdk_43_method_2_code 14 = .ok (.ireturn, 1) := by decide +kernel
theorem own_pn2 : plainName "java/lang/StringLatin1" = true := by first | (simp [plainName, overriddenIn]; done) | decide +kernel
theorem own_ef_latCh (m : MethodId) (t : Addr) (j : Int32) : entryFrame m #[(.ref t), (.int j)] 2 = mkF m 0 #[.val (.ref t), .val (.int j)] [] := by (first | (simp [entryFrame, mkF, argsToLocals, Value.category]; done) | rfl)
def own_Q_latCh (Z : State) (t : Addr) (kt : ClassId) (N2 : Int32) (vs : List Value) (fm : Value) (c : Int32) (j : Int32) (i : Nat) (n : Nat) (h0 : Heap) (n0 : Nat) (vq : Option Value) (h : Heap) (Lq : List Loc) : Prop := (vq = some (.int c)) ∧ (Fr n0 Lq) ∧ (h = h0)
abbrev own_R_latCh : Room := { frames := 2, cells := 0, slots := 0, locals := 27 }
set_option maxRecDepth 65536 in
set_option maxHeartbeats 40000000 in
theorem own_rm_latCh (l : Launch) (Z : State) (a0 : Array Value) (hw : ∀ d ∈ tables_1, d.before a0 Z = true) (wsq : List Jvm.Cond) (t : Addr) (kt : ClassId) (N2 : Int32) (vs : List Value) (fm : Value) (c : Int32) (j : Int32) (i : Nat) (n : Nat) (h0 : Heap) (n0 : Nat) (Z0 : n0 ≤ h0.size) (O0 : Old Z n0 h0) (S2 : Sta Z Z.heap "jdk/internal/util/Preconditions" "SIOOBE_FORMATTER" "Ljava/util/function/BiFunction;" fm) (r_fm : fm.isRef = true) (Va : Arv Z h0 t kt .byte N2 vs (.int 0)) (hj : j = Int32.ofNat i) (hi : i < n) (hn : n ≤ 4000) (hN : N2 = Int32.ofNat n) (he : vs.getD i (.int 0) = .int (own_lo c)) (hcr : own_lat c) :
    MetFree l (⟨"java/lang/StringLatin1", "charAt", "([BI)C"⟩ : MethodName) (head1 (Jvm.Cond.code (⟨"java/lang/StringLatin1", "charAt", "([BI)C"⟩ : MethodName) jdk_43_method_2_code 2 (some .char) :: wsq) own_R_latCh) (fun aq Uq => aq = #[(.ref t), (.int j)] ∧ Z.Warmed39 Uq.vm ∧ Uq.heap = h0) (fun _ _ _ _ _ => True) (fun _ Uq oq Uq' => ∃ vq Lq, oq = .returned vq ∧ own_Q_latCh Z t kt N2 vs fm c j i n h0 n0 vq Uq'.heap Lq ∧ FrameEnd Uq oq Uq' Lq own_R_latCh.cells own_R_latCh.slots) := by
  refine MetFree.of_bodySF (plainFor_of_name own_pn2) hisR ?_
  intro p e s m args below meth cde s₁ Bd hml0 hP hK
  obtain ⟨rfl, hZ, hh⟩ := hP
  have hx := Bd.exec
  have hby := Bd.bytes
  have hml : cde.maxLocals = 2 := hml0
  have hown : s.vm.findClass "java/lang/StringLatin1" = some m.cls := findClass_of_methodNamed Bd.named
  have hnm := (name_of_methodNamed Bd.named Bd.method).1
  have X0 : Stand p l e own_R_latCh s m #[(.ref t), (.int j)] below meth cde s₁ [] 0 0 := Stand.of_body Bd
  have e0 : s₁.heap = h0 := by rw [← hh, Bd.state]; rfl
  have N0 := Fr.nil n0
  show own_Fin p e s below (own_Q_latCh Z t kt N2 vs fm c j i n h0 n0) own_R_latCh.cells own_R_latCh.slots s₁ (entryFrame m #[(.ref t), (.int j)] 2)
  rw [own_ef_latCh m t j]
  refine own_via (fun _ kq => XS.iloadN X0.here hx rfl (hb hby own_d35) rfl kq) ?_
  refine own_via (fun _ kq => XS.aloadN X0.here hx rfl (hb hby own_d36) rfl rfl kq) ?_
  show own_Fin _ _ _ _ _ _ _ s₁ (mkF m 2 #[.val (.ref t), .val (.int j)] [(.ref t), (.int j)])
  obtain ⟨c1_, Ar1_, -, S1_, M1_, -, -⟩ := (id Va)
  refine own_via (fun _ kq => X0.arraylength hx (own_eq e0 Ar1_.1) (State.isArrayOf_alike hZ.alike Ar1_.2.1) (g := (mkF m 2 #[.val (.ref t), .val (.int j)] [(.ref t), (.int j)])) rfl rfl (hb hby own_d37) _ (by rw [len_of S1_ M1_]; exact kq)) ?_
  show own_Fin _ _ _ _ _ _ _ s₁ (mkF m 3 #[.val (.ref t), .val (.int j)] [(.int N2), (.int j)])
  obtain ⟨_, _, ⟨T2_, L2_, k2_, n2_⟩, -, X2_, ⟨Lc2_, hQ2_, l2_, y2_, z2_⟩, st2_⟩ := Jvm.LawKit.callS X0 hx (y := (⟨"java/lang/String", "checkIndex", "(II)V"⟩ : MethodName)) hown (mvT hZ (own_w hw 42 rfl)) (mvT hZ (own_w hw 43 rfl)) (mvT hZ (own_w hw 1 rfl)) (mvT hZ (own_w hw 44 rfl)) (by decide) (backOf (W := 0) (own_rm_chk l Z a0 hw [] j N2 fm h0 n0 Z0 O0 S2 r_fm (own_inb hj hN hi (by omega)).1 (own_inb hj hN hi (by omega)).2) hZ (own_w hw 44 rfl) (own_w hw 1 rfl) (by decide) (by decide)) (g := (mkF m 3 #[.val (.ref t), .val (.int j)] [(.int N2), (.int j)])) rfl (by rw [hml]; rfl) (argsL := [(.int j), (.int N2)]) (rest := []) (lenOf own_pd2 rfl) rfl (by show 2 * 0 + _ ≤ _; exact Nat.le_of_eq rfl) (hb hby own_d38) (fun _ _ => ⟨rfl, e0, (by decide : 0 + 0 ≤ _), (by decide : 0 + 0 ≤ _)⟩)
  dsimp only [Pt.U, Pt.locs, Pt.cells, Pt.slots] at X2_ l2_ y2_ z2_ st2_ hQ2_
  subst l2_ y2_ z2_
  obtain ⟨rfl, Nq2_, hh2_⟩ := hQ2_
  have N2_ := Fr.app N0 Nq2_
  refine own_via (fun _ kq => st2_ _ kq) ?_
  show own_Fin _ _ _ _ _ _ _ T2_ (mkF m 6 #[.val (.ref t), .val (.int j)] [])
  refine own_via (fun _ kq => XS.aloadN X2_.here hx rfl (hb hby own_d39) rfl rfl kq) ?_
  refine own_via (fun _ kq => XS.iloadN X2_.here hx rfl (hb hby own_d40) rfl kq) ?_
  show own_Fin _ _ _ _ _ _ _ T2_ (mkF m 8 #[.val (.ref t), .val (.int j)] [(.int j), (.ref t)])
  obtain ⟨c3_, Ar3_, q3_, S3_, M3_, H3_, G3_⟩ := (id Va)
  have hin3_ : ¬ (j < 0 ∨ c3_.slots.size ≤ (j).toNatClampNeg) := inb_of S3_ (own_inb hj hN hi (by omega))
  have hat3_ : c3_.slots[(j).toNatClampNeg]? = some (.int (own_lo c)) := H3_.at hin3_ (by rw [own_clamp hj (by omega)]; exact he)
  refine own_via (fun _ kq => X2_.baloadBytes hx (j := j) (v := (.int (own_lo c))) (own_eq hh2_ Ar3_.1) (State.isArrayOf_alike hZ.alike Ar3_.2.1) Ar3_.2.2 hin3_ hat3_ (g := (mkF m 8 #[.val (.ref t), .val (.int j)] [(.int j), (.ref t)])) rfl rfl (hb hby own_d41) _ kq) ?_
  show own_Fin _ _ _ _ _ _ _ T2_ (mkF m 9 #[.val (.ref t), .val (.int j)] [(.int (own_lo c))])
  refine own_via (fun _ kq => XS.sipush X2_.here hx rfl (hb hby own_d42) kq) ?_
  refine own_via (fun _ kq => XS.iand X2_.here hx rfl (hb hby own_d43) rfl kq) ?_
  refine own_via (fun _ kq => XS.i2c X2_.here hx rfl (hb hby own_d44) rfl kq) ?_
  show own_Fin _ _ _ _ _ _ _ T2_ (mkF m 14 #[.val (.ref t), .val (.int j)] [(.int (((own_lo c) &&& (255 : Int32)).toUInt32.toUInt16.toUInt32.toInt32))])
  exact own_retN X2_ hx (t := .char) Bd.returns Bd.notSynchronized (by simp) (hb hby own_d45) hh2_ (own_latch hcr) ⟨rfl, N2_, rfl⟩ (by decide) (by decide)
theorem own_d46 : decode jdk_52_method_5_code 0 = .ok (.getstatic 44, 3) := by decide +kernel
theorem own_d47 : decode jdk_52_method_5_code 3 = .ok (.ifCond .ne 25, 3) := by decide +kernel
theorem own_d48 : decode jdk_52_method_5_code 28 = .ok (.iload_n 1, 1) := by decide +kernel
theorem own_d49 : decode jdk_52_method_5_code 29 = .ok (.iconst 1, 1) := by decide +kernel
theorem own_d50 : decode jdk_52_method_5_code 30 = .ok (.ishl, 1) := by decide +kernel
theorem own_d51 : decode jdk_52_method_5_code 31 = .ok (.istore_n 1, 1) := by decide +kernel
theorem own_d52 : decode jdk_52_method_5_code 32 = .ok (.aload_n 0, 1) := by decide +kernel
theorem own_d53 : decode jdk_52_method_5_code 33 = .ok (.iload_n 1, 1) := by decide +kernel
theorem own_d54 : decode jdk_52_method_5_code 34 = .ok (.iinc 1 1, 3) := by decide +kernel
theorem own_d55 : decode jdk_52_method_5_code 37 = .ok (.baload, 1) := by decide +kernel
theorem own_d56 : decode jdk_52_method_5_code 38 = .ok (.sipush 255, 3) := by decide +kernel
theorem own_d57 : decode jdk_52_method_5_code 41 = .ok (.iand, 1) := by decide +kernel
theorem own_d58 : decode jdk_52_method_5_code 42 = .ok (.getstatic 59, 3) := by decide +kernel
theorem own_d59 : decode jdk_52_method_5_code 45 = .ok (.ishl, 1) := by decide +kernel
theorem own_d60 : decode jdk_52_method_5_code 46 = .ok (.aload_n 0, 1) := by decide +kernel
theorem own_d61 : decode jdk_52_method_5_code 47 = .ok (.iload_n 1, 1) := by decide +kernel
theorem own_d62 : decode jdk_52_method_5_code 48 = .ok (.baload, 1) := by decide +kernel
theorem own_d63 : decode jdk_52_method_5_code 49 = .ok (.sipush 255, 3) := by decide +kernel
theorem own_d64 : decode jdk_52_method_5_code 52 = .ok (.iand, 1) := by decide +kernel
theorem own_d65 : decode jdk_52_method_5_code 53 = .ok (.getstatic 63, 3) := by decide +kernel
theorem own_d66 : decode jdk_52_method_5_code 56 = .ok (.ishl, 1) := by decide +kernel
theorem own_d67 : decode jdk_52_method_5_code 57 = .ok (.ior, 1) := by decide +kernel
theorem own_d68 : decode jdk_52_method_5_code 58 = .ok (.i2c, 1) := by decide +kernel
theorem own_d69 : decode jdk_52_method_5_code 59 = .ok (.ireturn, 1) := by decide +kernel
theorem own_pn3 : plainName "java/lang/StringUTF16" = true := by first | (simp [plainName, overriddenIn]; done) | decide +kernel
theorem own_ef_getCh (m : MethodId) (t : Addr) (j : Int32) : entryFrame m #[(.ref t), (.int j)] 2 = mkF m 0 #[.val (.ref t), .val (.int j)] [] := by (first | (simp [entryFrame, mkF, argsToLocals, Value.category]; done) | rfl)
def own_Q_getCh (Z : State) (t : Addr) (kt : ClassId) (N2 : Int32) (vs : List Value) (c : Int32) (j : Int32) (i : Nat) (n : Nat) (h0 : Heap) (n0 : Nat) (vq : Option Value) (h : Heap) (Lq : List Loc) : Prop := (vq = some (.int c)) ∧ (Fr n0 Lq) ∧ (h = h0)
abbrev own_R_getCh : Room := { frames := 0, cells := 0, slots := 0, locals := 0 }
set_option maxRecDepth 65536 in
set_option maxHeartbeats 40000000 in
theorem own_rm_getCh (l : Launch) (Z : State) (a0 : Array Value) (hw : ∀ d ∈ tables_1, d.before a0 Z = true) (wsq : List Jvm.Cond) (t : Addr) (kt : ClassId) (N2 : Int32) (vs : List Value) (c : Int32) (j : Int32) (i : Nat) (n : Nat) (h0 : Heap) (n0 : Nat) (Z0 : n0 ≤ h0.size) (O0 : Old Z n0 h0) (S3 : Sta Z Z.heap "java/lang/StringUTF16" "$assertionsDisabled" "Z" (.int (1 : Int32))) (S4 : Sta Z Z.heap "java/lang/StringUTF16" "HI_BYTE_SHIFT" "I" (.int (0 : Int32))) (S5 : Sta Z Z.heap "java/lang/StringUTF16" "LO_BYTE_SHIFT" "I" (.int (8 : Int32))) (Va : Arv Z h0 t kt .byte N2 vs (.int 0)) (hj : j = Int32.ofNat i) (hi : i < n) (hn : n ≤ 4000) (hN : N2 = Int32.ofNat (2 * n)) (he1 : vs.getD (2 * i) (.int 0) = .int (own_lo c)) (he2 : vs.getD (2 * i + 1) (.int 0) = .int (own_hi c)) (hcr : own_chr c) :
    MetFree l (⟨"java/lang/StringUTF16", "getChar", "([BI)C"⟩ : MethodName) (head1 (Jvm.Cond.code (⟨"java/lang/StringUTF16", "getChar", "([BI)C"⟩ : MethodName) jdk_52_method_5_code 2 (some .char) :: wsq) own_R_getCh) (fun aq Uq => aq = #[(.ref t), (.int j)] ∧ Z.Warmed39 Uq.vm ∧ Uq.heap = h0) (fun _ _ _ _ _ => True) (fun _ Uq oq Uq' => ∃ vq Lq, oq = .returned vq ∧ own_Q_getCh Z t kt N2 vs c j i n h0 n0 vq Uq'.heap Lq ∧ FrameEnd Uq oq Uq' Lq own_R_getCh.cells own_R_getCh.slots) := by
  refine MetFree.of_bodySF (plainFor_of_name own_pn3) hisR ?_
  intro p e s m args below meth cde s₁ Bd hml0 hP hK
  obtain ⟨rfl, hZ, hh⟩ := hP
  have hx := Bd.exec
  have hby := Bd.bytes
  have hml : cde.maxLocals = 2 := hml0
  have hown : s.vm.findClass "java/lang/StringUTF16" = some m.cls := findClass_of_methodNamed Bd.named
  have hnm := (name_of_methodNamed Bd.named Bd.method).1
  have X0 : Stand p l e own_R_getCh s m #[(.ref t), (.int j)] below meth cde s₁ [] 0 0 := Stand.of_body Bd
  have e0 : s₁.heap = h0 := by rw [← hh, Bd.state]; rfl
  have N0 := Fr.nil n0
  show own_Fin p e s below (own_Q_getCh Z t kt N2 vs c j i n h0 n0) own_R_getCh.cells own_R_getCh.slots s₁ (entryFrame m #[(.ref t), (.int j)] 2)
  rw [own_ef_getCh m t j]
  obtain ⟨T1_, X1_, e1_, st1_⟩ := getS2 X0 hx hZ hown (host := "") (Or.inl (own_w hw 130 rfl)) Via.refl e0 (S3.ext O0.2) (g := (mkF m 0 #[.val (.ref t), .val (.int j)] [])) rfl (hb hby own_d46)
  refine own_via (fun _ kq => st1_ _ kq) ?_
  show own_Fin _ _ _ _ _ _ _ T1_ (mkF m 3 #[.val (.ref t), .val (.int j)] [(.int (1 : Int32))])
  refine own_via (fun _ kq => XS.ifYes X1_.here hx rfl (pc0 := 3) (pc' := 28) rfl (hb hby own_d47) rfl ((if0 _ _).trans (feq (by decide)).2) (by decide) (by decide) kq) ?_
  show own_Fin _ _ _ _ _ _ _ T1_ (mkF m 28 #[.val (.ref t), .val (.int j)] [])
  refine own_via (fun _ kq => XS.iloadN X1_.here hx rfl (hb hby own_d48) rfl kq) ?_
  refine own_via (fun _ kq => XS.iconst X1_.here hx rfl (hb hby own_d49) kq) ?_
  refine own_via (fun _ kq => XS.ishl X1_.here hx rfl (hb hby own_d50) rfl kq) ?_
  refine own_via (fun _ kq => XS.istoreN X1_.here hx rfl (hb hby own_d51) rfl (l' := #[.val (.ref t), .val (.int (j <<< ((1 : Int32) &&& 31)))]) rfl kq) ?_
  refine own_via (fun _ kq => XS.aloadN X1_.here hx rfl (hb hby own_d52) rfl rfl kq) ?_
  refine own_via (fun _ kq => XS.iloadN X1_.here hx rfl (hb hby own_d53) rfl kq) ?_
  refine own_via (fun _ kq => XS.iinc X1_.here hx rfl (hb hby own_d54) rfl (l' := #[.val (.ref t), .val (.int ((j <<< ((1 : Int32) &&& 31)) + (1 : Int32)))]) rfl kq) ?_
  show own_Fin _ _ _ _ _ _ _ T1_ (mkF m 37 #[.val (.ref t), .val (.int ((j <<< ((1 : Int32) &&& 31)) + (1 : Int32)))] [(.int (j <<< ((1 : Int32) &&& 31))), (.ref t)])
  obtain ⟨c2_, Ar2_, q2_, S2_, M2_, H2_, G2_⟩ := (id Va)
  have hin2_ : ¬ ((j <<< ((1 : Int32) &&& 31)) < 0 ∨ c2_.slots.size ≤ ((j <<< ((1 : Int32) &&& 31))).toNatClampNeg) := inb_of S2_ (own_shin hj hN hi hn)
  have hat2_ : c2_.slots[((j <<< ((1 : Int32) &&& 31))).toNatClampNeg]? = some (.int (own_lo c)) := H2_.at hin2_ (by rw [own_sh1 hj (by omega)]; exact he1)
  refine own_via (fun _ kq => X1_.baloadBytes hx (j := (j <<< ((1 : Int32) &&& 31))) (v := (.int (own_lo c))) (own_eq e1_ Ar2_.1) (State.isArrayOf_alike hZ.alike Ar2_.2.1) Ar2_.2.2 hin2_ hat2_ (g := (mkF m 37 #[.val (.ref t), .val (.int ((j <<< ((1 : Int32) &&& 31)) + (1 : Int32)))] [(.int (j <<< ((1 : Int32) &&& 31))), (.ref t)])) rfl rfl (hb hby own_d55) _ kq) ?_
  show own_Fin _ _ _ _ _ _ _ T1_ (mkF m 38 #[.val (.ref t), .val (.int ((j <<< ((1 : Int32) &&& 31)) + (1 : Int32)))] [(.int (own_lo c))])
  refine own_via (fun _ kq => XS.sipush X1_.here hx rfl (hb hby own_d56) kq) ?_
  refine own_via (fun _ kq => XS.iand X1_.here hx rfl (hb hby own_d57) rfl kq) ?_
  show own_Fin _ _ _ _ _ _ _ T1_ (mkF m 42 #[.val (.ref t), .val (.int ((j <<< ((1 : Int32) &&& 31)) + (1 : Int32)))] [(.int ((own_lo c) &&& (255 : Int32)))])
  obtain ⟨T3_, X3_, e3_, st3_⟩ := getS2 X1_ hx hZ hown (host := "") (Or.inl (own_w hw 131 rfl)) Via.refl e1_ (S4.ext O0.2) (g := (mkF m 42 #[.val (.ref t), .val (.int ((j <<< ((1 : Int32) &&& 31)) + (1 : Int32)))] [(.int ((own_lo c) &&& (255 : Int32)))])) rfl (hb hby own_d58)
  refine own_via (fun _ kq => st3_ _ kq) ?_
  show own_Fin _ _ _ _ _ _ _ T3_ (mkF m 45 #[.val (.ref t), .val (.int ((j <<< ((1 : Int32) &&& 31)) + (1 : Int32)))] [(.int (0 : Int32)), (.int ((own_lo c) &&& (255 : Int32)))])
  refine own_via (fun _ kq => XS.ishl X3_.here hx rfl (hb hby own_d59) rfl kq) ?_
  refine own_via (fun _ kq => XS.aloadN X3_.here hx rfl (hb hby own_d60) rfl rfl kq) ?_
  refine own_via (fun _ kq => XS.iloadN X3_.here hx rfl (hb hby own_d61) rfl kq) ?_
  show own_Fin _ _ _ _ _ _ _ T3_ (mkF m 48 #[.val (.ref t), .val (.int ((j <<< ((1 : Int32) &&& 31)) + (1 : Int32)))] [(.int ((j <<< ((1 : Int32) &&& 31)) + (1 : Int32))), (.ref t), (.int (((own_lo c) &&& (255 : Int32)) <<< ((0 : Int32) &&& 31)))])
  obtain ⟨c4_, Ar4_, q4_, S4_, M4_, H4_, G4_⟩ := (id Va)
  have hin4_ : ¬ (((j <<< ((1 : Int32) &&& 31)) + (1 : Int32)) < 0 ∨ c4_.slots.size ≤ (((j <<< ((1 : Int32) &&& 31)) + (1 : Int32))).toNatClampNeg) := inb_of S4_ (own_shin2 hj hN hi hn)
  have hat4_ : c4_.slots[(((j <<< ((1 : Int32) &&& 31)) + (1 : Int32))).toNatClampNeg]? = some (.int (own_hi c)) := H4_.at hin4_ (by rw [own_sh2 hj (by omega)]; exact he2)
  refine own_via (fun _ kq => X3_.baloadBytes hx (j := ((j <<< ((1 : Int32) &&& 31)) + (1 : Int32))) (v := (.int (own_hi c))) (own_eq e3_ Ar4_.1) (State.isArrayOf_alike hZ.alike Ar4_.2.1) Ar4_.2.2 hin4_ hat4_ (g := (mkF m 48 #[.val (.ref t), .val (.int ((j <<< ((1 : Int32) &&& 31)) + (1 : Int32)))] [(.int ((j <<< ((1 : Int32) &&& 31)) + (1 : Int32))), (.ref t), (.int (((own_lo c) &&& (255 : Int32)) <<< ((0 : Int32) &&& 31)))])) rfl rfl (hb hby own_d62) _ kq) ?_
  show own_Fin _ _ _ _ _ _ _ T3_ (mkF m 49 #[.val (.ref t), .val (.int ((j <<< ((1 : Int32) &&& 31)) + (1 : Int32)))] [(.int (own_hi c)), (.int (((own_lo c) &&& (255 : Int32)) <<< ((0 : Int32) &&& 31)))])
  refine own_via (fun _ kq => XS.sipush X3_.here hx rfl (hb hby own_d63) kq) ?_
  refine own_via (fun _ kq => XS.iand X3_.here hx rfl (hb hby own_d64) rfl kq) ?_
  show own_Fin _ _ _ _ _ _ _ T3_ (mkF m 53 #[.val (.ref t), .val (.int ((j <<< ((1 : Int32) &&& 31)) + (1 : Int32)))] [(.int ((own_hi c) &&& (255 : Int32))), (.int (((own_lo c) &&& (255 : Int32)) <<< ((0 : Int32) &&& 31)))])
  obtain ⟨T5_, X5_, e5_, st5_⟩ := getS2 X3_ hx hZ hown (host := "") (Or.inl (own_w hw 132 rfl)) Via.refl e3_ (S5.ext O0.2) (g := (mkF m 53 #[.val (.ref t), .val (.int ((j <<< ((1 : Int32) &&& 31)) + (1 : Int32)))] [(.int ((own_hi c) &&& (255 : Int32))), (.int (((own_lo c) &&& (255 : Int32)) <<< ((0 : Int32) &&& 31)))])) rfl (hb hby own_d65)
  refine own_via (fun _ kq => st5_ _ kq) ?_
  show own_Fin _ _ _ _ _ _ _ T5_ (mkF m 56 #[.val (.ref t), .val (.int ((j <<< ((1 : Int32) &&& 31)) + (1 : Int32)))] [(.int (8 : Int32)), (.int ((own_hi c) &&& (255 : Int32))), (.int (((own_lo c) &&& (255 : Int32)) <<< ((0 : Int32) &&& 31)))])
  refine own_via (fun _ kq => XS.ishl X5_.here hx rfl (hb hby own_d66) rfl kq) ?_
  refine own_via (fun _ kq => XS.ior X5_.here hx rfl (hb hby own_d67) rfl kq) ?_
  refine own_via (fun _ kq => XS.i2c X5_.here hx rfl (hb hby own_d68) rfl kq) ?_
  show own_Fin _ _ _ _ _ _ _ T5_ (mkF m 59 #[.val (.ref t), .val (.int ((j <<< ((1 : Int32) &&& 31)) + (1 : Int32)))] [(.int (((((own_lo c) &&& (255 : Int32)) <<< ((0 : Int32) &&& 31)) ||| (((own_hi c) &&& (255 : Int32)) <<< ((8 : Int32) &&& 31))).toUInt32.toUInt16.toUInt32.toInt32))])
  exact own_retN X5_ hx (t := .char) Bd.returns Bd.notSynchronized (by simp) (hb hby own_d69) e5_ (own_getch hcr) ⟨rfl, N0, rfl⟩ (by decide) (by decide)
theorem own_d70 : decode jdk_52_method_21_code 0 = .ok (.iconst 0, 1) := by decide +kernel
theorem own_d71 : decode jdk_52_method_21_code 1 = .ok (.istore 5, 2) := by decide +kernel
theorem own_d72 : decode jdk_52_method_21_code 3 = .ok (.iload 5, 2) := by decide +kernel
theorem own_d73 : decode jdk_52_method_21_code 5 = .ok (.iload 4, 2) := by decide +kernel
theorem own_d74 : decode jdk_52_method_21_code 7 = .ok (.if_icmp .ge 37, 3) := by decide +kernel
theorem own_d75 : decode jdk_52_method_21_code 44 = .ok (.iload 4, 2) := by decide +kernel
theorem own_d76 : decode jdk_52_method_21_code 46 = .ok (.ireturn, 1) := by decide +kernel
theorem own_d77 : decode jdk_52_method_21_code 10 = .ok (.aload_n 0, 1) := by decide +kernel
theorem own_d78 : decode jdk_52_method_21_code 11 = .ok (.iload_n 1, 1) := by decide +kernel
theorem own_d79 : decode jdk_52_method_21_code 12 = .ok (.caload, 1) := by decide +kernel
theorem own_d80 : decode jdk_52_method_21_code 13 = .ok (.istore 6, 2) := by decide +kernel
theorem own_os_cmp5_13 {z0 : Value} {z1 : Value} {z2 : Value} {z3 : Value} {z4 : Value} {z5 : Value} {s6 : Slot} {v : Int32} (h : One s6) : storeLocals #[.val z0, .val z1, .val z2, .val z3, .val z4, .val z5, s6] 6 (.int v) = some #[.val z0, .val z1, .val z2, .val z3, .val z4, .val z5, .val (.int v)] := by
  rcases h with rfl | ⟨w, rfl, hw⟩
  · rfl
  · cases w <;> first | rfl | (simp [Value.category] at hw)
theorem own_d82 : decode jdk_52_method_21_code 15 = .ok (.iload 6, 2) := by decide +kernel
theorem own_d83 : decode jdk_52_method_21_code 17 = .ok (.sipush 255, 3) := by decide +kernel
theorem own_d84 : decode jdk_52_method_21_code 20 = .ok (.if_icmp .le 6, 3) := by decide +kernel
theorem own_d85 : decode jdk_52_method_21_code 23 = .ok (.iload 5, 2) := by decide +kernel
theorem own_d86 : decode jdk_52_method_21_code 25 = .ok (.ireturn, 1) := by decide +kernel
theorem own_d87 : decode jdk_52_method_21_code 26 = .ok (.aload_n 2, 1) := by decide +kernel
theorem own_d88 : decode jdk_52_method_21_code 27 = .ok (.iload_n 3, 1) := by decide +kernel
theorem own_d89 : decode jdk_52_method_21_code 28 = .ok (.iload 6, 2) := by decide +kernel
theorem own_d90 : decode jdk_52_method_21_code 30 = .ok (.i2b, 1) := by decide +kernel
theorem own_d91 : decode jdk_52_method_21_code 31 = .ok (.bastore, 1) := by decide +kernel
theorem own_d92 : decode jdk_52_method_21_code 32 = .ok (.iinc 1 1, 3) := by decide +kernel
theorem own_d93 : decode jdk_52_method_21_code 35 = .ok (.iinc 3 1, 3) := by decide +kernel
theorem own_d94 : decode jdk_52_method_21_code 38 = .ok (.iinc 5 1, 3) := by decide +kernel
theorem own_d95 : decode jdk_52_method_21_code 41 = .ok (.goto (-38), 3) := by decide +kernel
theorem own_ef_cmp5 (m : MethodId) (a : Addr) (b : Addr) (N : Int32) : entryFrame m #[(.ref a), (.int (0 : Int32)), (.ref b), (.int (0 : Int32)), (.int N)] 7 = mkF m 0 #[.val (.ref a), .val (.int (0 : Int32)), .val (.ref b), .val (.int (0 : Int32)), .val (.int N), .unset, .unset] [] := by (first | (simp [entryFrame, mkF, argsToLocals, Value.category]; done) | rfl)
def own_Q_cmp5 (Z : State) (a : Addr) (ka : ClassId) (N : Int32) (cs : List Int32) (b : Addr) (kb : ClassId) (bs : List Value) (h0 : Heap) (n0 : Nat) (vq : Option Value) (h : Heap) (Lq : List Loc) : Prop := ∃ (r : Int32) (ws : List Value), (vq = some (.int r)) ∧ (Fr n0 Lq) ∧ (Keep h0 h [b]) ∧ (Arv Z h b kb .byte N ws (.int 0)) ∧ (own_cmpd cs N r ws)
abbrev own_R_cmp5 : Room := { frames := 0, cells := 0, slots := 0, locals := 0 }
set_option maxRecDepth 65536 in
set_option maxHeartbeats 40000000 in
theorem own_rm_cmp5 (l : Launch) (Z : State) (a0 : Array Value) (hw : ∀ d ∈ tables_1, d.before a0 Z = true) (wsq : List Jvm.Cond) (a : Addr) (ka : ClassId) (N : Int32) (cs : List Int32) (b : Addr) (kb : ClassId) (bs : List Value) (h0 : Heap) (n0 : Nat) (Z0 : n0 ≤ h0.size) (Vc : Arv Z h0 a ka .char N (cs.map Value.int) (.int 0)) (Vb : Arv Z h0 b kb .byte N bs (.int 0)) (gb : n0 ≤ b) (hne : a ≠ b) (hbl : bs.length = cs.length) (hN : N = Int32.ofNat cs.length) (hn : cs.length ≤ 19) (hp : 0 < cs.length) (hr : own_chs cs) :
    MetFree l (⟨"java/lang/StringUTF16", "compress", "([CI[BII)I"⟩ : MethodName) (head1 (Jvm.Cond.code (⟨"java/lang/StringUTF16", "compress", "([CI[BII)I"⟩ : MethodName) jdk_52_method_21_code 7 (some .int) :: wsq) own_R_cmp5) (fun aq Uq => aq = #[(.ref a), (.int (0 : Int32)), (.ref b), (.int (0 : Int32)), (.int N)] ∧ Z.Warmed39 Uq.vm ∧ Uq.heap = h0) (fun _ _ _ _ _ => True) (fun _ Uq oq Uq' => ∃ vq Lq, oq = .returned vq ∧ own_Q_cmp5 Z a ka N cs b kb bs h0 n0 vq Uq'.heap Lq ∧ FrameEnd Uq oq Uq' Lq own_R_cmp5.cells own_R_cmp5.slots) := by
  refine MetFree.of_bodySF (plainFor_of_name own_pn3) hisR ?_
  intro p e s m args below meth cde s₁ Bd hml0 hP hK
  obtain ⟨rfl, hZ, hh⟩ := hP
  have hx := Bd.exec
  have hby := Bd.bytes
  have hml : cde.maxLocals = 7 := hml0
  have hown : s.vm.findClass "java/lang/StringUTF16" = some m.cls := findClass_of_methodNamed Bd.named
  have hnm := (name_of_methodNamed Bd.named Bd.method).1
  have X0 : Stand p l e own_R_cmp5 s m #[(.ref a), (.int (0 : Int32)), (.ref b), (.int (0 : Int32)), (.int N)] below meth cde s₁ [] 0 0 := Stand.of_body Bd
  have e0 : s₁.heap = h0 := by rw [← hh, Bd.state]; rfl
  have N0 := Fr.nil n0
  show own_Fin p e s below (own_Q_cmp5 Z a ka N cs b kb bs h0 n0) own_R_cmp5.cells own_R_cmp5.slots s₁ (entryFrame m #[(.ref a), (.int (0 : Int32)), (.ref b), (.int (0 : Int32)), (.int N)] 7)
  rw [own_ef_cmp5 m a b N]
  refine own_via (fun _ kq => XS.iconst X0.here hx rfl (hb hby own_d70) kq) ?_
  refine own_via (fun _ kq => XS.istore X0.here hx rfl (hb hby own_d71) rfl (l' := #[.val (.ref a), .val (.int (0 : Int32)), .val (.ref b), .val (.int (0 : Int32)), .val (.int N), .val (.int (0 : Int32)), .unset]) rfl kq) ?_
  have lp : ∀ (k : Nat) (i : Nat) (j : Int32) (ws : List Value) (s6 : Slot) (Tl : State) (locl : List Loc) (Xl : Stand p l e own_R_cmp5 s m #[(.ref a), (.int (0 : Int32)), (.ref b), (.int (0 : Int32)), (.int N)] below meth cde Tl locl (0) (0)) (Nl : Fr n0 locl) (hl : Heap) (el : Tl.heap = hl) (Kl : Keep h0 hl [b]) (Vl : Arv Z hl a ka .char N (cs.map Value.int) (.int 0)) (Vm : Arv Z hl b kb .byte N ws (.int 0)) (hs6 : One s6) (hj : j = Int32.ofNat i) (hi : i ≤ cs.length) (hk : cs.length ≤ i + k) (hwl : ws.length = cs.length) (hh_ : ∀ q, q < i → ws.getD q (.int 0) = .int (own_lo (cs.getD q 0)) ∧ ¬ (255 : Int32) < cs.getD q 0), own_Fin p e s below (own_Q_cmp5 Z a ka N cs b kb bs h0 n0) own_R_cmp5.cells own_R_cmp5.slots Tl (mkF m 3 #[.val (.ref a), .val (.int j), .val (.ref b), .val (.int j), .val (.int N), .val (.int j), s6] []) := by
   intro k
   induction k with
   | zero =>
    intro i j ws s6 Tl locl Xl Nl hl el Kl Vl Vm hs6 hj hi hk hwl hh_
    have Zl : n0 ≤ hl.size := Nat.le_trans Z0 Kl.1
    refine own_via (fun _ kq => XS.iload Xl.here hx rfl (hb hby own_d72) rfl kq) ?_
    refine own_via (fun _ kq => XS.iload Xl.here hx rfl (hb hby own_d73) rfl kq) ?_
    refine own_via (fun _ kq => XS.icmpYes Xl.here hx rfl (pc0 := 7) (pc' := 44) rfl (hb hby own_d74) rfl (flt (fun q => absurd ((own_ltN hj hN (by omega) (by omega)).mp q) (by omega))).2.1 (by decide) (by decide) kq) ?_
    show own_Fin _ _ _ _ _ _ _ Tl (mkF m 44 #[.val (.ref a), .val (.int j), .val (.ref b), .val (.int j), .val (.int N), .val (.int j), s6] [])
    refine own_via (fun _ kq => XS.iload Xl.here hx rfl (hb hby own_d75) rfl kq) ?_
    show own_Fin _ _ _ _ _ _ _ Tl (mkF m 46 #[.val (.ref a), .val (.int j), .val (.ref b), .val (.int j), .val (.int N), .val (.int j), s6] [(.int N)])
    exact own_retI Xl hx Bd.returns Bd.notSynchronized (hb hby own_d76) el rfl ⟨N, ws, rfl, Nl, Kl, Vm, (Or.inl ⟨rfl, fun q hq => hh_ q (by omega)⟩)⟩ (by decide) (by decide)
   | succ k ih =>
    intro i j ws s6 Tl locl Xl Nl hl el Kl Vl Vm hs6 hj hi hk hwl hh_
    have Zl : n0 ≤ hl.size := Nat.le_trans Z0 Kl.1
    refine own_via (fun _ kq => XS.iload Xl.here hx rfl (hb hby own_d72) rfl kq) ?_
    refine own_via (fun _ kq => XS.iload Xl.here hx rfl (hb hby own_d73) rfl kq) ?_
    rcases Classical.em (j < N) with hg | hg
    · refine own_via (fun _ kq => XS.icmpNo Xl.here hx rfl (hb hby own_d74) rfl (tlt hg).2.1 kq) ?_
      show own_Fin _ _ _ _ _ _ _ Tl (mkF m 10 #[.val (.ref a), .val (.int j), .val (.ref b), .val (.int j), .val (.int N), .val (.int j), s6] [])
      have hlt : i < cs.length := (own_ltN hj hN (by omega) (by omega)).mp hg
      refine own_via (fun _ kq => XS.aloadN Xl.here hx rfl (hb hby own_d77) rfl rfl kq) ?_
      refine own_via (fun _ kq => XS.iloadN Xl.here hx rfl (hb hby own_d78) rfl kq) ?_
      show own_Fin _ _ _ _ _ _ _ Tl (mkF m 12 #[.val (.ref a), .val (.int j), .val (.ref b), .val (.int j), .val (.int N), .val (.int j), s6] [(.int j), (.ref a)])
      obtain ⟨c1_, Ar1_, q1_, S1_, M1_, H1_, G1_⟩ := (id Vl)
      have hin1_ : ¬ (j < 0 ∨ c1_.slots.size ≤ (j).toNatClampNeg) := inb_of S1_ (own_inb hj hN hlt (by omega))
      have hat1_ : c1_.slots[(j).toNatClampNeg]? = some (.int (cs.getD i 0)) := H1_.at hin1_ (own_el hj (by omega))
      refine own_via (fun _ kq => Xl.caload hx (j := j) (v := (.int (cs.getD i 0))) (own_eq el Ar1_.1) (State.isArrayOf_alike hZ.alike Ar1_.2.1) Ar1_.2.2 hin1_ hat1_ (g := (mkF m 12 #[.val (.ref a), .val (.int j), .val (.ref b), .val (.int j), .val (.int N), .val (.int j), s6] [(.int j), (.ref a)])) rfl rfl (hb hby own_d79) _ kq) ?_
      show own_Fin _ _ _ _ _ _ _ Tl (mkF m 13 #[.val (.ref a), .val (.int j), .val (.ref b), .val (.int j), .val (.int N), .val (.int j), s6] [(.int (cs.getD i 0))])
      refine own_via (fun _ kq => XS.istore Xl.here hx rfl (hb hby own_d80) rfl (l' := #[.val (.ref a), .val (.int j), .val (.ref b), .val (.int j), .val (.int N), .val (.int j), .val (.int (cs.getD i 0))]) (own_os_cmp5_13 hs6) kq) ?_
      refine own_via (fun _ kq => XS.iload Xl.here hx rfl (hb hby own_d82) rfl kq) ?_
      refine own_via (fun _ kq => XS.sipush Xl.here hx rfl (hb hby own_d83) kq) ?_
      rcases Classical.em ((255 : Int32) < (cs.getD i 0)) with he | he
      · refine own_via (fun _ kq => XS.icmpNo Xl.here hx rfl (hb hby own_d84) rfl (tlt he).2.2.2 kq) ?_
        show own_Fin _ _ _ _ _ _ _ Tl (mkF m 23 #[.val (.ref a), .val (.int j), .val (.ref b), .val (.int j), .val (.int N), .val (.int j), .val (.int (cs.getD i 0))] [])
        refine own_via (fun _ kq => XS.iload Xl.here hx rfl (hb hby own_d85) rfl kq) ?_
        show own_Fin _ _ _ _ _ _ _ Tl (mkF m 25 #[.val (.ref a), .val (.int j), .val (.ref b), .val (.int j), .val (.int N), .val (.int j), .val (.int (cs.getD i 0))] [(.int j)])
        exact own_retI Xl hx Bd.returns Bd.notSynchronized (hb hby own_d86) el rfl ⟨j, ws, rfl, Nl, Kl, Vm, (Or.inr ⟨i, hlt, hj, he⟩)⟩ (by decide) (by decide)
      · refine own_via (fun _ kq => XS.icmpYes Xl.here hx rfl (pc0 := 20) (pc' := 26) rfl (hb hby own_d84) rfl (flt he).2.2.2 (by decide) (by decide) kq) ?_
        show own_Fin _ _ _ _ _ _ _ Tl (mkF m 26 #[.val (.ref a), .val (.int j), .val (.ref b), .val (.int j), .val (.int N), .val (.int j), .val (.int (cs.getD i 0))] [])
        refine own_via (fun _ kq => XS.aloadN Xl.here hx rfl (hb hby own_d87) rfl rfl kq) ?_
        refine own_via (fun _ kq => XS.iloadN Xl.here hx rfl (hb hby own_d88) rfl kq) ?_
        refine own_via (fun _ kq => XS.iload Xl.here hx rfl (hb hby own_d89) rfl kq) ?_
        refine own_via (fun _ kq => XS.i2b Xl.here hx rfl (hb hby own_d90) rfl kq) ?_
        show own_Fin _ _ _ _ _ _ _ Tl (mkF m 31 #[.val (.ref a), .val (.int j), .val (.ref b), .val (.int j), .val (.int N), .val (.int j), .val (.int (cs.getD i 0))] [(.int ((cs.getD i 0).toInt8.toInt32)), (.int j), (.ref b)])
        obtain ⟨c2_, Ar2_, q2_, S2_, M2_, H2_, G2_⟩ := (id Vm)
        have hin2_ : ¬ (j < 0 ∨ c2_.slots.size ≤ (j).toNatClampNeg) := inb_of S2_ (own_inb hj hN hlt (by omega))
        obtain ⟨T2_, h2_, X2_, e2_, W2_, st2_⟩ := stB Xl hx hZ el Ar2_ (j := j) hin2_ (g := (mkF m 31 #[.val (.ref a), .val (.int j), .val (.ref b), .val (.int j), .val (.int N), .val (.int j), .val (.int (cs.getD i 0))] [(.int ((cs.getD i 0).toInt8.toInt32)), (.int j), (.ref b)])) rfl rfl (hb hby own_d91)
        have V2_ := Arv.set Ar2_ q2_ S2_ M2_ H2_ G2_ (fits_nar_byte _) W2_ i (own_clamp hj (by omega)) (by omega)
        have U2_ : Arv Z h2_ b kb .byte N ((ws).set i (.int (own_lo (cs.getD i 0)))) (.int 0) := by
          have hq := V2_
          rw [show ((cs.getD i 0).toInt8.toInt32).toInt8.toInt32 = (own_lo (cs.getD i 0)) from (own_st1 _)] at hq
          exact hq
        have N2_ := Fr.snoc X2_ Nl gb
        refine own_via (fun _ kq => st2_ _ kq) ?_
        show own_Fin _ _ _ _ _ _ _ T2_ (mkF m 32 #[.val (.ref a), .val (.int j), .val (.ref b), .val (.int j), .val (.int N), .val (.int j), .val (.int (cs.getD i 0))] [])
        refine own_via (fun _ kq => XS.iinc X2_.here hx rfl (hb hby own_d92) rfl (l' := #[.val (.ref a), .val (.int (j + (1 : Int32))), .val (.ref b), .val (.int j), .val (.int N), .val (.int j), .val (.int (cs.getD i 0))]) rfl kq) ?_
        refine own_via (fun _ kq => XS.iinc X2_.here hx rfl (hb hby own_d93) rfl (l' := #[.val (.ref a), .val (.int (j + (1 : Int32))), .val (.ref b), .val (.int (j + (1 : Int32))), .val (.int N), .val (.int j), .val (.int (cs.getD i 0))]) rfl kq) ?_
        refine own_via (fun _ kq => XS.iinc X2_.here hx rfl (hb hby own_d94) rfl (l' := #[.val (.ref a), .val (.int (j + (1 : Int32))), .val (.ref b), .val (.int (j + (1 : Int32))), .val (.int N), .val (.int (j + (1 : Int32))), .val (.int (cs.getD i 0))]) rfl kq) ?_
        refine own_via (fun _ kq => XS.goto X2_.here hx rfl (pc0 := 41) (pc' := 3) rfl (hb hby own_d95) (by decide) (by decide) kq) ?_
        exact ih (i + 1) (j + (1 : Int32)) ((ws).set i (.int (own_lo (cs.getD i 0)))) _ T2_ _ X2_ N2_ _ e2_ (Kl.wr W2_ (Or.inl (List.mem_of_getElem? (i := 0) rfl))) (Vl.other W2_ hne) U2_ own_one (own_succ hj) (by omega) (by omega) (by rw [List.length_set]; exact hwl) (own_setn hh_ (by omega) he)
    · refine own_via (fun _ kq => XS.icmpYes Xl.here hx rfl (pc0 := 7) (pc' := 44) rfl (hb hby own_d74) rfl (flt hg).2.1 (by decide) (by decide) kq) ?_
      show own_Fin _ _ _ _ _ _ _ Tl (mkF m 44 #[.val (.ref a), .val (.int j), .val (.ref b), .val (.int j), .val (.int N), .val (.int j), s6] [])
      have hge : cs.length ≤ i := Nat.le_of_not_lt fun q => hg ((own_ltN hj hN (by omega) (by omega)).mpr q)
      refine own_via (fun _ kq => XS.iload Xl.here hx rfl (hb hby own_d75) rfl kq) ?_
      show own_Fin _ _ _ _ _ _ _ Tl (mkF m 46 #[.val (.ref a), .val (.int j), .val (.ref b), .val (.int j), .val (.int N), .val (.int j), s6] [(.int N)])
      exact own_retI Xl hx Bd.returns Bd.notSynchronized (hb hby own_d76) el rfl ⟨N, ws, rfl, Nl, Kl, Vm, (Or.inl ⟨rfl, fun q hq => hh_ q (by omega)⟩)⟩ (by decide) (by decide)
  exact lp cs.length 0 (0 : Int32) bs .unset s₁ _ X0 N0 _ e0 (Keep.refl h0 [b]) Vc Vb (Or.inl rfl) rfl (by omega) (by omega) hbl (fun q hq => absurd hq (Nat.not_lt_zero q))
theorem own_d96 : decode jdk_52_method_3_code 0 = .ok (.iload_n 0, 1) := by decide +kernel
theorem own_d97 : decode jdk_52_method_3_code 1 = .ok (.ifCond .ge 11, 3) := by decide +kernel
theorem own_d98 : decode jdk_52_method_3_code 12 = .ok (.iload_n 0, 1) := by decide +kernel
theorem own_d99 : decode jdk_52_method_3_code 13 = .ok (.ldc 20, 2) := by decide +kernel
theorem own_d100 : decode jdk_52_method_3_code 15 = .ok (.if_icmp .lt 40, 3) := by decide +kernel
theorem own_d101 : decode jdk_52_method_3_code 55 = .ok (.iload_n 0, 1) := by decide +kernel
theorem own_d102 : decode jdk_52_method_3_code 56 = .ok (.iconst 1, 1) := by decide +kernel
theorem own_d103 : decode jdk_52_method_3_code 57 = .ok (.ishl, 1) := by decide +kernel
theorem own_d104 : decode jdk_52_method_3_code 58 = .ok (.ireturn, 1) := by decide +kernel
theorem own_ef_nbl (m : MethodId) (j : Int32) : entryFrame m #[(.int j)] 1 = mkF m 0 #[.val (.int j)] [] := by (first | (simp [entryFrame, mkF, argsToLocals, Value.category]; done) | rfl)
def own_Q_nbl (Z : State) (j : Int32) (n : Nat) (h0 : Heap) (n0 : Nat) (vq : Option Value) (h : Heap) (Lq : List Loc) : Prop := (vq = some (.int (Int32.ofNat (2 * n)))) ∧ (Fr n0 Lq) ∧ (h = h0)
abbrev own_R_nbl : Room := { frames := 0, cells := 0, slots := 0, locals := 0 }
set_option maxRecDepth 65536 in
set_option maxHeartbeats 40000000 in
theorem own_rm_nbl (l : Launch) (Z : State) (a0 : Array Value) (hw : ∀ d ∈ tables_1, d.before a0 Z = true) (wsq : List Jvm.Cond) (j : Int32) (n : Nat) (h0 : Heap) (n0 : Nat) (Z0 : n0 ≤ h0.size) (hj : j = Int32.ofNat n) (hn : n ≤ 19) :
    MetFree l (⟨"java/lang/StringUTF16", "newBytesLength", "(I)I"⟩ : MethodName) (head1 (Jvm.Cond.code (⟨"java/lang/StringUTF16", "newBytesLength", "(I)I"⟩ : MethodName) jdk_52_method_3_code 1 (some .int) :: wsq) own_R_nbl) (fun aq Uq => aq = #[(.int j)] ∧ Z.Warmed39 Uq.vm ∧ Uq.heap = h0) (fun _ _ _ _ _ => True) (fun _ Uq oq Uq' => ∃ vq Lq, oq = .returned vq ∧ own_Q_nbl Z j n h0 n0 vq Uq'.heap Lq ∧ FrameEnd Uq oq Uq' Lq own_R_nbl.cells own_R_nbl.slots) := by
  refine MetFree.of_bodySF (plainFor_of_name own_pn3) hisR ?_
  intro p e s m args below meth cde s₁ Bd hml0 hP hK
  obtain ⟨rfl, hZ, hh⟩ := hP
  have hx := Bd.exec
  have hby := Bd.bytes
  have hml : cde.maxLocals = 1 := hml0
  have hown : s.vm.findClass "java/lang/StringUTF16" = some m.cls := findClass_of_methodNamed Bd.named
  have hnm := (name_of_methodNamed Bd.named Bd.method).1
  have X0 : Stand p l e own_R_nbl s m #[(.int j)] below meth cde s₁ [] 0 0 := Stand.of_body Bd
  have e0 : s₁.heap = h0 := by rw [← hh, Bd.state]; rfl
  have N0 := Fr.nil n0
  show own_Fin p e s below (own_Q_nbl Z j n h0 n0) own_R_nbl.cells own_R_nbl.slots s₁ (entryFrame m #[(.int j)] 1)
  rw [own_ef_nbl m j]
  refine own_via (fun _ kq => XS.iloadN X0.here hx rfl (hb hby own_d96) rfl kq) ?_
  refine own_via (fun _ kq => XS.ifYes X0.here hx rfl (pc0 := 1) (pc' := 12) rfl (hb hby own_d97) rfl ((if0 _ _).trans (flt (own_nneg hj (by omega))).2.1) (by decide) (by decide) kq) ?_
  show own_Fin _ _ _ _ _ _ _ s₁ (mkF m 12 #[.val (.int j)] [])
  refine own_via (fun _ kq => XS.iloadN X0.here hx rfl (hb hby own_d98) rfl kq) ?_
  show own_Fin _ _ _ _ _ _ _ s₁ (mkF m 13 #[.val (.int j)] [(.int j)])
  refine own_via (fun _ kq => X0.ldcInt hx hown (mvT hZ (own_w hw 126 rfl)) (g := (mkF m 13 #[.val (.int j)] [(.int j)])) rfl (hb hby own_d99) _ kq) ?_
  show own_Fin _ _ _ _ _ _ _ s₁ (mkF m 15 #[.val (.int j)] [(.int (1073741823 : Int32)), (.int j)])
  refine own_via (fun _ kq => XS.icmpYes X0.here hx rfl (pc0 := 15) (pc' := 55) rfl (hb hby own_d100) rfl (tlt (own_small hj (by omega))).1 (by decide) (by decide) kq) ?_
  show own_Fin _ _ _ _ _ _ _ s₁ (mkF m 55 #[.val (.int j)] [])
  refine own_via (fun _ kq => XS.iloadN X0.here hx rfl (hb hby own_d101) rfl kq) ?_
  refine own_via (fun _ kq => XS.iconst X0.here hx rfl (hb hby own_d102) kq) ?_
  refine own_via (fun _ kq => XS.ishl X0.here hx rfl (hb hby own_d103) rfl kq) ?_
  show own_Fin _ _ _ _ _ _ _ s₁ (mkF m 58 #[.val (.int j)] [(.int (j <<< ((1 : Int32) &&& 31)))])
  exact own_retI X0 hx Bd.returns Bd.notSynchronized (hb hby own_d104) e0 (own_dbl2 hj (by omega)) ⟨rfl, N0, rfl⟩ (by decide) (by decide)
theorem own_d105 : decode jdk_52_method_2_code 0 = .ok (.iload_n 0, 1) := by decide +kernel
theorem own_d106 : decode jdk_52_method_2_code 1 = .ok (.invokestatic 11, 3) := by decide +kernel
theorem own_pd3 : parseMethodDescriptor "(I)I" = some ⟨[.int], some .int⟩ := by decide +kernel
theorem own_d107 : decode jdk_52_method_2_code 4 = .ok (.newarray .byte, 2) := by decide +kernel
theorem own_d108 : decode jdk_52_method_2_code 6 = .ok (.areturn, 1) := by decide +kernel
theorem own_ef_nbf (m : MethodId) (j : Int32) : entryFrame m #[(.int j)] 1 = mkF m 0 #[.val (.int j)] [] := by (first | (simp [entryFrame, mkF, argsToLocals, Value.category]; done) | rfl)
def own_Q_nbf (Z : State) (j : Int32) (n : Nat) (h0 : Heap) (n0 : Nat) (vq : Option Value) (h : Heap) (Lq : List Loc) : Prop := ∃ (t : Addr) (kt : ClassId), (vq = some (.ref t)) ∧ (Fr n0 Lq) ∧ (Keep h0 h []) ∧ (h0.size ≤ t) ∧ (Arv Z h t kt .byte (Int32.ofNat (2 * n)) (List.replicate (2 * n) (.int 0)) (.int 0))
abbrev own_R_nbf : Room := { frames := 1, cells := 1, slots := 38, locals := 12 }
set_option maxRecDepth 65536 in
set_option maxHeartbeats 40000000 in
theorem own_rm_nbf (l : Launch) (Z : State) (a0 : Array Value) (hw : ∀ d ∈ tables_1, d.before a0 Z = true) (wsq : List Jvm.Cond) (j : Int32) (n : Nat) (h0 : Heap) (n0 : Nat) (Z0 : n0 ≤ h0.size) (hj : j = Int32.ofNat n) (hn : n ≤ 19) :
    MetFree l (⟨"java/lang/StringUTF16", "newBytesFor", "(I)[B"⟩ : MethodName) (head1 (Jvm.Cond.code (⟨"java/lang/StringUTF16", "newBytesFor", "(I)[B"⟩ : MethodName) jdk_52_method_2_code 1 (some (.array .byte)) :: wsq) own_R_nbf) (fun aq Uq => aq = #[(.int j)] ∧ Z.Warmed39 Uq.vm ∧ Uq.heap = h0) (fun _ _ _ _ _ => True) (fun _ Uq oq Uq' => ∃ vq Lq, oq = .returned vq ∧ own_Q_nbf Z j n h0 n0 vq Uq'.heap Lq ∧ FrameEnd Uq oq Uq' Lq own_R_nbf.cells own_R_nbf.slots) := by
  refine MetFree.of_bodySF (plainFor_of_name own_pn3) hisR ?_
  intro p e s m args below meth cde s₁ Bd hml0 hP hK
  obtain ⟨rfl, hZ, hh⟩ := hP
  have hx := Bd.exec
  have hby := Bd.bytes
  have hml : cde.maxLocals = 1 := hml0
  have hown : s.vm.findClass "java/lang/StringUTF16" = some m.cls := findClass_of_methodNamed Bd.named
  have hnm := (name_of_methodNamed Bd.named Bd.method).1
  have X0 : Stand p l e own_R_nbf s m #[(.int j)] below meth cde s₁ [] 0 0 := Stand.of_body Bd
  have e0 : s₁.heap = h0 := by rw [← hh, Bd.state]; rfl
  have N0 := Fr.nil n0
  show own_Fin p e s below (own_Q_nbf Z j n h0 n0) own_R_nbf.cells own_R_nbf.slots s₁ (entryFrame m #[(.int j)] 1)
  rw [own_ef_nbf m j]
  refine own_via (fun _ kq => XS.iloadN X0.here hx rfl (hb hby own_d105) rfl kq) ?_
  show own_Fin _ _ _ _ _ _ _ s₁ (mkF m 1 #[.val (.int j)] [(.int j)])
  obtain ⟨_, _, ⟨T1_, L1_, k1_, n1_⟩, -, X1_, ⟨Lc1_, hQ1_, l1_, y1_, z1_⟩, st1_⟩ := Jvm.LawKit.callS X0 hx (y := (⟨"java/lang/StringUTF16", "newBytesLength", "(I)I"⟩ : MethodName)) hown (mvT hZ (own_w hw 123 rfl)) (mvT hZ (own_w hw 124 rfl)) (mvT hZ (own_w hw 63 rfl)) (mvT hZ (own_w hw 125 rfl)) (by decide) (backOf (W := 0) (own_rm_nbl l Z a0 hw [] j n h0 n0 Z0 hj hn) hZ (own_w hw 125 rfl) (own_w hw 63 rfl) (by decide) (by decide)) (g := (mkF m 1 #[.val (.int j)] [(.int j)])) rfl (by rw [hml]; rfl) (argsL := [(.int j)]) (rest := []) (lenOf own_pd3 rfl) rfl (by show 2 * 0 + _ ≤ _; exact Nat.le_of_eq rfl) (hb hby own_d106) (fun _ _ => ⟨rfl, e0, (by decide : 0 + 0 ≤ _), (by decide : 0 + 0 ≤ _)⟩)
  dsimp only [Pt.U, Pt.locs, Pt.cells, Pt.slots] at X1_ l1_ y1_ z1_ st1_ hQ1_
  subst l1_ y1_ z1_
  obtain ⟨rfl, Nq1_, hh1_⟩ := hQ1_
  have N1_ := Fr.app N0 Nq1_
  refine own_via (fun _ kq => st1_ _ kq) ?_
  show own_Fin _ _ _ _ _ _ _ T1_ (mkF m 4 #[.val (.int j)] [(.int (Int32.ofNat (2 * n)))])
  obtain ⟨T2_, h2_, k2_, X2_, e2_, E2_, A2_, st2_⟩ := newP X1_ hx hZ (own_w hw 3 rfl) hh1_ (g := (mkF m 4 #[.val (.int j)] [(.int (Int32.ofNat (2 * n)))])) rfl (hb hby own_d107) rfl (own_nneg rfl (by omega)) (cap := 38) (by rw [own_clamp rfl (by omega)]; omega) (by decide) (by decide) (by decide)
  obtain ⟨b2_, g2_⟩ : ∃ z, z = h0.size := ⟨_, rfl⟩
  rw [← g2_] at A2_ st2_
  have V2_ : Arv Z h2_ b2_ k2_ .byte (Int32.ofNat (2 * n)) (List.replicate (2 * n) (.int (0 : Int32))) (.int (0 : Int32)) := (Arv.new A2_ (own_nneg rfl (by omega))).pad (pad_rep [] (.int (0 : Int32)) (2 * n))
  refine own_via (fun _ kq => st2_ _ kq) ?_
  show own_Fin _ _ _ _ _ _ _ T2_ (mkF m 6 #[.val (.int j)] [(.ref b2_)])
  exact own_retA X2_ hx Bd.returns Bd.notSynchronized rfl rfl (hb hby own_d108) e2_ ⟨b2_, k2_, rfl, N1_, ((Keep.refl h0 []).ext E2_), (Nat.le_of_eq g2_.symm), V2_⟩ (by decide) (by decide)
theorem own_d109 : decode jdk_52_method_4_code 0 = .ok (.getstatic 44, 3) := by decide +kernel
theorem own_d110 : decode jdk_52_method_4_code 3 = .ok (.ifCond .ne 25, 3) := by decide +kernel
theorem own_d111 : decode jdk_52_method_4_code 28 = .ok (.iload_n 1, 1) := by decide +kernel
theorem own_d112 : decode jdk_52_method_4_code 29 = .ok (.iconst 1, 1) := by decide +kernel
theorem own_d113 : decode jdk_52_method_4_code 30 = .ok (.ishl, 1) := by decide +kernel
theorem own_d114 : decode jdk_52_method_4_code 31 = .ok (.istore_n 1, 1) := by decide +kernel
theorem own_d115 : decode jdk_52_method_4_code 32 = .ok (.aload_n 0, 1) := by decide +kernel
theorem own_d116 : decode jdk_52_method_4_code 33 = .ok (.iload_n 1, 1) := by decide +kernel
theorem own_d117 : decode jdk_52_method_4_code 34 = .ok (.iinc 1 1, 3) := by decide +kernel
theorem own_d118 : decode jdk_52_method_4_code 37 = .ok (.iload_n 2, 1) := by decide +kernel
theorem own_d119 : decode jdk_52_method_4_code 38 = .ok (.getstatic 59, 3) := by decide +kernel
theorem own_d120 : decode jdk_52_method_4_code 41 = .ok (.ishr, 1) := by decide +kernel
theorem own_d121 : decode jdk_52_method_4_code 42 = .ok (.i2b, 1) := by decide +kernel
theorem own_d122 : decode jdk_52_method_4_code 43 = .ok (.bastore, 1) := by decide +kernel
theorem own_d123 : decode jdk_52_method_4_code 44 = .ok (.aload_n 0, 1) := by decide +kernel
theorem own_d124 : decode jdk_52_method_4_code 45 = .ok (.iload_n 1, 1) := by decide +kernel
theorem own_d125 : decode jdk_52_method_4_code 46 = .ok (.iload_n 2, 1) := by decide +kernel
theorem own_d126 : decode jdk_52_method_4_code 47 = .ok (.getstatic 63, 3) := by decide +kernel
theorem own_d127 : decode jdk_52_method_4_code 50 = .ok (.ishr, 1) := by decide +kernel
theorem own_d128 : decode jdk_52_method_4_code 51 = .ok (.i2b, 1) := by decide +kernel
theorem own_d129 : decode jdk_52_method_4_code 52 = .ok (.bastore, 1) := by decide +kernel
theorem own_d130 : decode jdk_52_method_4_code 53 = .ok (.return_, 1) := by decide +kernel
theorem own_ef_putCh (m : MethodId) (t : Addr) (j : Int32) (c : Int32) : entryFrame m #[(.ref t), (.int j), (.int c)] 3 = mkF m 0 #[.val (.ref t), .val (.int j), .val (.int c)] [] := by (first | (simp [entryFrame, mkF, argsToLocals, Value.category]; done) | rfl)
def own_Q_putCh (Z : State) (t : Addr) (kt : ClassId) (N2 : Int32) (ws : List Value) (c : Int32) (j : Int32) (i : Nat) (n : Nat) (h0 : Heap) (n0 : Nat) (vq : Option Value) (h : Heap) (Lq : List Loc) : Prop := (vq = none) ∧ (Fr n0 Lq) ∧ (Keep h0 h [t]) ∧ (Arv Z h t kt .byte N2 ((ws.set (2 * i) (.int (own_lo c))).set (2 * i + 1) (.int (own_hi c))) (.int 0))
abbrev own_R_putCh : Room := { frames := 0, cells := 0, slots := 0, locals := 0 }
set_option maxRecDepth 65536 in
set_option maxHeartbeats 40000000 in
theorem own_rm_putCh (l : Launch) (Z : State) (a0 : Array Value) (hw : ∀ d ∈ tables_1, d.before a0 Z = true) (wsq : List Jvm.Cond) (t : Addr) (kt : ClassId) (N2 : Int32) (ws : List Value) (c : Int32) (j : Int32) (i : Nat) (n : Nat) (h0 : Heap) (n0 : Nat) (Z0 : n0 ≤ h0.size) (O0 : Old Z n0 h0) (S3 : Sta Z Z.heap "java/lang/StringUTF16" "$assertionsDisabled" "Z" (.int (1 : Int32))) (S4 : Sta Z Z.heap "java/lang/StringUTF16" "HI_BYTE_SHIFT" "I" (.int (0 : Int32))) (S5 : Sta Z Z.heap "java/lang/StringUTF16" "LO_BYTE_SHIFT" "I" (.int (8 : Int32))) (Va : Arv Z h0 t kt .byte N2 ws (.int 0)) (gt : n0 ≤ t) (hj : j = Int32.ofNat i) (hi : i < n) (hn : n ≤ 4000) (hN : N2 = Int32.ofNat (2 * n)) (hwl : ws.length = 2 * n) :
    MetFree l (⟨"java/lang/StringUTF16", "putChar", "([BII)V"⟩ : MethodName) (head1 (Jvm.Cond.code (⟨"java/lang/StringUTF16", "putChar", "([BII)V"⟩ : MethodName) jdk_52_method_4_code 3 none :: wsq) own_R_putCh) (fun aq Uq => aq = #[(.ref t), (.int j), (.int c)] ∧ Z.Warmed39 Uq.vm ∧ Uq.heap = h0) (fun _ _ _ _ _ => True) (fun _ Uq oq Uq' => ∃ vq Lq, oq = .returned vq ∧ own_Q_putCh Z t kt N2 ws c j i n h0 n0 vq Uq'.heap Lq ∧ FrameEnd Uq oq Uq' Lq own_R_putCh.cells own_R_putCh.slots) := by
  refine MetFree.of_bodySF (plainFor_of_name own_pn3) hisR ?_
  intro p e s m args below meth cde s₁ Bd hml0 hP hK
  obtain ⟨rfl, hZ, hh⟩ := hP
  have hx := Bd.exec
  have hby := Bd.bytes
  have hml : cde.maxLocals = 3 := hml0
  have hown : s.vm.findClass "java/lang/StringUTF16" = some m.cls := findClass_of_methodNamed Bd.named
  have hnm := (name_of_methodNamed Bd.named Bd.method).1
  have X0 : Stand p l e own_R_putCh s m #[(.ref t), (.int j), (.int c)] below meth cde s₁ [] 0 0 := Stand.of_body Bd
  have e0 : s₁.heap = h0 := by rw [← hh, Bd.state]; rfl
  have N0 := Fr.nil n0
  show own_Fin p e s below (own_Q_putCh Z t kt N2 ws c j i n h0 n0) own_R_putCh.cells own_R_putCh.slots s₁ (entryFrame m #[(.ref t), (.int j), (.int c)] 3)
  rw [own_ef_putCh m t j c]
  obtain ⟨T1_, X1_, e1_, st1_⟩ := getS2 X0 hx hZ hown (host := "") (Or.inl (own_w hw 130 rfl)) Via.refl e0 (S3.ext O0.2) (g := (mkF m 0 #[.val (.ref t), .val (.int j), .val (.int c)] [])) rfl (hb hby own_d109)
  refine own_via (fun _ kq => st1_ _ kq) ?_
  show own_Fin _ _ _ _ _ _ _ T1_ (mkF m 3 #[.val (.ref t), .val (.int j), .val (.int c)] [(.int (1 : Int32))])
  refine own_via (fun _ kq => XS.ifYes X1_.here hx rfl (pc0 := 3) (pc' := 28) rfl (hb hby own_d110) rfl ((if0 _ _).trans (feq (by decide)).2) (by decide) (by decide) kq) ?_
  show own_Fin _ _ _ _ _ _ _ T1_ (mkF m 28 #[.val (.ref t), .val (.int j), .val (.int c)] [])
  refine own_via (fun _ kq => XS.iloadN X1_.here hx rfl (hb hby own_d111) rfl kq) ?_
  refine own_via (fun _ kq => XS.iconst X1_.here hx rfl (hb hby own_d112) kq) ?_
  refine own_via (fun _ kq => XS.ishl X1_.here hx rfl (hb hby own_d113) rfl kq) ?_
  refine own_via (fun _ kq => XS.istoreN X1_.here hx rfl (hb hby own_d114) rfl (l' := #[.val (.ref t), .val (.int (j <<< ((1 : Int32) &&& 31))), .val (.int c)]) rfl kq) ?_
  refine own_via (fun _ kq => XS.aloadN X1_.here hx rfl (hb hby own_d115) rfl rfl kq) ?_
  refine own_via (fun _ kq => XS.iloadN X1_.here hx rfl (hb hby own_d116) rfl kq) ?_
  refine own_via (fun _ kq => XS.iinc X1_.here hx rfl (hb hby own_d117) rfl (l' := #[.val (.ref t), .val (.int ((j <<< ((1 : Int32) &&& 31)) + (1 : Int32))), .val (.int c)]) rfl kq) ?_
  refine own_via (fun _ kq => XS.iloadN X1_.here hx rfl (hb hby own_d118) rfl kq) ?_
  show own_Fin _ _ _ _ _ _ _ T1_ (mkF m 38 #[.val (.ref t), .val (.int ((j <<< ((1 : Int32) &&& 31)) + (1 : Int32))), .val (.int c)] [(.int c), (.int (j <<< ((1 : Int32) &&& 31))), (.ref t)])
  obtain ⟨T2_, X2_, e2_, st2_⟩ := getS2 X1_ hx hZ hown (host := "") (Or.inl (own_w hw 131 rfl)) Via.refl e1_ (S4.ext O0.2) (g := (mkF m 38 #[.val (.ref t), .val (.int ((j <<< ((1 : Int32) &&& 31)) + (1 : Int32))), .val (.int c)] [(.int c), (.int (j <<< ((1 : Int32) &&& 31))), (.ref t)])) rfl (hb hby own_d119)
  refine own_via (fun _ kq => st2_ _ kq) ?_
  show own_Fin _ _ _ _ _ _ _ T2_ (mkF m 41 #[.val (.ref t), .val (.int ((j <<< ((1 : Int32) &&& 31)) + (1 : Int32))), .val (.int c)] [(.int (0 : Int32)), (.int c), (.int (j <<< ((1 : Int32) &&& 31))), (.ref t)])
  refine own_via (fun _ kq => XS.ishr X2_.here hx rfl (hb hby own_d120) rfl kq) ?_
  refine own_via (fun _ kq => XS.i2b X2_.here hx rfl (hb hby own_d121) rfl kq) ?_
  show own_Fin _ _ _ _ _ _ _ T2_ (mkF m 43 #[.val (.ref t), .val (.int ((j <<< ((1 : Int32) &&& 31)) + (1 : Int32))), .val (.int c)] [(.int ((c >>> ((0 : Int32) &&& 31)).toInt8.toInt32)), (.int (j <<< ((1 : Int32) &&& 31))), (.ref t)])
  obtain ⟨c3_, Ar3_, q3_, S3_, M3_, H3_, G3_⟩ := (id Va)
  have hin3_ : ¬ ((j <<< ((1 : Int32) &&& 31)) < 0 ∨ c3_.slots.size ≤ ((j <<< ((1 : Int32) &&& 31))).toNatClampNeg) := inb_of S3_ (own_shin hj hN hi hn)
  obtain ⟨T3_, h3_, X3_, e3_, W3_, st3_⟩ := stB X2_ hx hZ e2_ Ar3_ (j := (j <<< ((1 : Int32) &&& 31))) hin3_ (g := (mkF m 43 #[.val (.ref t), .val (.int ((j <<< ((1 : Int32) &&& 31)) + (1 : Int32))), .val (.int c)] [(.int ((c >>> ((0 : Int32) &&& 31)).toInt8.toInt32)), (.int (j <<< ((1 : Int32) &&& 31))), (.ref t)])) rfl rfl (hb hby own_d122)
  have V3_ := Arv.set Ar3_ q3_ S3_ M3_ H3_ G3_ (fits_nar_byte _) W3_ (2 * i) (own_sh1 hj (by omega)) (by omega)
  have U3_ : Arv Z h3_ t kt .byte N2 ((ws).set (2 * i) (.int (own_lo c))) (.int 0) := by
    have hq := V3_
    rw [show ((c >>> ((0 : Int32) &&& 31)).toInt8.toInt32).toInt8.toInt32 = (own_lo c) from (own_st0 _)] at hq
    exact hq
  have N3_ := Fr.snoc X3_ N0 gt
  refine own_via (fun _ kq => st3_ _ kq) ?_
  show own_Fin _ _ _ _ _ _ _ T3_ (mkF m 44 #[.val (.ref t), .val (.int ((j <<< ((1 : Int32) &&& 31)) + (1 : Int32))), .val (.int c)] [])
  refine own_via (fun _ kq => XS.aloadN X3_.here hx rfl (hb hby own_d123) rfl rfl kq) ?_
  refine own_via (fun _ kq => XS.iloadN X3_.here hx rfl (hb hby own_d124) rfl kq) ?_
  refine own_via (fun _ kq => XS.iloadN X3_.here hx rfl (hb hby own_d125) rfl kq) ?_
  show own_Fin _ _ _ _ _ _ _ T3_ (mkF m 47 #[.val (.ref t), .val (.int ((j <<< ((1 : Int32) &&& 31)) + (1 : Int32))), .val (.int c)] [(.int c), (.int ((j <<< ((1 : Int32) &&& 31)) + (1 : Int32))), (.ref t)])
  obtain ⟨T4_, X4_, e4_, st4_⟩ := getS2 X3_ hx hZ hown (host := "") (Or.inl (own_w hw 132 rfl)) Via.refl e3_ (S5.ext (O0.wr W3_ gt).2) (g := (mkF m 47 #[.val (.ref t), .val (.int ((j <<< ((1 : Int32) &&& 31)) + (1 : Int32))), .val (.int c)] [(.int c), (.int ((j <<< ((1 : Int32) &&& 31)) + (1 : Int32))), (.ref t)])) rfl (hb hby own_d126)
  refine own_via (fun _ kq => st4_ _ kq) ?_
  show own_Fin _ _ _ _ _ _ _ T4_ (mkF m 50 #[.val (.ref t), .val (.int ((j <<< ((1 : Int32) &&& 31)) + (1 : Int32))), .val (.int c)] [(.int (8 : Int32)), (.int c), (.int ((j <<< ((1 : Int32) &&& 31)) + (1 : Int32))), (.ref t)])
  refine own_via (fun _ kq => XS.ishr X4_.here hx rfl (hb hby own_d127) rfl kq) ?_
  refine own_via (fun _ kq => XS.i2b X4_.here hx rfl (hb hby own_d128) rfl kq) ?_
  show own_Fin _ _ _ _ _ _ _ T4_ (mkF m 52 #[.val (.ref t), .val (.int ((j <<< ((1 : Int32) &&& 31)) + (1 : Int32))), .val (.int c)] [(.int ((c >>> ((8 : Int32) &&& 31)).toInt8.toInt32)), (.int ((j <<< ((1 : Int32) &&& 31)) + (1 : Int32))), (.ref t)])
  obtain ⟨c5_, Ar5_, q5_, S5_, M5_, H5_, G5_⟩ := (id U3_)
  have hin5_ : ¬ (((j <<< ((1 : Int32) &&& 31)) + (1 : Int32)) < 0 ∨ c5_.slots.size ≤ (((j <<< ((1 : Int32) &&& 31)) + (1 : Int32))).toNatClampNeg) := inb_of S5_ (own_shin2 hj hN hi hn)
  obtain ⟨T5_, h5_, X5_, e5_, W5_, st5_⟩ := stB X4_ hx hZ e4_ Ar5_ (j := ((j <<< ((1 : Int32) &&& 31)) + (1 : Int32))) hin5_ (g := (mkF m 52 #[.val (.ref t), .val (.int ((j <<< ((1 : Int32) &&& 31)) + (1 : Int32))), .val (.int c)] [(.int ((c >>> ((8 : Int32) &&& 31)).toInt8.toInt32)), (.int ((j <<< ((1 : Int32) &&& 31)) + (1 : Int32))), (.ref t)])) rfl rfl (hb hby own_d129)
  have V5_ := Arv.set Ar5_ q5_ S5_ M5_ H5_ G5_ (fits_nar_byte _) W5_ (2 * i + 1) (own_sh2 hj (by omega)) (by rw [List.length_set]; omega)
  have U5_ : Arv Z h5_ t kt .byte N2 ((((ws).set (2 * i) (.int (own_lo c)))).set (2 * i + 1) (.int (own_hi c))) (.int 0) := by
    have hq := V5_
    rw [show ((c >>> ((8 : Int32) &&& 31)).toInt8.toInt32).toInt8.toInt32 = (own_hi c) from (own_st8 _)] at hq
    exact hq
  have N5_ := Fr.snoc X5_ N3_ gt
  refine own_via (fun _ kq => st5_ _ kq) ?_
  show own_Fin _ _ _ _ _ _ _ T5_ (mkF m 53 #[.val (.ref t), .val (.int ((j <<< ((1 : Int32) &&& 31)) + (1 : Int32))), .val (.int c)] [])
  exact own_ret0 X5_ hx Bd.returns Bd.notSynchronized (hb hby own_d130) e5_ ⟨rfl, N5_, (((Keep.refl h0 [t]).wr W3_ (Or.inl (List.mem_of_getElem? (i := 0) rfl))).wr W5_ (Or.inl (List.mem_of_getElem? (i := 0) rfl))), U5_⟩ (by decide) (by decide)
theorem own_d131 : decode jdk_52_method_14_code 0 = .ok (.iload_n 2, 1) := by decide +kernel
theorem own_d132 : decode jdk_52_method_14_code 1 = .ok (.invokestatic 107, 3) := by decide +kernel
theorem own_pd4 : parseMethodDescriptor "(I)[B" = some ⟨[.int], some (.array .byte)⟩ := by decide +kernel
theorem own_d133 : decode jdk_52_method_14_code 4 = .ok (.astore_n 3, 1) := by decide +kernel
theorem own_d134 : decode jdk_52_method_14_code 5 = .ok (.iconst 0, 1) := by decide +kernel
theorem own_d135 : decode jdk_52_method_14_code 6 = .ok (.istore 4, 2) := by decide +kernel
theorem own_d136 : decode jdk_52_method_14_code 8 = .ok (.iload 4, 2) := by decide +kernel
theorem own_d137 : decode jdk_52_method_14_code 10 = .ok (.iload_n 2, 1) := by decide +kernel
theorem own_d138 : decode jdk_52_method_14_code 11 = .ok (.if_icmp .ge 21, 3) := by decide +kernel
theorem own_d139 : decode jdk_52_method_14_code 32 = .ok (.aload_n 3, 1) := by decide +kernel
theorem own_d140 : decode jdk_52_method_14_code 33 = .ok (.areturn, 1) := by decide +kernel
theorem own_d141 : decode jdk_52_method_14_code 14 = .ok (.aload_n 3, 1) := by decide +kernel
theorem own_d142 : decode jdk_52_method_14_code 15 = .ok (.iload 4, 2) := by decide +kernel
theorem own_d143 : decode jdk_52_method_14_code 17 = .ok (.aload_n 0, 1) := by decide +kernel
theorem own_d144 : decode jdk_52_method_14_code 18 = .ok (.iload_n 1, 1) := by decide +kernel
theorem own_d145 : decode jdk_52_method_14_code 19 = .ok (.caload, 1) := by decide +kernel
theorem own_d146 : decode jdk_52_method_14_code 20 = .ok (.invokestatic 111, 3) := by decide +kernel
theorem own_pd5 : parseMethodDescriptor "([BII)V" = some ⟨[(.array .byte), .int, .int], none⟩ := by decide +kernel
theorem own_d147 : decode jdk_52_method_14_code 23 = .ok (.iinc 1 1, 3) := by decide +kernel
theorem own_d148 : decode jdk_52_method_14_code 26 = .ok (.iinc 4 1, 3) := by decide +kernel
theorem own_d149 : decode jdk_52_method_14_code 29 = .ok (.goto (-21), 3) := by decide +kernel
theorem own_ef_toBy (m : MethodId) (a : Addr) (N : Int32) : entryFrame m #[(.ref a), (.int (0 : Int32)), (.int N)] 5 = mkF m 0 #[.val (.ref a), .val (.int (0 : Int32)), .val (.int N), .unset, .unset] [] := by (first | (simp [entryFrame, mkF, argsToLocals, Value.category]; done) | rfl)
def own_Q_toBy (Z : State) (a : Addr) (ka : ClassId) (N : Int32) (cs : List Int32) (h0 : Heap) (n0 : Nat) (vq : Option Value) (h : Heap) (Lq : List Loc) : Prop := ∃ (t : Addr) (kt : ClassId) (ws : List Value), (vq = some (.ref t)) ∧ (Fr n0 Lq) ∧ (Keep h0 h []) ∧ (h0.size ≤ t) ∧ (Arv Z h t kt .byte (Int32.ofNat (2 * cs.length)) ws (.int 0)) ∧ (own_wide cs ws)
abbrev own_R_toBy : Room := { frames := 2, cells := 1, slots := 38, locals := 24 }
set_option maxRecDepth 65536 in
set_option maxHeartbeats 40000000 in
theorem own_rm_toBy (l : Launch) (Z : State) (a0 : Array Value) (hw : ∀ d ∈ tables_1, d.before a0 Z = true) (wsq : List Jvm.Cond) (a : Addr) (ka : ClassId) (N : Int32) (cs : List Int32) (h0 : Heap) (n0 : Nat) (Z0 : n0 ≤ h0.size) (O0 : Old Z n0 h0) (S3 : Sta Z Z.heap "java/lang/StringUTF16" "$assertionsDisabled" "Z" (.int (1 : Int32))) (S4 : Sta Z Z.heap "java/lang/StringUTF16" "HI_BYTE_SHIFT" "I" (.int (0 : Int32))) (S5 : Sta Z Z.heap "java/lang/StringUTF16" "LO_BYTE_SHIFT" "I" (.int (8 : Int32))) (Vc : Arv Z h0 a ka .char N (cs.map Value.int) (.int 0)) (hN : N = Int32.ofNat cs.length) (hn : cs.length ≤ 19) (hp : 0 < cs.length) (hr : own_chs cs) :
    MetFree l (⟨"java/lang/StringUTF16", "toBytes", "([CII)[B"⟩ : MethodName) (head1 (Jvm.Cond.code (⟨"java/lang/StringUTF16", "toBytes", "([CII)[B"⟩ : MethodName) jdk_52_method_14_code 5 (some (.array .byte)) :: wsq) own_R_toBy) (fun aq Uq => aq = #[(.ref a), (.int (0 : Int32)), (.int N)] ∧ Z.Warmed39 Uq.vm ∧ Uq.heap = h0) (fun _ _ _ _ _ => True) (fun _ Uq oq Uq' => ∃ vq Lq, oq = .returned vq ∧ own_Q_toBy Z a ka N cs h0 n0 vq Uq'.heap Lq ∧ FrameEnd Uq oq Uq' Lq own_R_toBy.cells own_R_toBy.slots) := by
  refine MetFree.of_bodySF (plainFor_of_name own_pn3) hisR ?_
  intro p e s m args below meth cde s₁ Bd hml0 hP hK
  obtain ⟨rfl, hZ, hh⟩ := hP
  have hx := Bd.exec
  have hby := Bd.bytes
  have hml : cde.maxLocals = 5 := hml0
  have hown : s.vm.findClass "java/lang/StringUTF16" = some m.cls := findClass_of_methodNamed Bd.named
  have hnm := (name_of_methodNamed Bd.named Bd.method).1
  have X0 : Stand p l e own_R_toBy s m #[(.ref a), (.int (0 : Int32)), (.int N)] below meth cde s₁ [] 0 0 := Stand.of_body Bd
  have e0 : s₁.heap = h0 := by rw [← hh, Bd.state]; rfl
  have N0 := Fr.nil n0
  show own_Fin p e s below (own_Q_toBy Z a ka N cs h0 n0) own_R_toBy.cells own_R_toBy.slots s₁ (entryFrame m #[(.ref a), (.int (0 : Int32)), (.int N)] 5)
  rw [own_ef_toBy m a N]
  refine own_via (fun _ kq => XS.iloadN X0.here hx rfl (hb hby own_d131) rfl kq) ?_
  show own_Fin _ _ _ _ _ _ _ s₁ (mkF m 1 #[.val (.ref a), .val (.int (0 : Int32)), .val (.int N), .unset, .unset] [(.int N)])
  obtain ⟨_, _, ⟨T1_, L1_, k1_, n1_⟩, -, X1_, ⟨Lc1_, hQ1_, l1_, y1_, z1_⟩, st1_⟩ := Jvm.LawKit.callS X0 hx (y := (⟨"java/lang/StringUTF16", "newBytesFor", "(I)[B"⟩ : MethodName)) hown (mvT hZ (own_w hw 120 rfl)) (mvT hZ (own_w hw 121 rfl)) (mvT hZ (own_w hw 63 rfl)) (mvT hZ (own_w hw 122 rfl)) (by decide) (backOf (W := 0) (own_rm_nbf l Z a0 hw [] N cs.length h0 n0 Z0 hN hn) hZ (own_w hw 122 rfl) (own_w hw 63 rfl) (by decide) (by decide)) (g := (mkF m 1 #[.val (.ref a), .val (.int (0 : Int32)), .val (.int N), .unset, .unset] [(.int N)])) rfl (by rw [hml]; rfl) (argsL := [(.int N)]) (rest := []) (lenOf own_pd4 rfl) rfl (by show 2 * 0 + _ ≤ _; exact Nat.le_of_eq rfl) (hb hby own_d132) (fun _ _ => ⟨rfl, e0, (by decide : 0 + 1 ≤ _), (by decide : 0 + 38 ≤ _)⟩)
  dsimp only [Pt.U, Pt.locs, Pt.cells, Pt.slots] at X1_ l1_ y1_ z1_ st1_ hQ1_
  subst l1_ y1_ z1_
  obtain ⟨t, kt, rfl, Nq1_, K1_, r2_, r3_⟩ := hQ1_
  have N1_ := Fr.app N0 Nq1_
  refine own_via (fun _ kq => st1_ _ kq) ?_
  show own_Fin _ _ _ _ _ _ _ T1_ (mkF m 4 #[.val (.ref a), .val (.int (0 : Int32)), .val (.int N), .unset, .unset] [(.ref t)])
  refine own_via (fun _ kq => XS.astoreN X1_.here hx rfl (hb hby own_d133) rfl rfl (l' := #[.val (.ref a), .val (.int (0 : Int32)), .val (.int N), .val (.ref t), .unset]) rfl kq) ?_
  refine own_via (fun _ kq => XS.iconst X1_.here hx rfl (hb hby own_d134) kq) ?_
  refine own_via (fun _ kq => XS.istore X1_.here hx rfl (hb hby own_d135) rfl (l' := #[.val (.ref a), .val (.int (0 : Int32)), .val (.int N), .val (.ref t), .val (.int (0 : Int32))]) rfl kq) ?_
  have szt : h0.size ≤ t := r2_
  have q4_ : a ≠ t := Nat.ne_of_lt (Nat.lt_of_lt_of_le Vc.lt r2_)
  have g5_ : n0 ≤ t := Nat.le_trans Z0 r2_
  have lp : ∀ (k : Nat) (i : Nat) (j : Int32) (ws : List Value) (Tl : State) (locl : List Loc) (Xl : Stand p l e own_R_toBy s m #[(.ref a), (.int (0 : Int32)), (.int N)] below meth cde Tl locl (0 + 1) (0 + 38)) (Nl : Fr n0 locl) (hl : Heap) (el : Tl.heap = hl) (Kl : Keep h0 hl []) (Ol : Old Z n0 hl) (Vl : Arv Z hl a ka .char N (cs.map Value.int) (.int 0)) (Vm : Arv Z hl t kt .byte (Int32.ofNat (2 * cs.length)) ws (.int 0)) (hj : j = Int32.ofNat i) (hi : i ≤ cs.length) (hk : cs.length ≤ i + k) (hwl : ws.length = 2 * cs.length) (hh_ : ∀ q, q < i → ws.getD (2 * q) (.int 0) = .int (own_lo (cs.getD q 0)) ∧ ws.getD (2 * q + 1) (.int 0) = .int (own_hi (cs.getD q 0))), own_Fin p e s below (own_Q_toBy Z a ka N cs h0 n0) own_R_toBy.cells own_R_toBy.slots Tl (mkF m 8 #[.val (.ref a), .val (.int j), .val (.int N), .val (.ref t), .val (.int j)] []) := by
   intro k
   induction k with
   | zero =>
    intro i j ws Tl locl Xl Nl hl el Kl Ol Vl Vm hj hi hk hwl hh_
    have Zl : n0 ≤ hl.size := Nat.le_trans Z0 Kl.1
    refine own_via (fun _ kq => XS.iload Xl.here hx rfl (hb hby own_d136) rfl kq) ?_
    refine own_via (fun _ kq => XS.iloadN Xl.here hx rfl (hb hby own_d137) rfl kq) ?_
    refine own_via (fun _ kq => XS.icmpYes Xl.here hx rfl (pc0 := 11) (pc' := 32) rfl (hb hby own_d138) rfl (flt (fun q => absurd ((own_ltN hj hN (by omega) (by omega)).mp q) (by omega))).2.1 (by decide) (by decide) kq) ?_
    show own_Fin _ _ _ _ _ _ _ Tl (mkF m 32 #[.val (.ref a), .val (.int j), .val (.int N), .val (.ref t), .val (.int j)] [])
    refine own_via (fun _ kq => XS.aloadN Xl.here hx rfl (hb hby own_d139) rfl rfl kq) ?_
    show own_Fin _ _ _ _ _ _ _ Tl (mkF m 33 #[.val (.ref a), .val (.int j), .val (.int N), .val (.ref t), .val (.int j)] [(.ref t)])
    exact own_retA Xl hx Bd.returns Bd.notSynchronized rfl rfl (hb hby own_d140) el ⟨t, kt, ws, rfl, Nl, Kl, szt, Vm, (fun q hq => hh_ q (by omega))⟩ (by decide) (by decide)
   | succ k ih =>
    intro i j ws Tl locl Xl Nl hl el Kl Ol Vl Vm hj hi hk hwl hh_
    have Zl : n0 ≤ hl.size := Nat.le_trans Z0 Kl.1
    refine own_via (fun _ kq => XS.iload Xl.here hx rfl (hb hby own_d136) rfl kq) ?_
    refine own_via (fun _ kq => XS.iloadN Xl.here hx rfl (hb hby own_d137) rfl kq) ?_
    rcases Classical.em (j < N) with hg | hg
    · refine own_via (fun _ kq => XS.icmpNo Xl.here hx rfl (hb hby own_d138) rfl (tlt hg).2.1 kq) ?_
      show own_Fin _ _ _ _ _ _ _ Tl (mkF m 14 #[.val (.ref a), .val (.int j), .val (.int N), .val (.ref t), .val (.int j)] [])
      have hlt : i < cs.length := (own_ltN hj hN (by omega) (by omega)).mp hg
      refine own_via (fun _ kq => XS.aloadN Xl.here hx rfl (hb hby own_d141) rfl rfl kq) ?_
      refine own_via (fun _ kq => XS.iload Xl.here hx rfl (hb hby own_d142) rfl kq) ?_
      refine own_via (fun _ kq => XS.aloadN Xl.here hx rfl (hb hby own_d143) rfl rfl kq) ?_
      refine own_via (fun _ kq => XS.iloadN Xl.here hx rfl (hb hby own_d144) rfl kq) ?_
      show own_Fin _ _ _ _ _ _ _ Tl (mkF m 19 #[.val (.ref a), .val (.int j), .val (.int N), .val (.ref t), .val (.int j)] [(.int j), (.ref a), (.int j), (.ref t)])
      obtain ⟨c6_, Ar6_, q6_, S6_, M6_, H6_, G6_⟩ := (id Vl)
      have hin6_ : ¬ (j < 0 ∨ c6_.slots.size ≤ (j).toNatClampNeg) := inb_of S6_ (own_inb hj hN hlt (by omega))
      have hat6_ : c6_.slots[(j).toNatClampNeg]? = some (.int (cs.getD i 0)) := H6_.at hin6_ (own_el hj (by omega))
      refine own_via (fun _ kq => Xl.caload hx (j := j) (v := (.int (cs.getD i 0))) (own_eq el Ar6_.1) (State.isArrayOf_alike hZ.alike Ar6_.2.1) Ar6_.2.2 hin6_ hat6_ (g := (mkF m 19 #[.val (.ref a), .val (.int j), .val (.int N), .val (.ref t), .val (.int j)] [(.int j), (.ref a), (.int j), (.ref t)])) rfl rfl (hb hby own_d145) _ kq) ?_
      show own_Fin _ _ _ _ _ _ _ Tl (mkF m 20 #[.val (.ref a), .val (.int j), .val (.int N), .val (.ref t), .val (.int j)] [(.int (cs.getD i 0)), (.int j), (.ref t)])
      obtain ⟨_, _, ⟨T7_, L7_, k7_, n7_⟩, -, X7_, ⟨Lc7_, hQ7_, l7_, y7_, z7_⟩, st7_⟩ := Jvm.LawKit.callS Xl hx (y := (⟨"java/lang/StringUTF16", "putChar", "([BII)V"⟩ : MethodName)) hown (mvT hZ (own_w hw 127 rfl)) (mvT hZ (own_w hw 128 rfl)) (mvT hZ (own_w hw 63 rfl)) (mvT hZ (own_w hw 129 rfl)) (by decide) (backOf (W := 0) (own_rm_putCh l Z a0 hw [] t kt (Int32.ofNat (2 * cs.length)) ws (cs.getD i 0) j i cs.length hl n0 Zl Ol S3 S4 S5 Vm g5_ hj hlt (by omega) rfl hwl) hZ (own_w hw 129 rfl) (own_w hw 63 rfl) (by decide) (by decide)) (g := (mkF m 20 #[.val (.ref a), .val (.int j), .val (.int N), .val (.ref t), .val (.int j)] [(.int (cs.getD i 0)), (.int j), (.ref t)])) rfl (by rw [hml]; rfl) (argsL := [(.ref t), (.int j), (.int (cs.getD i 0))]) (rest := []) (lenOf own_pd5 rfl) rfl (by show 2 * 0 + _ ≤ _; exact Nat.le_of_eq rfl) (hb hby own_d146) (fun _ _ => ⟨rfl, el, (by decide : (0 + 1) + 0 ≤ _), (by decide : (0 + 38) + 0 ≤ _)⟩)
      dsimp only [Pt.U, Pt.locs, Pt.cells, Pt.slots] at X7_ l7_ y7_ z7_ st7_ hQ7_
      subst l7_ y7_ z7_
      obtain ⟨rfl, Nq7_, K7_, r8_⟩ := hQ7_
      have N7_ := Fr.app Nl Nq7_
      refine own_via (fun _ kq => st7_ _ kq) ?_
      show own_Fin _ _ _ _ _ _ _ T7_ (mkF m 23 #[.val (.ref a), .val (.int j), .val (.int N), .val (.ref t), .val (.int j)] [])
      refine own_via (fun _ kq => XS.iinc X7_.here hx rfl (hb hby own_d147) rfl (l' := #[.val (.ref a), .val (.int (j + (1 : Int32))), .val (.int N), .val (.ref t), .val (.int j)]) rfl kq) ?_
      refine own_via (fun _ kq => XS.iinc X7_.here hx rfl (hb hby own_d148) rfl (l' := #[.val (.ref a), .val (.int (j + (1 : Int32))), .val (.int N), .val (.ref t), .val (.int (j + (1 : Int32)))]) rfl kq) ?_
      refine own_via (fun _ kq => XS.goto X7_.here hx rfl (pc0 := 29) (pc' := 8) rfl (hb hby own_d149) (by decide) (by decide) kq) ?_
      exact ih (i + 1) (j + (1 : Int32)) ((ws.set (2 * i) (.int (own_lo (cs.getD i 0)))).set (2 * i + 1) (.int (own_hi (cs.getD i 0)))) T7_ _ X7_ N7_ _ rfl (Kl.trans K7_ (allS (Or.inr szt) all0)) (Ol.keep K7_ (allS g5_ all0)) (Vl.keep K7_ (ninS q4_ nin0)) r8_ (own_succ hj) (by omega) (by omega) (by rw [List.length_set, List.length_set]; exact hwl) (own_set2 hh_ (by omega))
    · refine own_via (fun _ kq => XS.icmpYes Xl.here hx rfl (pc0 := 11) (pc' := 32) rfl (hb hby own_d138) rfl (flt hg).2.1 (by decide) (by decide) kq) ?_
      show own_Fin _ _ _ _ _ _ _ Tl (mkF m 32 #[.val (.ref a), .val (.int j), .val (.int N), .val (.ref t), .val (.int j)] [])
      have hge : cs.length ≤ i := Nat.le_of_not_lt fun q => hg ((own_ltN hj hN (by omega) (by omega)).mpr q)
      refine own_via (fun _ kq => XS.aloadN Xl.here hx rfl (hb hby own_d139) rfl rfl kq) ?_
      show own_Fin _ _ _ _ _ _ _ Tl (mkF m 33 #[.val (.ref a), .val (.int j), .val (.int N), .val (.ref t), .val (.int j)] [(.ref t)])
      exact own_retA Xl hx Bd.returns Bd.notSynchronized rfl rfl (hb hby own_d140) el ⟨t, kt, ws, rfl, Nl, Kl, szt, Vm, (fun q hq => hh_ q (by omega))⟩ (by decide) (by decide)
  exact lp cs.length 0 (0 : Int32) (List.replicate (2 * cs.length) (.int 0)) T1_ _ X1_ N1_ _ rfl ((Keep.refl h0 []).trans K1_ all0) (O0.keep K1_ all0) (Vc.keep K1_ nin0) r3_ rfl (by omega) (by omega) List.length_replicate (fun q hq => absurd hq (Nat.not_lt_zero q))
theorem own_d150 : decode jdk_52_method_16_code 0 = .ok (.iload_n 2, 1) := by decide +kernel
theorem own_d151 : decode jdk_52_method_16_code 1 = .ok (.newarray .byte, 2) := by decide +kernel
theorem own_d152 : decode jdk_52_method_16_code 3 = .ok (.astore_n 3, 1) := by decide +kernel
theorem own_d153 : decode jdk_52_method_16_code 4 = .ok (.aload_n 0, 1) := by decide +kernel
theorem own_d154 : decode jdk_52_method_16_code 5 = .ok (.iload_n 1, 1) := by decide +kernel
theorem own_d155 : decode jdk_52_method_16_code 6 = .ok (.aload_n 3, 1) := by decide +kernel
theorem own_d156 : decode jdk_52_method_16_code 7 = .ok (.iconst 0, 1) := by decide +kernel
theorem own_d157 : decode jdk_52_method_16_code 8 = .ok (.iload_n 2, 1) := by decide +kernel
theorem own_d158 : decode jdk_52_method_16_code 9 = .ok (.invokestatic 115, 3) := by decide +kernel
theorem own_pd6 : parseMethodDescriptor "([CI[BII)I" = some ⟨[(.array .char), .int, (.array .byte), .int, .int], some .int⟩ := by decide +kernel
theorem own_d159 : decode jdk_52_method_16_code 12 = .ok (.istore 4, 2) := by decide +kernel
theorem own_d160 : decode jdk_52_method_16_code 14 = .ok (.iload 4, 2) := by decide +kernel
theorem own_d161 : decode jdk_52_method_16_code 16 = .ok (.iload_n 2, 1) := by decide +kernel
theorem own_d162 : decode jdk_52_method_16_code 17 = .ok (.if_icmp .eq 40, 3) := by decide +kernel
theorem own_d163 : decode jdk_52_method_16_code 57 = .ok (.aload_n 3, 1) := by decide +kernel
theorem own_d164 : decode jdk_52_method_16_code 58 = .ok (.areturn, 1) := by decide +kernel
theorem own_d165 : decode jdk_52_method_16_code 20 = .ok (.aload_n 0, 1) := by decide +kernel
theorem own_d166 : decode jdk_52_method_16_code 21 = .ok (.iload_n 1, 1) := by decide +kernel
theorem own_d167 : decode jdk_52_method_16_code 22 = .ok (.iload_n 2, 1) := by decide +kernel
theorem own_d168 : decode jdk_52_method_16_code 23 = .ok (.invokestatic 119, 3) := by decide +kernel
theorem own_pd7 : parseMethodDescriptor "([CII)[B" = some ⟨[(.array .char), .int, .int], some (.array .byte)⟩ := by decide +kernel
theorem own_d169 : decode jdk_52_method_16_code 26 = .ok (.astore 5, 2) := by decide +kernel
theorem own_d170 : decode jdk_52_method_16_code 28 = .ok (.aload 5, 2) := by decide +kernel
theorem own_d171 : decode jdk_52_method_16_code 30 = .ok (.iload 4, 2) := by decide +kernel
theorem own_d172 : decode jdk_52_method_16_code 32 = .ok (.invokestatic 71, 3) := by decide +kernel
theorem own_pd8 : parseMethodDescriptor "([BI)C" = some ⟨[(.array .byte), .int], some .char⟩ := by decide +kernel
theorem own_d173 : decode jdk_52_method_16_code 35 = .ok (.sipush 255, 3) := by decide +kernel
theorem own_d174 : decode jdk_52_method_16_code 38 = .ok (.if_icmp .gt 16, 3) := by decide +kernel
theorem own_d175 : decode jdk_52_method_16_code 54 = .ok (.aload 5, 2) := by decide +kernel
theorem own_d176 : decode jdk_52_method_16_code 56 = .ok (.areturn, 1) := by decide +kernel
theorem own_ef_cmp3 (m : MethodId) (a : Addr) (N : Int32) : entryFrame m #[(.ref a), (.int (0 : Int32)), (.int N)] 6 = mkF m 0 #[.val (.ref a), .val (.int (0 : Int32)), .val (.int N), .unset, .unset, .unset] [] := by (first | (simp [entryFrame, mkF, argsToLocals, Value.category]; done) | rfl)
def own_Q_cmp3 (Z : State) (a : Addr) (ka : ClassId) (N : Int32) (cs : List Int32) (h0 : Heap) (n0 : Nat) (vq : Option Value) (h : Heap) (Lq : List Loc) : Prop := ∃ (t : Addr) (kt : ClassId) (cd : Int32) (N2 : Int32) (vs : List Value), (vq = some (.ref t)) ∧ (Fr n0 Lq) ∧ (Keep h0 h []) ∧ (h0.size ≤ t) ∧ (Arv Z h t kt .byte N2 vs (.int 0)) ∧ (own_cod cs cd N2 vs)
abbrev own_R_cmp3 : Room := { frames := 3, cells := 2, slots := 57, locals := 40 }
set_option maxRecDepth 65536 in
set_option maxHeartbeats 40000000 in
theorem own_rm_cmp3 (l : Launch) (Z : State) (a0 : Array Value) (hw : ∀ d ∈ tables_1, d.before a0 Z = true) (wsq : List Jvm.Cond) (a : Addr) (ka : ClassId) (N : Int32) (cs : List Int32) (h0 : Heap) (n0 : Nat) (Z0 : n0 ≤ h0.size) (O0 : Old Z n0 h0) (S3 : Sta Z Z.heap "java/lang/StringUTF16" "$assertionsDisabled" "Z" (.int (1 : Int32))) (S4 : Sta Z Z.heap "java/lang/StringUTF16" "HI_BYTE_SHIFT" "I" (.int (0 : Int32))) (S5 : Sta Z Z.heap "java/lang/StringUTF16" "LO_BYTE_SHIFT" "I" (.int (8 : Int32))) (Vc : Arv Z h0 a ka .char N (cs.map Value.int) (.int 0)) (hN : N = Int32.ofNat cs.length) (hn : cs.length ≤ 19) (hp : 0 < cs.length) (hr : own_chs cs) :
    MetFree l (⟨"java/lang/StringUTF16", "compress", "([CII)[B"⟩ : MethodName) (head1 (Jvm.Cond.code (⟨"java/lang/StringUTF16", "compress", "([CII)[B"⟩ : MethodName) jdk_52_method_16_code 6 (some (.array .byte)) :: wsq) own_R_cmp3) (fun aq Uq => aq = #[(.ref a), (.int (0 : Int32)), (.int N)] ∧ Z.Warmed39 Uq.vm ∧ Uq.heap = h0) (fun _ _ _ _ _ => True) (fun _ Uq oq Uq' => ∃ vq Lq, oq = .returned vq ∧ own_Q_cmp3 Z a ka N cs h0 n0 vq Uq'.heap Lq ∧ FrameEnd Uq oq Uq' Lq own_R_cmp3.cells own_R_cmp3.slots) := by
  refine MetFree.of_bodySF (plainFor_of_name own_pn3) hisR ?_
  intro p e s m args below meth cde s₁ Bd hml0 hP hK
  obtain ⟨rfl, hZ, hh⟩ := hP
  have hx := Bd.exec
  have hby := Bd.bytes
  have hml : cde.maxLocals = 6 := hml0
  have hown : s.vm.findClass "java/lang/StringUTF16" = some m.cls := findClass_of_methodNamed Bd.named
  have hnm := (name_of_methodNamed Bd.named Bd.method).1
  have X0 : Stand p l e own_R_cmp3 s m #[(.ref a), (.int (0 : Int32)), (.int N)] below meth cde s₁ [] 0 0 := Stand.of_body Bd
  have e0 : s₁.heap = h0 := by rw [← hh, Bd.state]; rfl
  have N0 := Fr.nil n0
  show own_Fin p e s below (own_Q_cmp3 Z a ka N cs h0 n0) own_R_cmp3.cells own_R_cmp3.slots s₁ (entryFrame m #[(.ref a), (.int (0 : Int32)), (.int N)] 6)
  rw [own_ef_cmp3 m a N]
  refine own_via (fun _ kq => XS.iloadN X0.here hx rfl (hb hby own_d150) rfl kq) ?_
  show own_Fin _ _ _ _ _ _ _ s₁ (mkF m 1 #[.val (.ref a), .val (.int (0 : Int32)), .val (.int N), .unset, .unset, .unset] [(.int N)])
  obtain ⟨T1_, h1_, k1_, X1_, e1_, E1_, A1_, st1_⟩ := newP X0 hx hZ (own_w hw 3 rfl) e0 (g := (mkF m 1 #[.val (.ref a), .val (.int (0 : Int32)), .val (.int N), .unset, .unset, .unset] [(.int N)])) rfl (hb hby own_d151) rfl (own_nneg hN (by omega)) (cap := 19) (by rw [own_clamp hN (by omega)]; omega) (by decide) (by decide) (by decide)
  obtain ⟨b1_, g1_⟩ : ∃ z, z = h0.size := ⟨_, rfl⟩
  rw [← g1_] at A1_ st1_
  have V1_ : Arv Z h1_ b1_ k1_ .byte N (List.replicate cs.length (.int (0 : Int32))) (.int (0 : Int32)) := (Arv.new A1_ (own_nneg hN (by omega))).pad (pad_rep [] (.int (0 : Int32)) cs.length)
  refine own_via (fun _ kq => st1_ _ kq) ?_
  show own_Fin _ _ _ _ _ _ _ T1_ (mkF m 3 #[.val (.ref a), .val (.int (0 : Int32)), .val (.int N), .unset, .unset, .unset] [(.ref b1_)])
  refine own_via (fun _ kq => XS.astoreN X1_.here hx rfl (hb hby own_d152) rfl rfl (l' := #[.val (.ref a), .val (.int (0 : Int32)), .val (.int N), .val (.ref b1_), .unset, .unset]) rfl kq) ?_
  refine own_via (fun _ kq => XS.aloadN X1_.here hx rfl (hb hby own_d153) rfl rfl kq) ?_
  refine own_via (fun _ kq => XS.iloadN X1_.here hx rfl (hb hby own_d154) rfl kq) ?_
  refine own_via (fun _ kq => XS.aloadN X1_.here hx rfl (hb hby own_d155) rfl rfl kq) ?_
  refine own_via (fun _ kq => XS.iconst X1_.here hx rfl (hb hby own_d156) kq) ?_
  refine own_via (fun _ kq => XS.iloadN X1_.here hx rfl (hb hby own_d157) rfl kq) ?_
  show own_Fin _ _ _ _ _ _ _ T1_ (mkF m 9 #[.val (.ref a), .val (.int (0 : Int32)), .val (.int N), .val (.ref b1_), .unset, .unset] [(.int N), (.int (0 : Int32)), (.ref b1_), (.int (0 : Int32)), (.ref a)])
  have q2_ : a ≠ b1_ := Nat.ne_of_lt (Nat.lt_of_lt_of_le Vc.lt (Nat.le_of_eq g1_.symm))
  have g4_ : n0 ≤ b1_ := Nat.le_trans Z0 (Nat.le_of_eq g1_.symm)
  obtain ⟨_, _, ⟨T3_, L3_, k3_, n3_⟩, -, X3_, ⟨Lc3_, hQ3_, l3_, y3_, z3_⟩, st3_⟩ := Jvm.LawKit.callS X1_ hx (y := (⟨"java/lang/StringUTF16", "compress", "([CI[BII)I"⟩ : MethodName)) hown (mvT hZ (own_w hw 65 rfl)) (mvT hZ (own_w hw 66 rfl)) (mvT hZ (own_w hw 63 rfl)) (mvT hZ (own_w hw 67 rfl)) (by decide) (backOf (W := 0) (own_rm_cmp5 l Z a0 hw [] a ka N cs b1_ k1_ (List.replicate cs.length (.int (0 : Int32))) h1_ n0 (Nat.le_trans Z0 E1_.1) (Vc.ext E1_) V1_ g4_ q2_ List.length_replicate hN hn hp hr) hZ (own_w hw 67 rfl) (own_w hw 63 rfl) (by decide) (by decide)) (g := (mkF m 9 #[.val (.ref a), .val (.int (0 : Int32)), .val (.int N), .val (.ref b1_), .unset, .unset] [(.int N), (.int (0 : Int32)), (.ref b1_), (.int (0 : Int32)), (.ref a)])) rfl (by rw [hml]; rfl) (argsL := [(.ref a), (.int (0 : Int32)), (.ref b1_), (.int (0 : Int32)), (.int N)]) (rest := []) (lenOf own_pd6 rfl) rfl (by show 2 * 0 + _ ≤ _; exact Nat.le_of_eq rfl) (hb hby own_d158) (fun _ _ => ⟨rfl, e1_, (by decide : 0 + 1 + 0 ≤ _), (by decide : 0 + 19 + 0 ≤ _)⟩)
  dsimp only [Pt.U, Pt.locs, Pt.cells, Pt.slots] at X3_ l3_ y3_ z3_ st3_ hQ3_
  subst l3_ y3_ z3_
  obtain ⟨r, ws, rfl, Nq3_, K3_, r5_, hx_⟩ := hQ3_
  have N3_ := Fr.app N0 Nq3_
  refine own_via (fun _ kq => st3_ _ kq) ?_
  show own_Fin _ _ _ _ _ _ _ T3_ (mkF m 12 #[.val (.ref a), .val (.int (0 : Int32)), .val (.int N), .val (.ref b1_), .unset, .unset] [(.int r)])
  refine own_via (fun _ kq => XS.istore X3_.here hx rfl (hb hby own_d159) rfl (l' := #[.val (.ref a), .val (.int (0 : Int32)), .val (.int N), .val (.ref b1_), .val (.int r), .unset]) rfl kq) ?_
  refine own_via (fun _ kq => XS.iload X3_.here hx rfl (hb hby own_d160) rfl kq) ?_
  refine own_via (fun _ kq => XS.iloadN X3_.here hx rfl (hb hby own_d161) rfl kq) ?_
  rcases hx_ with ⟨hrN, hA⟩ | ⟨i, hi, hri, h255⟩
  · refine own_via (fun _ kq => XS.icmpYes X3_.here hx rfl (pc0 := 17) (pc' := 57) rfl (hb hby own_d162) rfl (teq hrN).1 (by decide) (by decide) kq) ?_
    show own_Fin _ _ _ _ _ _ _ T3_ (mkF m 57 #[.val (.ref a), .val (.int (0 : Int32)), .val (.int N), .val (.ref b1_), .val (.int r), .unset] [])
    refine own_via (fun _ kq => XS.aloadN X3_.here hx rfl (hb hby own_d163) rfl rfl kq) ?_
    show own_Fin _ _ _ _ _ _ _ T3_ (mkF m 58 #[.val (.ref a), .val (.int (0 : Int32)), .val (.int N), .val (.ref b1_), .val (.int r), .unset] [(.ref b1_)])
    exact own_retA X3_ hx Bd.returns Bd.notSynchronized rfl rfl (hb hby own_d164) rfl ⟨b1_, k1_, (0 : Int32), N, ws, rfl, N3_, (((Keep.refl h0 []).ext E1_).trans K3_ (allS (Or.inr (Nat.le_of_eq g1_.symm)) all0)), (Nat.le_of_eq g1_.symm), r5_, (Or.inl ⟨rfl, hN, hA⟩)⟩ (by decide) (by decide)
  · refine own_via (fun _ kq => XS.icmpNo X3_.here hx rfl (hb hby own_d162) rfl (feq (own_ofne hri hN hi (by omega))).1 kq) ?_
    show own_Fin _ _ _ _ _ _ _ T3_ (mkF m 20 #[.val (.ref a), .val (.int (0 : Int32)), .val (.int N), .val (.ref b1_), .val (.int r), .unset] [])
    refine own_via (fun _ kq => XS.aloadN X3_.here hx rfl (hb hby own_d165) rfl rfl kq) ?_
    refine own_via (fun _ kq => XS.iloadN X3_.here hx rfl (hb hby own_d166) rfl kq) ?_
    refine own_via (fun _ kq => XS.iloadN X3_.here hx rfl (hb hby own_d167) rfl kq) ?_
    show own_Fin _ _ _ _ _ _ _ T3_ (mkF m 23 #[.val (.ref a), .val (.int (0 : Int32)), .val (.int N), .val (.ref b1_), .val (.int r), .unset] [(.int N), (.int (0 : Int32)), (.ref a)])
    obtain ⟨_, _, ⟨T6_, L6_, k6_, n6_⟩, -, X6_, ⟨Lc6_, hQ6_, l6_, y6_, z6_⟩, st6_⟩ := Jvm.LawKit.callS X3_ hx (y := (⟨"java/lang/StringUTF16", "toBytes", "([CII)[B"⟩ : MethodName)) hown (mvT hZ (own_w hw 117 rfl)) (mvT hZ (own_w hw 118 rfl)) (mvT hZ (own_w hw 63 rfl)) (mvT hZ (own_w hw 119 rfl)) (by decide) (backOf (W := 0) (own_rm_toBy l Z a0 hw [] a ka N cs T3_.heap n0 (Nat.le_trans Z0 (Nat.le_trans E1_.1 K3_.1)) ((O0.ext E1_).keep K3_ (allS g4_ all0)) S3 S4 S5 ((Vc.ext E1_).keep K3_ (ninS q2_ nin0)) hN hn hp hr) hZ (own_w hw 119 rfl) (own_w hw 63 rfl) (by decide) (by decide)) (g := (mkF m 23 #[.val (.ref a), .val (.int (0 : Int32)), .val (.int N), .val (.ref b1_), .val (.int r), .unset] [(.int N), (.int (0 : Int32)), (.ref a)])) rfl (by rw [hml]; rfl) (argsL := [(.ref a), (.int (0 : Int32)), (.int N)]) (rest := []) (lenOf own_pd7 rfl) rfl (by show 2 * 0 + _ ≤ _; exact Nat.le_of_eq rfl) (hb hby own_d168) (fun _ _ => ⟨rfl, rfl, (by decide : 0 + 1 + 0 + 1 ≤ _), (by decide : 0 + 19 + 0 + 38 ≤ _)⟩)
    dsimp only [Pt.U, Pt.locs, Pt.cells, Pt.slots] at X6_ l6_ y6_ z6_ st6_ hQ6_
    subst l6_ y6_ z6_
    obtain ⟨t, kt, ws2, rfl, Nq6_, K6_, r7_, r8_, hw2⟩ := hQ6_
    have N6_ := Fr.app N3_ Nq6_
    refine own_via (fun _ kq => st6_ _ kq) ?_
    show own_Fin _ _ _ _ _ _ _ T6_ (mkF m 26 #[.val (.ref a), .val (.int (0 : Int32)), .val (.int N), .val (.ref b1_), .val (.int r), .unset] [(.ref t)])
    refine own_via (fun _ kq => XS.astore X6_.here hx rfl (hb hby own_d169) rfl rfl (l' := #[.val (.ref a), .val (.int (0 : Int32)), .val (.int N), .val (.ref b1_), .val (.int r), .val (.ref t)]) rfl kq) ?_
    refine own_via (fun _ kq => XS.aload X6_.here hx rfl (hb hby own_d170) rfl rfl kq) ?_
    refine own_via (fun _ kq => XS.iload X6_.here hx rfl (hb hby own_d171) rfl kq) ?_
    show own_Fin _ _ _ _ _ _ _ T6_ (mkF m 32 #[.val (.ref a), .val (.int (0 : Int32)), .val (.int N), .val (.ref b1_), .val (.int r), .val (.ref t)] [(.int r), (.ref t)])
    obtain ⟨_, _, ⟨T9_, L9_, k9_, n9_⟩, -, X9_, ⟨Lc9_, hQ9_, l9_, y9_, z9_⟩, st9_⟩ := Jvm.LawKit.callS X6_ hx (y := (⟨"java/lang/StringUTF16", "getChar", "([BI)C"⟩ : MethodName)) hown (mvT hZ (own_w hw 133 rfl)) (mvT hZ (own_w hw 134 rfl)) (mvT hZ (own_w hw 63 rfl)) (mvT hZ (own_w hw 135 rfl)) (by decide) (backOf (W := 0) (own_rm_getCh l Z a0 hw [] t kt (Int32.ofNat (2 * cs.length)) ws2 (cs.getD i 0) r i cs.length T6_.heap n0 (Nat.le_trans Z0 (Nat.le_trans (Nat.le_trans E1_.1 K3_.1) K6_.1)) (((O0.ext E1_).keep K3_ (allS g4_ all0)).keep K6_ all0) S3 S4 S5 r8_ hri hi (by omega) rfl (hw2 i hi).1 (hw2 i hi).2 (hr i)) hZ (own_w hw 135 rfl) (own_w hw 63 rfl) (by decide) (by decide)) (g := (mkF m 32 #[.val (.ref a), .val (.int (0 : Int32)), .val (.int N), .val (.ref b1_), .val (.int r), .val (.ref t)] [(.int r), (.ref t)])) rfl (by rw [hml]; rfl) (argsL := [(.ref t), (.int r)]) (rest := []) (lenOf own_pd8 rfl) rfl (by show 2 * 0 + _ ≤ _; exact Nat.le_of_eq rfl) (hb hby own_d172) (fun _ _ => ⟨rfl, rfl, (by decide : 0 + 1 + 0 + 1 + 0 ≤ _), (by decide : 0 + 19 + 0 + 38 + 0 ≤ _)⟩)
    dsimp only [Pt.U, Pt.locs, Pt.cells, Pt.slots] at X9_ l9_ y9_ z9_ st9_ hQ9_
    subst l9_ y9_ z9_
    obtain ⟨rfl, Nq9_, hh9_⟩ := hQ9_
    have N9_ := Fr.app N6_ Nq9_
    refine own_via (fun _ kq => st9_ _ kq) ?_
    show own_Fin _ _ _ _ _ _ _ T9_ (mkF m 35 #[.val (.ref a), .val (.int (0 : Int32)), .val (.int N), .val (.ref b1_), .val (.int r), .val (.ref t)] [(.int (cs.getD i 0))])
    refine own_via (fun _ kq => XS.sipush X9_.here hx rfl (hb hby own_d173) kq) ?_
    refine own_via (fun _ kq => XS.icmpYes X9_.here hx rfl (pc0 := 38) (pc' := 54) rfl (hb hby own_d174) rfl (tlt h255).2.2.1 (by decide) (by decide) kq) ?_
    show own_Fin _ _ _ _ _ _ _ T9_ (mkF m 54 #[.val (.ref a), .val (.int (0 : Int32)), .val (.int N), .val (.ref b1_), .val (.int r), .val (.ref t)] [])
    refine own_via (fun _ kq => XS.aload X9_.here hx rfl (hb hby own_d175) rfl rfl kq) ?_
    show own_Fin _ _ _ _ _ _ _ T9_ (mkF m 56 #[.val (.ref a), .val (.int (0 : Int32)), .val (.int N), .val (.ref b1_), .val (.int r), .val (.ref t)] [(.ref t)])
    exact own_retA X9_ hx Bd.returns Bd.notSynchronized rfl rfl (hb hby own_d176) hh9_ ⟨t, kt, (1 : Int32), (Int32.ofNat (2 * cs.length)), ws2, rfl, N9_, ((((Keep.refl h0 []).ext E1_).trans K3_ (allS (Or.inr (Nat.le_of_eq g1_.symm)) all0)).trans K6_ all0), (Nat.le_trans (Nat.le_trans E1_.1 K3_.1) r7_), r8_, (Or.inr ⟨rfl, rfl, hw2, i, hi, h255⟩)⟩ (by decide) (by decide)
theorem own_d177 : decode jdk_52_method_15_code 0 = .ok (.iload_n 1, 1) := by decide +kernel
theorem own_d178 : decode jdk_52_method_15_code 1 = .ok (.aload_n 0, 1) := by decide +kernel
theorem own_d179 : decode jdk_52_method_15_code 2 = .ok (.arraylength, 1) := by decide +kernel
theorem own_d180 : decode jdk_52_method_15_code 3 = .ok (.isub, 1) := by decide +kernel
theorem own_d181 : decode jdk_52_method_15_code 4 = .ok (.bipush 31, 2) := by decide +kernel
theorem own_d182 : decode jdk_52_method_15_code 6 = .ok (.iushr, 1) := by decide +kernel
theorem own_d183 : decode jdk_52_method_15_code 7 = .ok (.i2b, 1) := by decide +kernel
theorem own_d184 : decode jdk_52_method_15_code 8 = .ok (.ireturn, 1) := by decide +kernel
theorem own_ef_cfl (m : MethodId) (t : Addr) (N : Int32) : entryFrame m #[(.ref t), (.int N)] 2 = mkF m 0 #[.val (.ref t), .val (.int N)] [] := by (first | (simp [entryFrame, mkF, argsToLocals, Value.category]; done) | rfl)
def own_Q_cfl (Z : State) (t : Addr) (kt : ClassId) (N2 : Int32) (vs : List Value) (N : Int32) (cd : Int32) (cs : List Int32) (h0 : Heap) (n0 : Nat) (vq : Option Value) (h : Heap) (Lq : List Loc) : Prop := (vq = some (.int cd)) ∧ (Fr n0 Lq) ∧ (h = h0)
abbrev own_R_cfl : Room := { frames := 0, cells := 0, slots := 0, locals := 0 }
set_option maxRecDepth 65536 in
set_option maxHeartbeats 40000000 in
theorem own_rm_cfl (l : Launch) (Z : State) (a0 : Array Value) (hw : ∀ d ∈ tables_1, d.before a0 Z = true) (wsq : List Jvm.Cond) (t : Addr) (kt : ClassId) (N2 : Int32) (vs : List Value) (N : Int32) (cd : Int32) (cs : List Int32) (h0 : Heap) (n0 : Nat) (Z0 : n0 ≤ h0.size) (Va : Arv Z h0 t kt .byte N2 vs (.int 0)) (hc : own_cod cs cd N2 vs) (hN : N = Int32.ofNat cs.length) (hn : cs.length ≤ 19) (hp : 0 < cs.length) :
    MetFree l (⟨"java/lang/StringUTF16", "coderFromArrayLen", "([BI)B"⟩ : MethodName) (head1 (Jvm.Cond.code (⟨"java/lang/StringUTF16", "coderFromArrayLen", "([BI)B"⟩ : MethodName) jdk_52_method_15_code 2 (some .byte) :: wsq) own_R_cfl) (fun aq Uq => aq = #[(.ref t), (.int N)] ∧ Z.Warmed39 Uq.vm ∧ Uq.heap = h0) (fun _ _ _ _ _ => True) (fun _ Uq oq Uq' => ∃ vq Lq, oq = .returned vq ∧ own_Q_cfl Z t kt N2 vs N cd cs h0 n0 vq Uq'.heap Lq ∧ FrameEnd Uq oq Uq' Lq own_R_cfl.cells own_R_cfl.slots) := by
  refine MetFree.of_bodySF (plainFor_of_name own_pn3) hisR ?_
  intro p e s m args below meth cde s₁ Bd hml0 hP hK
  obtain ⟨rfl, hZ, hh⟩ := hP
  have hx := Bd.exec
  have hby := Bd.bytes
  have hml : cde.maxLocals = 2 := hml0
  have hown : s.vm.findClass "java/lang/StringUTF16" = some m.cls := findClass_of_methodNamed Bd.named
  have hnm := (name_of_methodNamed Bd.named Bd.method).1
  have X0 : Stand p l e own_R_cfl s m #[(.ref t), (.int N)] below meth cde s₁ [] 0 0 := Stand.of_body Bd
  have e0 : s₁.heap = h0 := by rw [← hh, Bd.state]; rfl
  have N0 := Fr.nil n0
  show own_Fin p e s below (own_Q_cfl Z t kt N2 vs N cd cs h0 n0) own_R_cfl.cells own_R_cfl.slots s₁ (entryFrame m #[(.ref t), (.int N)] 2)
  rw [own_ef_cfl m t N]
  refine own_via (fun _ kq => XS.iloadN X0.here hx rfl (hb hby own_d177) rfl kq) ?_
  refine own_via (fun _ kq => XS.aloadN X0.here hx rfl (hb hby own_d178) rfl rfl kq) ?_
  show own_Fin _ _ _ _ _ _ _ s₁ (mkF m 2 #[.val (.ref t), .val (.int N)] [(.ref t), (.int N)])
  obtain ⟨c1_, Ar1_, -, S1_, M1_, -, -⟩ := (id Va)
  refine own_via (fun _ kq => X0.arraylength hx (own_eq e0 Ar1_.1) (State.isArrayOf_alike hZ.alike Ar1_.2.1) (g := (mkF m 2 #[.val (.ref t), .val (.int N)] [(.ref t), (.int N)])) rfl rfl (hb hby own_d179) _ (by rw [len_of S1_ M1_]; exact kq)) ?_
  show own_Fin _ _ _ _ _ _ _ s₁ (mkF m 3 #[.val (.ref t), .val (.int N)] [(.int N2), (.int N)])
  refine own_via (fun _ kq => XS.isub X0.here hx rfl (hb hby own_d180) rfl kq) ?_
  refine own_via (fun _ kq => XS.bipush X0.here hx rfl (hb hby own_d181) kq) ?_
  refine own_via (fun _ kq => XS.iushr X0.here hx rfl (hb hby own_d182) rfl kq) ?_
  refine own_via (fun _ kq => XS.i2b X0.here hx rfl (hb hby own_d183) rfl kq) ?_
  show own_Fin _ _ _ _ _ _ _ s₁ (mkF m 8 #[.val (.ref t), .val (.int N)] [(.int ((((N - N2).toUInt32 >>> ((31 : Int32) &&& 31).toUInt32).toInt32).toInt8.toInt32))])
  exact own_retN X0 hx (t := .byte) Bd.returns Bd.notSynchronized (by simp) (hb hby own_d184) e0 (own_cfl hc hN (by omega) hp) ⟨rfl, N0, rfl⟩ (by decide) (by decide)
theorem own_d185 : decode jdk_42_method_149_code 0 = .ok (.aload_n 0, 1) := by decide +kernel
theorem own_d186 : decode jdk_42_method_149_code 1 = .ok (.invokespecial 1, 3) := by decide +kernel
theorem own_d187 : decode jdk_42_method_149_code 4 = .ok (.iload_n 3, 1) := by decide +kernel
theorem own_d188 : decode jdk_42_method_149_code 5 = .ok (.ifCond .ne 22, 3) := by decide +kernel
theorem own_d189 : decode jdk_42_method_149_code 27 = .ok (.getstatic 38, 3) := by decide +kernel
theorem own_d190 : decode jdk_42_method_149_code 30 = .ok (.ifCond .eq 28, 3) := by decide +kernel
theorem own_d191 : decode jdk_42_method_149_code 33 = .ok (.aload_n 1, 1) := by decide +kernel
theorem own_d192 : decode jdk_42_method_149_code 34 = .ok (.iload_n 2, 1) := by decide +kernel
theorem own_d193 : decode jdk_42_method_149_code 35 = .ok (.iload_n 3, 1) := by decide +kernel
theorem own_d194 : decode jdk_42_method_149_code 36 = .ok (.invokestatic 177, 3) := by decide +kernel
theorem own_d195 : decode jdk_42_method_149_code 39 = .ok (.astore 5, 2) := by decide +kernel
theorem own_d196 : decode jdk_42_method_149_code 41 = .ok (.aload_n 0, 1) := by decide +kernel
theorem own_d197 : decode jdk_42_method_149_code 42 = .ok (.aload 5, 2) := by decide +kernel
theorem own_d198 : decode jdk_42_method_149_code 44 = .ok (.iload_n 3, 1) := by decide +kernel
theorem own_d199 : decode jdk_42_method_149_code 45 = .ok (.invokestatic 47, 3) := by decide +kernel
theorem own_pd9 : parseMethodDescriptor "([BI)B" = some ⟨[(.array .byte), .int], some .byte⟩ := by decide +kernel
theorem own_d200 : decode jdk_42_method_149_code 48 = .ok (.putfield 15, 3) := by decide +kernel
theorem own_d201 : decode jdk_42_method_149_code 51 = .ok (.aload_n 0, 1) := by decide +kernel
theorem own_d202 : decode jdk_42_method_149_code 52 = .ok (.aload 5, 2) := by decide +kernel
theorem own_d203 : decode jdk_42_method_149_code 54 = .ok (.putfield 9, 3) := by decide +kernel
theorem own_d204 : decode jdk_42_method_149_code 57 = .ok (.return_, 1) := by decide +kernel
theorem own_ef_sInitW (m : MethodId) (a1 : Addr) (a : Addr) (N : Int32) : entryFrame m #[(.ref a1), (.ref a), (.int (0 : Int32)), (.int N), .null] 6 = mkF m 0 #[.val (.ref a1), .val (.ref a), .val (.int (0 : Int32)), .val (.int N), .val .null, .unset] [] := by (first | (simp [entryFrame, mkF, argsToLocals, Value.category]; done) | rfl)
def own_Q_sInitW (Z : State) (a1 : Addr) (cz : Int32) (u1 : Value) (u2 : Value) (a : Addr) (ka : ClassId) (N : Int32) (cs : List Int32) (h0 : Heap) (n0 : Nat) (vq : Option Value) (h : Heap) (Lq : List Loc) : Prop := ∃ (t : Addr) (kt : ClassId) (cd : Int32) (N2 : Int32) (vs : List Value), (vq = none) ∧ (Fr n0 Lq) ∧ (Keep h0 h [a1]) ∧ (Exa Z h a1 "java/lang/String") ∧ (Fld Z h a1 "java/lang/String" "coder" "B" (.int cd)) ∧ (Fld Z h a1 "java/lang/String" "value" "[B" (.ref t)) ∧ (h0.size ≤ t) ∧ (Arv Z h t kt .byte N2 vs (.int 0)) ∧ (own_cod cs cd N2 vs)
abbrev own_R_sInitW : Room := { frames := 4, cells := 2, slots := 57, locals := 57 }
set_option maxRecDepth 65536 in
set_option maxHeartbeats 40000000 in
theorem own_rm_sInitW (l : Launch) (Z : State) (a0 : Array Value) (hw : ∀ d ∈ tables_1, d.before a0 Z = true) (wsq : List Jvm.Cond) (a1 : Addr) (cz : Int32) (u1 : Value) (u2 : Value) (a : Addr) (ka : ClassId) (N : Int32) (cs : List Int32) (h0 : Heap) (n0 : Nat) (Z0 : n0 ≤ h0.size) (O0 : Old Z n0 h0) (S1 : Sta Z Z.heap "java/lang/String" "COMPACT_STRINGS" "Z" (.int cz)) (P5 : ¬ cz = (0 : Int32)) (S3 : Sta Z Z.heap "java/lang/StringUTF16" "$assertionsDisabled" "Z" (.int (1 : Int32))) (S4 : Sta Z Z.heap "java/lang/StringUTF16" "HI_BYTE_SHIFT" "I" (.int (0 : Int32))) (S5 : Sta Z Z.heap "java/lang/StringUTF16" "LO_BYTE_SHIFT" "I" (.int (8 : Int32))) (E1 : Exa Z h0 a1 "java/lang/String") (F1 : Fld Z h0 a1 "java/lang/String" "value" "[B" u1) (F2 : Fld Z h0 a1 "java/lang/String" "coder" "B" u2) (g1 : n0 ≤ a1) (Vc : Arv Z h0 a ka .char N (cs.map Value.int) (.int 0)) (hN : N = Int32.ofNat cs.length) (hn : cs.length ≤ 19) (hp : 0 < cs.length) (hr : own_chs cs) :
    MetFree l (⟨"java/lang/String", "<init>", "([CIILjava/lang/Void;)V"⟩ : MethodName) (head1 (Jvm.Cond.code (⟨"java/lang/String", "<init>", "([CIILjava/lang/Void;)V"⟩ : MethodName) jdk_42_method_149_code 6 none :: wsq) own_R_sInitW) (fun aq Uq => aq = #[(.ref a1), (.ref a), (.int (0 : Int32)), (.int N), .null] ∧ Z.Warmed39 Uq.vm ∧ Uq.heap = h0) (fun _ _ _ _ _ => True) (fun _ Uq oq Uq' => ∃ vq Lq, oq = .returned vq ∧ own_Q_sInitW Z a1 cz u1 u2 a ka N cs h0 n0 vq Uq'.heap Lq ∧ FrameEnd Uq oq Uq' Lq own_R_sInitW.cells own_R_sInitW.slots) := by
  refine MetFree.of_bodySF (plainFor_of_name own_pn0) hisR ?_
  intro p e s m args below meth cde s₁ Bd hml0 hP hK
  obtain ⟨rfl, hZ, hh⟩ := hP
  have hx := Bd.exec
  have hby := Bd.bytes
  have hml : cde.maxLocals = 6 := hml0
  have hown : s.vm.findClass "java/lang/String" = some m.cls := findClass_of_methodNamed Bd.named
  have hnm := (name_of_methodNamed Bd.named Bd.method).1
  have X0 : Stand p l e own_R_sInitW s m #[(.ref a1), (.ref a), (.int (0 : Int32)), (.int N), .null] below meth cde s₁ [] 0 0 := Stand.of_body Bd
  have e0 : s₁.heap = h0 := by rw [← hh, Bd.state]; rfl
  have N0 := Fr.nil n0
  show own_Fin p e s below (own_Q_sInitW Z a1 cz u1 u2 a ka N cs h0 n0) own_R_sInitW.cells own_R_sInitW.slots s₁ (entryFrame m #[(.ref a1), (.ref a), (.int (0 : Int32)), (.int N), .null] 6)
  rw [own_ef_sInitW m a1 a N]
  refine own_via (fun _ kq => XS.aloadN X0.here hx rfl (hb hby own_d185) rfl rfl kq) ?_
  show own_Fin _ _ _ _ _ _ _ s₁ (mkF m 1 #[.val (.ref a1), .val (.ref a), .val (.int (0 : Int32)), .val (.int N), .val .null, .unset] [(.ref a1)])
  obtain ⟨T1_, X1_, e1_, st1_⟩ := initO X0 hx hZ hown (own_w hw 58 rfl) (own_w hw 59 rfl) (own_w hw 60 rfl) e0 (g := (mkF m 1 #[.val (.ref a1), .val (.ref a), .val (.int (0 : Int32)), .val (.int N), .val .null, .unset] [(.ref a1)])) rfl (by rw [hml]; rfl) rfl (hb hby own_d186) (by decide) (W := 0) (by show 2 * 0 + _ ≤ _; exact Nat.le_of_eq rfl) (by decide)
  refine own_via (fun _ kq => st1_ _ kq) ?_
  show own_Fin _ _ _ _ _ _ _ T1_ (mkF m 4 #[.val (.ref a1), .val (.ref a), .val (.int (0 : Int32)), .val (.int N), .val .null, .unset] [])
  refine own_via (fun _ kq => XS.iloadN X1_.here hx rfl (hb hby own_d187) rfl kq) ?_
  refine own_via (fun _ kq => XS.ifYes X1_.here hx rfl (pc0 := 5) (pc' := 27) rfl (hb hby own_d188) rfl ((if0 _ _).trans (feq (own_nz hN hp (by omega))).2) (by decide) (by decide) kq) ?_
  show own_Fin _ _ _ _ _ _ _ T1_ (mkF m 27 #[.val (.ref a1), .val (.ref a), .val (.int (0 : Int32)), .val (.int N), .val .null, .unset] [])
  obtain ⟨T2_, X2_, e2_, st2_⟩ := getS2 X1_ hx hZ hown (host := "") (Or.inl (own_w hw 26 rfl)) Via.refl e1_ (S1.ext O0.2) (g := (mkF m 27 #[.val (.ref a1), .val (.ref a), .val (.int (0 : Int32)), .val (.int N), .val .null, .unset] [])) rfl (hb hby own_d189)
  refine own_via (fun _ kq => st2_ _ kq) ?_
  show own_Fin _ _ _ _ _ _ _ T2_ (mkF m 30 #[.val (.ref a1), .val (.ref a), .val (.int (0 : Int32)), .val (.int N), .val .null, .unset] [(.int cz)])
  refine own_via (fun _ kq => XS.ifNo X2_.here hx rfl (hb hby own_d190) rfl ((if0 _ _).trans (feq P5).1) kq) ?_
  show own_Fin _ _ _ _ _ _ _ T2_ (mkF m 33 #[.val (.ref a1), .val (.ref a), .val (.int (0 : Int32)), .val (.int N), .val .null, .unset] [])
  refine own_via (fun _ kq => XS.aloadN X2_.here hx rfl (hb hby own_d191) rfl rfl kq) ?_
  refine own_via (fun _ kq => XS.iloadN X2_.here hx rfl (hb hby own_d192) rfl kq) ?_
  refine own_via (fun _ kq => XS.iloadN X2_.here hx rfl (hb hby own_d193) rfl kq) ?_
  show own_Fin _ _ _ _ _ _ _ T2_ (mkF m 36 #[.val (.ref a1), .val (.ref a), .val (.int (0 : Int32)), .val (.int N), .val .null, .unset] [(.int N), (.int (0 : Int32)), (.ref a)])
  obtain ⟨_, _, ⟨T3_, L3_, k3_, n3_⟩, -, X3_, ⟨Lc3_, hQ3_, l3_, y3_, z3_⟩, st3_⟩ := Jvm.LawKit.callS X2_ hx (y := (⟨"java/lang/StringUTF16", "compress", "([CII)[B"⟩ : MethodName)) hown (mvT hZ (own_w hw 61 rfl)) (mvT hZ (own_w hw 62 rfl)) (mvT hZ (own_w hw 63 rfl)) (mvT hZ (own_w hw 64 rfl)) (by decide) (backOf (W := 0) (own_rm_cmp3 l Z a0 hw [] a ka N cs h0 n0 Z0 O0 S3 S4 S5 Vc hN hn hp hr) hZ (own_w hw 64 rfl) (own_w hw 63 rfl) (by decide) (by decide)) (g := (mkF m 36 #[.val (.ref a1), .val (.ref a), .val (.int (0 : Int32)), .val (.int N), .val .null, .unset] [(.int N), (.int (0 : Int32)), (.ref a)])) rfl (by rw [hml]; rfl) (argsL := [(.ref a), (.int (0 : Int32)), (.int N)]) (rest := []) (lenOf own_pd7 rfl) rfl (by show 2 * 0 + _ ≤ _; exact Nat.le_of_eq rfl) (hb hby own_d194) (fun _ _ => ⟨rfl, e2_, (by decide : 0 + 2 ≤ _), (by decide : 0 + 57 ≤ _)⟩)
  dsimp only [Pt.U, Pt.locs, Pt.cells, Pt.slots] at X3_ l3_ y3_ z3_ st3_ hQ3_
  subst l3_ y3_ z3_
  obtain ⟨t, kt, cd, N2, vs, rfl, Nq3_, K3_, r4_, r5_, hcod⟩ := hQ3_
  have N3_ := Fr.app N0 Nq3_
  refine own_via (fun _ kq => st3_ _ kq) ?_
  show own_Fin _ _ _ _ _ _ _ T3_ (mkF m 39 #[.val (.ref a1), .val (.ref a), .val (.int (0 : Int32)), .val (.int N), .val .null, .unset] [(.ref t)])
  refine own_via (fun _ kq => XS.astore X3_.here hx rfl (hb hby own_d195) rfl rfl (l' := #[.val (.ref a1), .val (.ref a), .val (.int (0 : Int32)), .val (.int N), .val .null, .val (.ref t)]) rfl kq) ?_
  refine own_via (fun _ kq => XS.aloadN X3_.here hx rfl (hb hby own_d196) rfl rfl kq) ?_
  refine own_via (fun _ kq => XS.aload X3_.here hx rfl (hb hby own_d197) rfl rfl kq) ?_
  refine own_via (fun _ kq => XS.iloadN X3_.here hx rfl (hb hby own_d198) rfl kq) ?_
  show own_Fin _ _ _ _ _ _ _ T3_ (mkF m 45 #[.val (.ref a1), .val (.ref a), .val (.int (0 : Int32)), .val (.int N), .val .null, .val (.ref t)] [(.int N), (.ref t), (.ref a1)])
  obtain ⟨_, _, ⟨T6_, L6_, k6_, n6_⟩, -, X6_, ⟨Lc6_, hQ6_, l6_, y6_, z6_⟩, st6_⟩ := Jvm.LawKit.callS X3_ hx (y := (⟨"java/lang/StringUTF16", "coderFromArrayLen", "([BI)B"⟩ : MethodName)) hown (mvT hZ (own_w hw 68 rfl)) (mvT hZ (own_w hw 69 rfl)) (mvT hZ (own_w hw 63 rfl)) (mvT hZ (own_w hw 70 rfl)) (by decide) (backOf (W := 1) (own_rm_cfl l Z a0 hw [] t kt N2 vs N cd cs T3_.heap n0 (Nat.le_trans Z0 K3_.1) r5_ hcod hN hn hp) hZ (own_w hw 70 rfl) (own_w hw 63 rfl) (by decide) (by decide)) (g := (mkF m 45 #[.val (.ref a1), .val (.ref a), .val (.int (0 : Int32)), .val (.int N), .val .null, .val (.ref t)] [(.int N), (.ref t), (.ref a1)])) rfl (by rw [hml]; rfl) (argsL := [(.ref t), (.int N)]) (rest := [(.ref a1)]) (lenOf own_pd9 rfl) rfl (by show 2 * 0 + _ ≤ _; exact Nat.le_of_eq rfl) (hb hby own_d199) (fun _ _ => ⟨rfl, rfl, (by decide : 0 + 2 + 0 ≤ _), (by decide : 0 + 57 + 0 ≤ _)⟩)
  dsimp only [Pt.U, Pt.locs, Pt.cells, Pt.slots] at X6_ l6_ y6_ z6_ st6_ hQ6_
  subst l6_ y6_ z6_
  obtain ⟨rfl, Nq6_, hh6_⟩ := hQ6_
  have N6_ := Fr.app N3_ Nq6_
  refine own_via (fun _ kq => st6_ _ kq) ?_
  show own_Fin _ _ _ _ _ _ _ T6_ (mkF m 48 #[.val (.ref a1), .val (.ref a), .val (.int (0 : Int32)), .val (.int N), .val .null, .val (.ref t)] [(.int cd), (.ref a1)])
  obtain ⟨T7_, h7_, X7_, e7_, W7_, st7_⟩ := putFN X6_ hx hZ hown (own_w hw 27 rfl) Via.refl hh6_ (F2.keep K3_ nin0) (E1.keep K3_) (Or.inr ⟨(own_w hw 5 rfl), rfl, hnm⟩) (own_w hw 2 rfl) (ty := .byte) (v' := (.int cd)) (by decide) (own_cdn (own_cod_cd hcod)) (own_cdf (own_cod_cd hcod)) (g := (mkF m 48 #[.val (.ref a1), .val (.ref a), .val (.int (0 : Int32)), .val (.int N), .val .null, .val (.ref t)] [(.int cd), (.ref a1)])) rfl rfl (hb hby own_d200)
  have Fw7_ := (F2.keep K3_ nin0).same W7_
  have N7_ := Fr.snoc X7_ N6_ g1
  refine own_via (fun _ kq => st7_ _ kq) ?_
  show own_Fin _ _ _ _ _ _ _ T7_ (mkF m 51 #[.val (.ref a1), .val (.ref a), .val (.int (0 : Int32)), .val (.int N), .val .null, .val (.ref t)] [])
  refine own_via (fun _ kq => XS.aloadN X7_.here hx rfl (hb hby own_d201) rfl rfl kq) ?_
  refine own_via (fun _ kq => XS.aload X7_.here hx rfl (hb hby own_d202) rfl rfl kq) ?_
  show own_Fin _ _ _ _ _ _ _ T7_ (mkF m 54 #[.val (.ref a1), .val (.ref a), .val (.int (0 : Int32)), .val (.int N), .val .null, .val (.ref t)] [(.ref t), (.ref a1)])
  have f9_ := ((F1.keep K3_ nin0).other W7_ (Or.inr (slot_ne (Or.inr (own_w hw 4 rfl)) (Or.inr (own_w hw 5 rfl)) (by decide) (t := (.array .byte)) (t' := .byte) (by decide) (by decide))))
  obtain ⟨T8_, h8_, X8_, e8_, W8_, st8_⟩ := putF X7_ hx hZ hown (host := "") (Or.inl (own_w hw 20 rfl)) Via.refl e7_ f9_ ((E1.keep K3_).wr W7_) (Or.inr ⟨(own_w hw 4 rfl), rfl, hnm⟩) (own_w hw 2 rfl) (ty := (.array .byte)) (by decide) rfl rfl (g := (mkF m 54 #[.val (.ref a1), .val (.ref a), .val (.int (0 : Int32)), .val (.int N), .val .null, .val (.ref t)] [(.ref t), (.ref a1)])) rfl rfl (hb hby own_d203)
  have Fw8_ := f9_.same W8_
  have N8_ := Fr.snoc X8_ N7_ g1
  refine own_via (fun _ kq => st8_ _ kq) ?_
  show own_Fin _ _ _ _ _ _ _ T8_ (mkF m 57 #[.val (.ref a1), .val (.ref a), .val (.int (0 : Int32)), .val (.int N), .val .null, .val (.ref t)] [])
  have f10_ := (Fw7_.other W8_ (Or.inr (slot_ne (Or.inr (own_w hw 5 rfl)) (Or.inr (own_w hw 4 rfl)) (by decide) (t := .byte) (t' := (.array .byte)) (by decide) (by decide))))
  have q11_ : a1 ≠ t := Nat.ne_of_lt (Nat.lt_of_lt_of_le E1.lt r4_)
  exact own_ret0 X8_ hx Bd.returns Bd.notSynchronized (hb hby own_d204) e8_ ⟨t, kt, cd, N2, vs, rfl, N8_, ((((Keep.refl h0 [a1]).trans K3_ all0).wr W7_ (Or.inl (List.mem_of_getElem? (i := 0) rfl))).wr W8_ (Or.inl (List.mem_of_getElem? (i := 0) rfl))), (((E1.keep K3_).wr W7_).wr W8_), f10_, Fw8_, r4_, ((r5_.other W7_ (Ne.symm q11_)).other W8_ (Ne.symm q11_)), hcod⟩ (by decide) (by decide)
theorem own_d205 : decode jdk_42_method_3_code 0 = .ok (.aload_n 0, 1) := by decide +kernel
theorem own_d206 : decode jdk_42_method_3_code 1 = .ok (.aload_n 1, 1) := by decide +kernel
theorem own_d207 : decode jdk_42_method_3_code 2 = .ok (.iconst 0, 1) := by decide +kernel
theorem own_d208 : decode jdk_42_method_3_code 3 = .ok (.aload_n 1, 1) := by decide +kernel
theorem own_d209 : decode jdk_42_method_3_code 4 = .ok (.arraylength, 1) := by decide +kernel
theorem own_d210 : decode jdk_42_method_3_code 5 = .ok (.aconst_null, 1) := by decide +kernel
theorem own_d211 : decode jdk_42_method_3_code 6 = .ok (.invokespecial 27, 3) := by decide +kernel
theorem own_pd10 : parseMethodDescriptor "([CIILjava/lang/Void;)V" = some ⟨[(.array .char), .int, .int, (.object "java/lang/Void")], none⟩ := by decide +kernel
theorem own_d212 : decode jdk_42_method_3_code 9 = .ok (.return_, 1) := by decide +kernel
theorem own_ef_sInitC (m : MethodId) (a1 : Addr) (a : Addr) : entryFrame m #[(.ref a1), (.ref a)] 2 = mkF m 0 #[.val (.ref a1), .val (.ref a)] [] := by (first | (simp [entryFrame, mkF, argsToLocals, Value.category]; done) | rfl)
def own_Q_sInitC (Z : State) (a1 : Addr) (cz : Int32) (u1 : Value) (u2 : Value) (a : Addr) (ka : ClassId) (N : Int32) (cs : List Int32) (h0 : Heap) (n0 : Nat) (vq : Option Value) (h : Heap) (Lq : List Loc) : Prop := ∃ (t : Addr) (kt : ClassId) (cd : Int32) (N2 : Int32) (vs : List Value), (vq = none) ∧ (Fr n0 Lq) ∧ (Keep h0 h [a1]) ∧ (Exa Z h a1 "java/lang/String") ∧ (Fld Z h a1 "java/lang/String" "coder" "B" (.int cd)) ∧ (Fld Z h a1 "java/lang/String" "value" "[B" (.ref t)) ∧ (h0.size ≤ t) ∧ (Arv Z h t kt .byte N2 vs (.int 0)) ∧ (own_cod cs cd N2 vs)
abbrev own_R_sInitC : Room := { frames := 5, cells := 2, slots := 57, locals := 74 }
set_option maxRecDepth 65536 in
set_option maxHeartbeats 40000000 in
theorem own_rm_sInitC (l : Launch) (Z : State) (a0 : Array Value) (hw : ∀ d ∈ tables_1, d.before a0 Z = true) (wsq : List Jvm.Cond) (a1 : Addr) (cz : Int32) (u1 : Value) (u2 : Value) (a : Addr) (ka : ClassId) (N : Int32) (cs : List Int32) (h0 : Heap) (n0 : Nat) (Z0 : n0 ≤ h0.size) (O0 : Old Z n0 h0) (S1 : Sta Z Z.heap "java/lang/String" "COMPACT_STRINGS" "Z" (.int cz)) (P5 : ¬ cz = (0 : Int32)) (S3 : Sta Z Z.heap "java/lang/StringUTF16" "$assertionsDisabled" "Z" (.int (1 : Int32))) (S4 : Sta Z Z.heap "java/lang/StringUTF16" "HI_BYTE_SHIFT" "I" (.int (0 : Int32))) (S5 : Sta Z Z.heap "java/lang/StringUTF16" "LO_BYTE_SHIFT" "I" (.int (8 : Int32))) (E1 : Exa Z h0 a1 "java/lang/String") (F1 : Fld Z h0 a1 "java/lang/String" "value" "[B" u1) (F2 : Fld Z h0 a1 "java/lang/String" "coder" "B" u2) (g1 : n0 ≤ a1) (Vc : Arv Z h0 a ka .char N (cs.map Value.int) (.int 0)) (hN : N = Int32.ofNat cs.length) (hn : cs.length ≤ 19) (hp : 0 < cs.length) (hr : own_chs cs) :
    MetFree l (⟨"java/lang/String", "<init>", "([C)V"⟩ : MethodName) (head1 (Jvm.Cond.code (⟨"java/lang/String", "<init>", "([C)V"⟩ : MethodName) jdk_42_method_3_code 2 none :: wsq) own_R_sInitC) (fun aq Uq => aq = #[(.ref a1), (.ref a)] ∧ Z.Warmed39 Uq.vm ∧ Uq.heap = h0) (fun _ _ _ _ _ => True) (fun _ Uq oq Uq' => ∃ vq Lq, oq = .returned vq ∧ own_Q_sInitC Z a1 cz u1 u2 a ka N cs h0 n0 vq Uq'.heap Lq ∧ FrameEnd Uq oq Uq' Lq own_R_sInitC.cells own_R_sInitC.slots) := by
  refine MetFree.of_bodySF (plainFor_of_name own_pn0) hisR ?_
  intro p e s m args below meth cde s₁ Bd hml0 hP hK
  obtain ⟨rfl, hZ, hh⟩ := hP
  have hx := Bd.exec
  have hby := Bd.bytes
  have hml : cde.maxLocals = 2 := hml0
  have hown : s.vm.findClass "java/lang/String" = some m.cls := findClass_of_methodNamed Bd.named
  have hnm := (name_of_methodNamed Bd.named Bd.method).1
  have X0 : Stand p l e own_R_sInitC s m #[(.ref a1), (.ref a)] below meth cde s₁ [] 0 0 := Stand.of_body Bd
  have e0 : s₁.heap = h0 := by rw [← hh, Bd.state]; rfl
  have N0 := Fr.nil n0
  show own_Fin p e s below (own_Q_sInitC Z a1 cz u1 u2 a ka N cs h0 n0) own_R_sInitC.cells own_R_sInitC.slots s₁ (entryFrame m #[(.ref a1), (.ref a)] 2)
  rw [own_ef_sInitC m a1 a]
  refine own_via (fun _ kq => XS.aloadN X0.here hx rfl (hb hby own_d205) rfl rfl kq) ?_
  refine own_via (fun _ kq => XS.aloadN X0.here hx rfl (hb hby own_d206) rfl rfl kq) ?_
  refine own_via (fun _ kq => XS.iconst X0.here hx rfl (hb hby own_d207) kq) ?_
  refine own_via (fun _ kq => XS.aloadN X0.here hx rfl (hb hby own_d208) rfl rfl kq) ?_
  show own_Fin _ _ _ _ _ _ _ s₁ (mkF m 4 #[.val (.ref a1), .val (.ref a)] [(.ref a), (.int (0 : Int32)), (.ref a), (.ref a1)])
  obtain ⟨c1_, Ar1_, -, S1_, M1_, -, -⟩ := (id Vc)
  refine own_via (fun _ kq => X0.arraylength hx (own_eq e0 Ar1_.1) (State.isArrayOf_alike hZ.alike Ar1_.2.1) (g := (mkF m 4 #[.val (.ref a1), .val (.ref a)] [(.ref a), (.int (0 : Int32)), (.ref a), (.ref a1)])) rfl rfl (hb hby own_d209) _ (by rw [len_of S1_ M1_]; exact kq)) ?_
  show own_Fin _ _ _ _ _ _ _ s₁ (mkF m 5 #[.val (.ref a1), .val (.ref a)] [(.int N), (.int (0 : Int32)), (.ref a), (.ref a1)])
  refine own_via (fun _ kq => XS.aconstNull X0.here hx rfl (hb hby own_d210) kq) ?_
  show own_Fin _ _ _ _ _ _ _ s₁ (mkF m 6 #[.val (.ref a1), .val (.ref a)] [.null, (.int N), (.int (0 : Int32)), (.ref a), (.ref a1)])
  obtain ⟨_, _, ⟨T2_, L2_, k2_, n2_⟩, -, X2_, ⟨Lc2_, hQ2_, l2_, y2_, z2_⟩, st2_⟩ := X0.specialBack hx (y := (⟨"java/lang/String", "<init>", "([CIILjava/lang/Void;)V"⟩ : MethodName)) rfl hown (mvT hZ (own_w hw 54 rfl)) (mvT hZ (own_w hw 55 rfl)) (mvT hZ (own_w hw 57 rfl)) (by decide) (backOf (W := 0) (own_rm_sInitW l Z a0 hw [] a1 cz u1 u2 a ka N cs h0 n0 Z0 O0 S1 P5 S3 S4 S5 E1 F1 F2 g1 Vc hN hn hp hr) hZ (own_w hw 57 rfl) (own_w hw 1 rfl) (by decide) (by decide)) (g := (mkF m 6 #[.val (.ref a1), .val (.ref a)] [.null, (.int N), (.int (0 : Int32)), (.ref a), (.ref a1)])) rfl (by rw [hml]; rfl) (Steps.refl _) (a := a1) (argsL := [(.ref a), (.int (0 : Int32)), (.int N), .null]) (rest := []) (lenOf own_pd10 rfl) rfl (by show 2 * 0 + _ ≤ _; exact Nat.le_of_eq rfl) (hb hby own_d211) (fun _ _ => ⟨rfl, e0, (by decide : 0 + 2 ≤ _), (by decide : 0 + 57 ≤ _)⟩)
  dsimp only [Pt.U, Pt.locs, Pt.cells, Pt.slots] at X2_ l2_ y2_ z2_ st2_ hQ2_
  subst l2_ y2_ z2_
  obtain ⟨t, kt, cd, N2, vs, rfl, Nq2_, K2_, r3_, r4_, r5_, r6_, r7_, hcod⟩ := hQ2_
  have N2_ := Fr.app N0 Nq2_
  refine own_via (fun _ kq => st2_.trans kq) ?_
  show own_Fin _ _ _ _ _ _ _ T2_ (mkF m 9 #[.val (.ref a1), .val (.ref a)] [])
  exact own_ret0 X2_ hx Bd.returns Bd.notSynchronized (hb hby own_d212) rfl ⟨t, kt, cd, N2, vs, rfl, N2_, ((Keep.refl h0 [a1]).trans K2_ (allS (Or.inl (List.mem_of_getElem? (i := 0) rfl)) all0)), r3_, r4_, r5_, r6_, r7_, hcod⟩ (by decide) (by decide)
theorem own_d213 : decode jdk_42_method_149_code 8 = .ok (.aload_n 0, 1) := by decide +kernel
theorem own_d214 : decode jdk_42_method_149_code 9 = .ok (.ldc 7, 2) := by decide +kernel
theorem own_d215 : decode jdk_42_method_149_code 11 = .ok (.getfield 9, 3) := by decide +kernel
theorem own_d216 : decode jdk_42_method_149_code 14 = .ok (.putfield 9, 3) := by decide +kernel
theorem own_d217 : decode jdk_42_method_149_code 17 = .ok (.aload_n 0, 1) := by decide +kernel
theorem own_d218 : decode jdk_42_method_149_code 18 = .ok (.ldc 7, 2) := by decide +kernel
theorem own_d219 : decode jdk_42_method_149_code 20 = .ok (.getfield 15, 3) := by decide +kernel
theorem own_d220 : decode jdk_42_method_149_code 23 = .ok (.putfield 15, 3) := by decide +kernel
theorem own_d221 : decode jdk_42_method_149_code 26 = .ok (.return_, 1) := by decide +kernel
theorem own_ef_sInit4 (m : MethodId) (a1 : Addr) (b : Addr) : entryFrame m #[(.ref a1), (.ref b), (.int (0 : Int32)), (.int (0 : Int32)), .null] 6 = mkF m 0 #[.val (.ref a1), .val (.ref b), .val (.int (0 : Int32)), .val (.int (0 : Int32)), .val .null, .unset] [] := by (first | (simp [entryFrame, mkF, argsToLocals, Value.category]; done) | rfl)
def own_Q_sInit4 (Z : State) (a1 : Addr) (b : Addr) (u2 : Value) (h0 : Heap) (n0 : Nat) (vq : Option Value) (h : Heap) (Lq : List Loc) : Prop := ∃ (t : Addr) (kt : ClassId), (vq = none) ∧ (Fr n0 Lq) ∧ (Keep h0 h [a1]) ∧ (Exa Z h a1 "java/lang/String") ∧ (Fld Z h a1 "java/lang/String" "coder" "B" (.int (0 : Int32))) ∧ (Fld Z h a1 "java/lang/String" "value" "[B" (.ref t)) ∧ (Arv Z h t kt .byte (0 : Int32) [] (.int 0))
abbrev own_R_sInit4 : Room := { frames := 1, cells := 4, slots := 8, locals := 12 }
set_option maxRecDepth 65536 in
set_option maxHeartbeats 40000000 in
theorem own_rm_sInit4 (l : Launch) (Z : State) (a0 : Array Value) (hw : ∀ d ∈ tables_1, d.before a0 Z = true) (wsq : List Jvm.Cond) (a1 : Addr) (b : Addr) (u2 : Value) (h0 : Heap) (n0 : Nat) (Z0 : n0 ≤ h0.size) (E1 : Exa Z h0 a1 "java/lang/String") (F1 : Fld Z h0 a1 "java/lang/String" "value" "[B" .null) (F2 : Fld Z h0 a1 "java/lang/String" "coder" "B" u2) (g1 : n0 ≤ a1) :
    MetFree l (⟨"java/lang/String", "<init>", "([CIILjava/lang/Void;)V"⟩ : MethodName) (head1 (Jvm.Cond.code (⟨"java/lang/String", "<init>", "([CIILjava/lang/Void;)V"⟩ : MethodName) jdk_42_method_149_code 6 none :: wsq) own_R_sInit4) (fun aq Uq => aq = #[(.ref a1), (.ref b), (.int (0 : Int32)), (.int (0 : Int32)), .null] ∧ Z.Warmed39 Uq.vm ∧ Uq.heap = h0 ∧ CHv Z own_EL Uq.vm h0) (fun _ _ _ _ _ => True) (fun _ Uq oq Uq' => ∃ vq Lq, oq = .returned vq ∧ own_Q_sInit4 Z a1 b u2 h0 n0 vq Uq'.heap Lq ∧ CHr Z own_EL Uq.vm Uq.heap Uq'.vm Uq'.heap ∧ ReturnedEndW Uq oq Uq' Lq own_R_sInit4.cells own_R_sInit4.slots) := by
  refine MetFree.of_bodySF (plainFor_of_name own_pn0) hisR ?_
  intro p e s m args below meth cde s₁ Bd hml0 hP hK
  obtain ⟨rfl, hZ, hh, H0⟩ := hP
  have hx := Bd.exec
  have hby := Bd.bytes
  have hml : cde.maxLocals = 6 := hml0
  have hown : s.vm.findClass "java/lang/String" = some m.cls := findClass_of_methodNamed Bd.named
  have hnm := (name_of_methodNamed Bd.named Bd.method).1
  have X0 : Stand p l e own_R_sInit4 (s.setVm s.vm) m #[(.ref a1), (.ref b), (.int (0 : Int32)), (.int (0 : Int32)), .null] below meth cde s₁ [] 0 0 := Stand.of_body Bd
  have e0 : s₁.heap = h0 := by rw [← hh, Bd.state]; rfl
  have N0 := Fr.nil n0
  have hS0 : s.Since s.vm h0.size := (State.WarmedH.refl s).since _
  have hk0 : h0.size ≤ h0.size := Nat.le_refl _
  have C0 : CHr Z own_EL s.vm h0 s.vm h0 := CHr.refl H0
  show own_FinH p e s below Z own_EL (own_Q_sInit4 Z a1 b u2 h0 n0) own_R_sInit4.cells own_R_sInit4.slots s₁ (entryFrame m #[(.ref a1), (.ref b), (.int (0 : Int32)), (.int (0 : Int32)), .null] 6)
  rw [own_ef_sInit4 m a1 b]
  refine own_viaH (fun _ kq => XS.aloadN X0.here hx rfl (hb hby own_d185) rfl rfl kq) ?_
  show own_FinH _ _ _ _ _ _ _ _ _ s₁ (mkF m 1 #[.val (.ref a1), .val (.ref b), .val (.int (0 : Int32)), .val (.int (0 : Int32)), .val .null, .unset] [(.ref a1)])
  obtain ⟨T1_, X1_, e1_, st1_⟩ := initO X0 hx hZ hown (own_w hw 58 rfl) (own_w hw 59 rfl) (own_w hw 60 rfl) e0 (g := (mkF m 1 #[.val (.ref a1), .val (.ref b), .val (.int (0 : Int32)), .val (.int (0 : Int32)), .val .null, .unset] [(.ref a1)])) rfl (by rw [hml]; rfl) rfl (hb hby own_d186) (by decide) (W := 0) (by show 2 * 0 + _ ≤ _; exact Nat.le_of_eq rfl) (by decide)
  refine own_viaH (fun _ kq => st1_ _ kq) ?_
  show own_FinH _ _ _ _ _ _ _ _ _ T1_ (mkF m 4 #[.val (.ref a1), .val (.ref b), .val (.int (0 : Int32)), .val (.int (0 : Int32)), .val .null, .unset] [])
  refine own_viaH (fun _ kq => XS.iloadN X1_.here hx rfl (hb hby own_d187) rfl kq) ?_
  refine own_viaH (fun _ kq => XS.ifNo X1_.here hx rfl (hb hby own_d188) rfl ((if0 _ _).trans (teq rfl).2) kq) ?_
  show own_FinH _ _ _ _ _ _ _ _ _ T1_ (mkF m 8 #[.val (.ref a1), .val (.ref b), .val (.int (0 : Int32)), .val (.int (0 : Int32)), .val .null, .unset] [])
  refine own_viaH (fun _ kq => XS.aloadN X1_.here hx rfl (hb hby own_d213) rfl rfl kq) ?_
  show own_FinH _ _ _ _ _ _ _ _ _ T1_ (mkF m 9 #[.val (.ref a1), .val (.ref b), .val (.int (0 : Int32)), .val (.int (0 : Int32)), .val .null, .unset] [(.ref a1)])
  obtain ⟨a2_, T2_, h2_, k2_, b2_, kb2_, X2_, e2_, E2_, hS2_, hk2_, hZ2_, hown2_, rE2_, rC2_, rV2_, rA2_, -, -, Cq2_, -, Sx2_, st2_⟩ := ldcCH X1_ hx hZ hown (own_w hw 136 rfl) (own_atoms hw) e1_ hS0 hk0 (own_ew hw) (List.mem_of_getElem? (i := 2) rfl) H0 (vs := []) (z := (0 : Int32)) ⟨by decide, by decide⟩ (by decide) (by decide) (g := (mkF m 9 #[.val (.ref a1), .val (.ref b), .val (.int (0 : Int32)), .val (.int (0 : Int32)), .val .null, .unset] [(.ref a1)])) rfl (hb hby own_d214) (n := 0) (by decide) (by decide) (by decide) (by decide)
  refine own_viaH (fun _ kq => st2_ _ kq) ?_
  show own_FinH _ _ _ _ _ _ _ _ _ T2_ (mkF m 11 #[.val (.ref a1), .val (.ref b), .val (.int (0 : Int32)), .val (.int (0 : Int32)), .val .null, .unset] [(.ref a2_), (.ref a1)])
  obtain ⟨T3_, X3_, e3_, st3_⟩ := getF X2_ hx hZ2_ hown2_ (host := "") (Or.inl (own_w hw 20 rfl)) Via.refl e2_ rV2_ (g := (mkF m 11 #[.val (.ref a1), .val (.ref b), .val (.int (0 : Int32)), .val (.int (0 : Int32)), .val .null, .unset] [(.ref a2_), (.ref a1)])) rfl rfl (hb hby own_d215)
  refine own_viaH (fun _ kq => st3_ _ kq) ?_
  show own_FinH _ _ _ _ _ _ _ _ _ T3_ (mkF m 14 #[.val (.ref a1), .val (.ref b), .val (.int (0 : Int32)), .val (.int (0 : Int32)), .val .null, .unset] [(.ref b2_), (.ref a1)])
  have sf4_ : Safe Z own_EL T2_.vm h2_ a1 := own_safe_null hZ2_.alike (E1.ext E2_) (F1.ext E2_)
  obtain ⟨T5_, h5_, X5_, e5_, W5_, st5_⟩ := putF X3_ hx hZ2_ hown2_ (host := "") (Or.inl (own_w hw 20 rfl)) Via.refl e3_ (F1.ext E2_) (E1.ext E2_) (Or.inr ⟨(own_w hw 4 rfl), rfl, hnm⟩) (own_w hw 2 rfl) (ty := (.array .byte)) (by decide) rfl rfl (g := (mkF m 14 #[.val (.ref a1), .val (.ref b), .val (.int (0 : Int32)), .val (.int (0 : Int32)), .val .null, .unset] [(.ref b2_), (.ref a1)])) rfl rfl (hb hby own_d216)
  have Fw5_ := (F1.ext E2_).same W5_
  have N5_ := Fr.snoc X5_ N0 g1
  refine own_viaH (fun _ kq => st5_ _ kq) ?_
  show own_FinH _ _ _ _ _ _ _ _ _ T5_ (mkF m 17 #[.val (.ref a1), .val (.ref b), .val (.int (0 : Int32)), .val (.int (0 : Int32)), .val .null, .unset] [])
  refine own_viaH (fun _ kq => XS.aloadN X5_.here hx rfl (hb hby own_d217) rfl rfl kq) ?_
  show own_FinH _ _ _ _ _ _ _ _ _ T5_ (mkF m 18 #[.val (.ref a1), .val (.ref b), .val (.int (0 : Int32)), .val (.int (0 : Int32)), .val .null, .unset] [(.ref a1)])
  have C7_ := C0.trans Cq2_
  have H7_ := C7_.1
  have C8_ := C7_.trans (CHr.wr W5_ sf4_ H7_)
  have H8_ := C8_.1
  obtain ⟨a6_, T6_, h6_, k6_, b6_, kb6_, X6_, e6_, E6_, hS6_, hk6_, hZ6_, hown6_, rE6_, rC6_, rV6_, rA6_, -, -, Cq6_, -, Sx6_, st6_⟩ := ldcCH X5_ hx hZ2_ hown2_ (own_w hw 136 rfl) (own_atoms hw) e5_ hS2_ (Nat.le_trans hk2_ (Keep.of_wr W5_).1) (own_ew hw) (List.mem_of_getElem? (i := 2) rfl) H8_ (vs := []) (z := (0 : Int32)) ⟨by decide, by decide⟩ (by decide) (by decide) (g := (mkF m 18 #[.val (.ref a1), .val (.ref b), .val (.int (0 : Int32)), .val (.int (0 : Int32)), .val .null, .unset] [(.ref a1)])) rfl (hb hby own_d218) (n := 0) (by decide) (by decide) (by decide) (by decide)
  refine own_viaH (fun _ kq => st6_ _ kq) ?_
  show own_FinH _ _ _ _ _ _ _ _ _ T6_ (mkF m 20 #[.val (.ref a1), .val (.ref b), .val (.int (0 : Int32)), .val (.int (0 : Int32)), .val .null, .unset] [(.ref a6_), (.ref a1)])
  obtain ⟨T9_, X9_, e9_, st9_⟩ := getF X6_ hx hZ6_ hown6_ (host := "") (Or.inl (own_w hw 27 rfl)) Via.refl e6_ rC6_ (g := (mkF m 20 #[.val (.ref a1), .val (.ref b), .val (.int (0 : Int32)), .val (.int (0 : Int32)), .val .null, .unset] [(.ref a6_), (.ref a1)])) rfl rfl (hb hby own_d219)
  refine own_viaH (fun _ kq => st9_ _ kq) ?_
  show own_FinH _ _ _ _ _ _ _ _ _ T9_ (mkF m 23 #[.val (.ref a1), .val (.ref b), .val (.int (0 : Int32)), .val (.int (0 : Int32)), .val .null, .unset] [(.int (0 : Int32)), (.ref a1)])
  have sf10_ : Safe Z own_EL T2_.vm h5_ a1 := Safe.wr W5_ sf4_ H7_ sf4_
  have sf11_ : Safe Z own_EL T6_.vm h6_ a1 := Cq6_.safe (Fw5_).lt sf10_
  have f13_ := (((F2.ext E2_).other W5_ (Or.inr (slot_ne (Or.inr (own_w hw 5 rfl)) (Or.inr (own_w hw 4 rfl)) (by decide) (t := .byte) (t' := (.array .byte)) (by decide) (by decide)))).ext E6_)
  obtain ⟨T12_, h12_, X12_, e12_, W12_, st12_⟩ := putFN X9_ hx hZ6_ hown6_ (own_w hw 27 rfl) Via.refl e9_ f13_ (((E1.ext E2_).wr W5_).ext E6_) (Or.inr ⟨(own_w hw 5 rfl), rfl, hnm⟩) (own_w hw 2 rfl) (ty := .byte) (v' := (.int (0 : Int32))) (by decide) rfl (by decide) (g := (mkF m 23 #[.val (.ref a1), .val (.ref b), .val (.int (0 : Int32)), .val (.int (0 : Int32)), .val .null, .unset] [(.int (0 : Int32)), (.ref a1)])) rfl rfl (hb hby own_d220)
  have Fw12_ := f13_.same W12_
  have N12_ := Fr.snoc X12_ N5_ g1
  refine own_viaH (fun _ kq => st12_ _ kq) ?_
  show own_FinH _ _ _ _ _ _ _ _ _ T12_ (mkF m 26 #[.val (.ref a1), .val (.ref b), .val (.int (0 : Int32)), .val (.int (0 : Int32)), .val .null, .unset] [])
  have f14_ := ((Fw5_.ext E6_).other W12_ (Or.inr (slot_ne (Or.inr (own_w hw 4 rfl)) (Or.inr (own_w hw 5 rfl)) (by decide) (t := (.array .byte)) (t' := .byte) (by decide) (by decide))))
  have q15_ : a1 ≠ b2_ := (Sx2_ _ sf4_).2
  have f16_ := (((rA2_.other W5_ (Ne.symm q15_)).ext E6_).other W12_ (Ne.symm q15_))
  have C17_ := C8_.trans Cq6_
  have H17_ := C17_.1
  have C18_ := C17_.trans (CHr.wr W12_ sf11_ H17_)
  have H18_ := C18_.1
  exact own_ret0H X12_ hx Bd.returns Bd.notSynchronized (own_ew hw) hZ6_ hS6_ (Nat.le_trans hk6_ (Keep.of_wr W12_).1) hh C18_ (hb hby own_d221) e12_ ⟨b2_, kb2_, rfl, N12_, (((((Keep.refl h0 [a1]).ext E2_).wr W5_ (Or.inl (List.mem_of_getElem? (i := 0) rfl))).ext E6_).wr W12_ (Or.inl (List.mem_of_getElem? (i := 0) rfl))), ((((E1.ext E2_).wr W5_).ext E6_).wr W12_), Fw12_, f14_, f16_⟩ (by decide) (by decide)
theorem own_ef_sInit1 (m : MethodId) (a1 : Addr) (b : Addr) : entryFrame m #[(.ref a1), (.ref b)] 2 = mkF m 0 #[.val (.ref a1), .val (.ref b)] [] := by (first | (simp [entryFrame, mkF, argsToLocals, Value.category]; done) | rfl)
def own_Q_sInit1 (Z : State) (a1 : Addr) (b : Addr) (kb : ClassId) (u2 : Value) (h0 : Heap) (n0 : Nat) (vq : Option Value) (h : Heap) (Lq : List Loc) : Prop := ∃ (t : Addr) (kt : ClassId), (vq = none) ∧ (Fr n0 Lq) ∧ (Keep h0 h [a1]) ∧ (Exa Z h a1 "java/lang/String") ∧ (Fld Z h a1 "java/lang/String" "coder" "B" (.int (0 : Int32))) ∧ (Fld Z h a1 "java/lang/String" "value" "[B" (.ref t)) ∧ (Arv Z h t kt .byte (0 : Int32) [] (.int 0))
abbrev own_R_sInit1 : Room := { frames := 2, cells := 4, slots := 8, locals := 29 }
set_option maxRecDepth 65536 in
set_option maxHeartbeats 40000000 in
theorem own_rm_sInit1 (l : Launch) (Z : State) (a0 : Array Value) (hw : ∀ d ∈ tables_1, d.before a0 Z = true) (wsq : List Jvm.Cond) (a1 : Addr) (b : Addr) (kb : ClassId) (u2 : Value) (h0 : Heap) (n0 : Nat) (Z0 : n0 ≤ h0.size) (E1 : Exa Z h0 a1 "java/lang/String") (F1 : Fld Z h0 a1 "java/lang/String" "value" "[B" .null) (F2 : Fld Z h0 a1 "java/lang/String" "coder" "B" u2) (Vb : Arv Z h0 b kb .char (0 : Int32) [] (.int 0)) (g1 : n0 ≤ a1) :
    MetFree l (⟨"java/lang/String", "<init>", "([C)V"⟩ : MethodName) (head1 (Jvm.Cond.code (⟨"java/lang/String", "<init>", "([C)V"⟩ : MethodName) jdk_42_method_3_code 2 none :: wsq) own_R_sInit1) (fun aq Uq => aq = #[(.ref a1), (.ref b)] ∧ Z.Warmed39 Uq.vm ∧ Uq.heap = h0 ∧ CHv Z own_EL Uq.vm h0) (fun _ _ _ _ _ => True) (fun _ Uq oq Uq' => ∃ vq Lq, oq = .returned vq ∧ own_Q_sInit1 Z a1 b kb u2 h0 n0 vq Uq'.heap Lq ∧ CHr Z own_EL Uq.vm Uq.heap Uq'.vm Uq'.heap ∧ ReturnedEndW Uq oq Uq' Lq own_R_sInit1.cells own_R_sInit1.slots) := by
  refine MetFree.of_bodySF (plainFor_of_name own_pn0) hisR ?_
  intro p e s m args below meth cde s₁ Bd hml0 hP hK
  obtain ⟨rfl, hZ, hh, H0⟩ := hP
  have hx := Bd.exec
  have hby := Bd.bytes
  have hml : cde.maxLocals = 2 := hml0
  have hown : s.vm.findClass "java/lang/String" = some m.cls := findClass_of_methodNamed Bd.named
  have hnm := (name_of_methodNamed Bd.named Bd.method).1
  have X0 : Stand p l e own_R_sInit1 (s.setVm s.vm) m #[(.ref a1), (.ref b)] below meth cde s₁ [] 0 0 := Stand.of_body Bd
  have e0 : s₁.heap = h0 := by rw [← hh, Bd.state]; rfl
  have N0 := Fr.nil n0
  have hS0 : s.Since s.vm h0.size := (State.WarmedH.refl s).since _
  have hk0 : h0.size ≤ h0.size := Nat.le_refl _
  have C0 : CHr Z own_EL s.vm h0 s.vm h0 := CHr.refl H0
  show own_FinH p e s below Z own_EL (own_Q_sInit1 Z a1 b kb u2 h0 n0) own_R_sInit1.cells own_R_sInit1.slots s₁ (entryFrame m #[(.ref a1), (.ref b)] 2)
  rw [own_ef_sInit1 m a1 b]
  refine own_viaH (fun _ kq => XS.aloadN X0.here hx rfl (hb hby own_d205) rfl rfl kq) ?_
  refine own_viaH (fun _ kq => XS.aloadN X0.here hx rfl (hb hby own_d206) rfl rfl kq) ?_
  refine own_viaH (fun _ kq => XS.iconst X0.here hx rfl (hb hby own_d207) kq) ?_
  refine own_viaH (fun _ kq => XS.aloadN X0.here hx rfl (hb hby own_d208) rfl rfl kq) ?_
  show own_FinH _ _ _ _ _ _ _ _ _ s₁ (mkF m 4 #[.val (.ref a1), .val (.ref b)] [(.ref b), (.int (0 : Int32)), (.ref b), (.ref a1)])
  obtain ⟨c1_, Ar1_, -, S1_, M1_, -, -⟩ := (id Vb)
  refine own_viaH (fun _ kq => X0.arraylength hx (own_eq e0 Ar1_.1) (State.isArrayOf_alike hZ.alike Ar1_.2.1) (g := (mkF m 4 #[.val (.ref a1), .val (.ref b)] [(.ref b), (.int (0 : Int32)), (.ref b), (.ref a1)])) rfl rfl (hb hby own_d209) _ (by rw [len_of S1_ M1_]; exact kq)) ?_
  show own_FinH _ _ _ _ _ _ _ _ _ s₁ (mkF m 5 #[.val (.ref a1), .val (.ref b)] [(.int (0 : Int32)), (.int (0 : Int32)), (.ref b), (.ref a1)])
  refine own_viaH (fun _ kq => XS.aconstNull X0.here hx rfl (hb hby own_d210) kq) ?_
  show own_FinH _ _ _ _ _ _ _ _ _ s₁ (mkF m 6 #[.val (.ref a1), .val (.ref b)] [.null, (.int (0 : Int32)), (.int (0 : Int32)), (.ref b), (.ref a1)])
  obtain ⟨_, _, ⟨T2_, L2_, k2_, n2_⟩, -, Y2_, hSq2_, hgq2_, ⟨Lc2_, hQ2_, l2_, y2_, z2_, Cq2_⟩, st2_⟩ := X0.specialBackS hx (y := (⟨"java/lang/String", "<init>", "([CIILjava/lang/Void;)V"⟩ : MethodName)) rfl hown (mvT hZ (own_w hw 54 rfl)) (mvT hZ (own_w hw 55 rfl)) (mvT hZ (own_w hw 57 rfl)) (by decide) (backOfSH (s := s) (vm0 := s.vm) (W := 0) (own_rm_sInit4 l Z a0 hw [] a1 b u2 h0 n0 Z0 E1 F1 F2 g1) hZ (own_w hw 57 rfl) (own_w hw 1 rfl) (by decide) (by decide) (own_ew hw) H0) (g := (mkF m 6 #[.val (.ref a1), .val (.ref b)] [.null, (.int (0 : Int32)), (.int (0 : Int32)), (.ref b), (.ref a1)])) rfl (by rw [hml]; rfl) (Steps.refl _) (a := a1) (argsL := [(.ref b), (.int (0 : Int32)), (.int (0 : Int32)), .null]) (rest := []) (lenOf own_pd10 rfl) rfl (by show 2 * 0 + _ ≤ _; exact Nat.le_of_eq rfl) (hb hby own_d211) (fun _ _ => ⟨rfl, e0, (by decide : 0 + 4 ≤ _), (by decide : 0 + 8 ≤ _)⟩)
  dsimp only [Pt.U, Pt.locs, Pt.cells, Pt.slots] at Y2_ l2_ y2_ z2_ st2_ hQ2_ hSq2_ hgq2_ Cq2_
  subst l2_ y2_ z2_
  obtain ⟨X2_, hS2_, hZ2_, hown2_⟩ := rebS hS0 (by rw [e0]; exact hk0) Y2_ hSq2_ hgq2_ hZ hown
  obtain ⟨t, kt, rfl, Nq2_, K2_, r3_, r4_, r5_, r6_⟩ := hQ2_
  have N2_ := Fr.app N0 Nq2_
  refine own_viaH (fun _ kq => st2_.trans kq) ?_
  show own_FinH _ _ _ _ _ _ _ _ _ T2_ (mkF m 9 #[.val (.ref a1), .val (.ref b)] [])
  have C7_ := C0.trans Cq2_
  have H7_ := C7_.1
  exact own_ret0H X2_ hx Bd.returns Bd.notSynchronized (own_ew hw) hZ2_ hS2_ (Nat.le_refl _) hh C7_ (hb hby own_d212) rfl ⟨t, kt, rfl, N2_, ((Keep.refl h0 [a1]).trans K2_ (allS (Or.inl (List.mem_of_getElem? (i := 0) rfl)) all0)), r3_, r4_, r5_, r6_⟩ (by decide) (by decide)
theorem own_d222 : decode jdk_42_method_56_code 0 = .ok (.aload_n 0, 1) := by decide +kernel
theorem own_d223 : decode jdk_42_method_56_code 1 = .ok (.invokevirtual 492, 3) := by decide +kernel
theorem own_pd11 : parseMethodDescriptor "()Z" = some ⟨[], some .boolean⟩ := by decide +kernel
theorem own_d224 : decode jdk_42_method_56_code 4 = .ok (.ifCond .eq 12, 3) := by decide +kernel
theorem own_d225 : decode jdk_42_method_56_code 7 = .ok (.aload_n 0, 1) := by decide +kernel
theorem own_d226 : decode jdk_42_method_56_code 8 = .ok (.getfield 9, 3) := by decide +kernel
theorem own_d227 : decode jdk_42_method_56_code 11 = .ok (.iload_n 1, 1) := by decide +kernel
theorem own_d228 : decode jdk_42_method_56_code 12 = .ok (.invokestatic 495, 3) := by decide +kernel
theorem own_d229 : decode jdk_42_method_56_code 15 = .ok (.ireturn, 1) := by decide +kernel
theorem own_ef_chAt (m : MethodId) (a1 : Addr) (j : Int32) : entryFrame m #[(.ref a1), (.int j)] 2 = mkF m 0 #[.val (.ref a1), .val (.int j)] [] := by (first | (simp [entryFrame, mkF, argsToLocals, Value.category]; done) | rfl)
def own_Q_chAt (Z : State) (a1 : Addr) (cz : Int32) (t : Addr) (kt : ClassId) (N2 : Int32) (vs : List Value) (cs : List Int32) (fm : Value) (j : Int32) (i : Nat) (h0 : Heap) (n0 : Nat) (vq : Option Value) (h : Heap) (Lq : List Loc) : Prop := (vq = some (.int (cs.getD i 0))) ∧ (Fr n0 Lq) ∧ (h = h0)
abbrev own_R_chAt : Room := { frames := 3, cells := 0, slots := 0, locals := 40 }
set_option maxRecDepth 65536 in
set_option maxHeartbeats 40000000 in
theorem own_rm_chAt (l : Launch) (Z : State) (a0 : Array Value) (hw : ∀ d ∈ tables_1, d.before a0 Z = true) (wsq : List Jvm.Cond) (a1 : Addr) (cz : Int32) (t : Addr) (kt : ClassId) (N2 : Int32) (vs : List Value) (cs : List Int32) (fm : Value) (j : Int32) (i : Nat) (h0 : Heap) (n0 : Nat) (Z0 : n0 ≤ h0.size) (O0 : Old Z n0 h0) (S1 : Sta Z Z.heap "java/lang/String" "COMPACT_STRINGS" "Z" (.int cz)) (P5 : ¬ cz = (0 : Int32)) (S2 : Sta Z Z.heap "jdk/internal/util/Preconditions" "SIOOBE_FORMATTER" "Ljava/util/function/BiFunction;" fm) (r_fm : fm.isRef = true) (E1 : Exa Z h0 a1 "java/lang/String") (F1 : Fld Z h0 a1 "java/lang/String" "coder" "B" (.int (0 : Int32))) (F2 : Fld Z h0 a1 "java/lang/String" "value" "[B" (.ref t)) (Va : Arv Z h0 t kt .byte N2 vs (.int 0)) (hA : N2 = Int32.ofNat cs.length ∧ own_thin cs vs) (hlen : cs.length ≤ 4000) (hr : own_chs cs) (hj : j = Int32.ofNat i) (hi : i < cs.length) :
    MetFree l (⟨"java/lang/String", "charAt", "(I)C"⟩ : MethodName) (head1 (Jvm.Cond.code (⟨"java/lang/String", "charAt", "(I)C"⟩ : MethodName) jdk_42_method_56_code 2 (some .char) :: wsq) own_R_chAt) (fun aq Uq => aq = #[(.ref a1), (.int j)] ∧ Z.Warmed39 Uq.vm ∧ Uq.heap = h0) (fun _ _ _ _ _ => True) (fun _ Uq oq Uq' => ∃ vq Lq, oq = .returned vq ∧ own_Q_chAt Z a1 cz t kt N2 vs cs fm j i h0 n0 vq Uq'.heap Lq ∧ FrameEnd Uq oq Uq' Lq own_R_chAt.cells own_R_chAt.slots) := by
  refine MetFree.of_bodySF (plainFor_of_name own_pn0) hisR ?_
  intro p e s m args below meth cde s₁ Bd hml0 hP hK
  obtain ⟨rfl, hZ, hh⟩ := hP
  have hx := Bd.exec
  have hby := Bd.bytes
  have hml : cde.maxLocals = 2 := hml0
  have hown : s.vm.findClass "java/lang/String" = some m.cls := findClass_of_methodNamed Bd.named
  have hnm := (name_of_methodNamed Bd.named Bd.method).1
  have X0 : Stand p l e own_R_chAt s m #[(.ref a1), (.int j)] below meth cde s₁ [] 0 0 := Stand.of_body Bd
  have e0 : s₁.heap = h0 := by rw [← hh, Bd.state]; rfl
  have N0 := Fr.nil n0
  show own_Fin p e s below (own_Q_chAt Z a1 cz t kt N2 vs cs fm j i h0 n0) own_R_chAt.cells own_R_chAt.slots s₁ (entryFrame m #[(.ref a1), (.int j)] 2)
  rw [own_ef_chAt m a1 j]
  refine own_via (fun _ kq => XS.aloadN X0.here hx rfl (hb hby own_d222) rfl rfl kq) ?_
  show own_Fin _ _ _ _ _ _ _ s₁ (mkF m 1 #[.val (.ref a1), .val (.int j)] [(.ref a1)])
  obtain ⟨cq1_, kq1_, q1_a, q1_b, q1_c⟩ := isOf hZ e0 E1
  obtain ⟨_, _, ⟨T1_, L1_, k1_, n1_⟩, -, X1_, ⟨Lc1_, hQ1_, l1_, y1_, z1_⟩, st1_⟩ := X0.virtualBack hx (y := (⟨"java/lang/String", "isLatin1", "()Z"⟩ : MethodName)) (z := (⟨"java/lang/String", "isLatin1", "()Z"⟩ : MethodName)) hown (mvT hZ (own_w hw 33 rfl)) (mvT hZ (own_w hw 34 rfl)) (notFace_of_selects (args := #[]) (mvT hZ (own_w hw 36 rfl))) (mvT hZ (own_w hw 36 rfl)) (mvT hZ (own_w hw 35 rfl)) (by decide) (backOf (W := 0) (own_rm_isLat l Z a0 hw [] a1 cz (0 : Int32) h0 n0 Z0 O0 S1 P5 F1) hZ (own_w hw 37 rfl) (own_w hw 1 rfl) (by decide) (by decide)) q1_a q1_c (g := (mkF m 1 #[.val (.ref a1), .val (.int j)] [(.ref a1)])) rfl (by rw [hml]; rfl) (Steps.refl _) (argsL := []) (rest := []) (lenOf own_pd11 rfl) rfl (by show 2 * 0 + _ ≤ _; exact Nat.le_of_eq rfl) (hb hby own_d223) (fun _ _ => ⟨rfl, e0, (by decide : 0 + 0 ≤ _), (by decide : 0 + 0 ≤ _)⟩)
  dsimp only [Pt.U, Pt.locs, Pt.cells, Pt.slots] at X1_ l1_ y1_ z1_ st1_ hQ1_
  subst l1_ y1_ z1_
  obtain ⟨r, rfl, Nq1_, hh1_, hq⟩ := hQ1_
  have N1_ := Fr.app N0 Nq1_
  refine own_via (fun _ kq => st1_.trans kq) ?_
  show own_Fin _ _ _ _ _ _ _ T1_ (mkF m 4 #[.val (.ref a1), .val (.int j)] [(.int r)])
  refine own_via (fun _ kq => XS.ifNo X1_.here hx rfl (hb hby own_d224) rfl ((if0 _ _).trans (feq (fun z => absurd rfl (hq.resolve_left fun q => absurd (q.1.symm.trans z) (by decide)).2)).1) kq) ?_
  show own_Fin _ _ _ _ _ _ _ T1_ (mkF m 7 #[.val (.ref a1), .val (.int j)] [])
  refine own_via (fun _ kq => XS.aloadN X1_.here hx rfl (hb hby own_d225) rfl rfl kq) ?_
  show own_Fin _ _ _ _ _ _ _ T1_ (mkF m 8 #[.val (.ref a1), .val (.int j)] [(.ref a1)])
  obtain ⟨T2_, X2_, e2_, st2_⟩ := getF X1_ hx hZ hown (host := "") (Or.inl (own_w hw 20 rfl)) Via.refl hh1_ F2 (g := (mkF m 8 #[.val (.ref a1), .val (.int j)] [(.ref a1)])) rfl rfl (hb hby own_d226)
  refine own_via (fun _ kq => st2_ _ kq) ?_
  show own_Fin _ _ _ _ _ _ _ T2_ (mkF m 11 #[.val (.ref a1), .val (.int j)] [(.ref t)])
  refine own_via (fun _ kq => XS.iloadN X2_.here hx rfl (hb hby own_d227) rfl kq) ?_
  show own_Fin _ _ _ _ _ _ _ T2_ (mkF m 12 #[.val (.ref a1), .val (.int j)] [(.int j), (.ref t)])
  obtain ⟨_, _, ⟨T3_, L3_, k3_, n3_⟩, -, X3_, ⟨Lc3_, hQ3_, l3_, y3_, z3_⟩, st3_⟩ := Jvm.LawKit.callS X2_ hx (y := (⟨"java/lang/StringLatin1", "charAt", "([BI)C"⟩ : MethodName)) hown (mvT hZ (own_w hw 38 rfl)) (mvT hZ (own_w hw 39 rfl)) (mvT hZ (own_w hw 40 rfl)) (mvT hZ (own_w hw 41 rfl)) (by decide) (backOf (W := 0) (own_rm_latCh l Z a0 hw [] t kt N2 vs fm (cs.getD i 0) j i cs.length h0 n0 Z0 O0 S2 r_fm Va hj hi hlen hA.1 (hA.2 i hi).1 (own_lat_of (hr i) (hA.2 i hi).2)) hZ (own_w hw 41 rfl) (own_w hw 40 rfl) (by decide) (by decide)) (g := (mkF m 12 #[.val (.ref a1), .val (.int j)] [(.int j), (.ref t)])) rfl (by rw [hml]; rfl) (argsL := [(.ref t), (.int j)]) (rest := []) (lenOf own_pd8 rfl) rfl (by show 2 * 0 + _ ≤ _; exact Nat.le_of_eq rfl) (hb hby own_d228) (fun _ _ => ⟨rfl, e2_, (by decide : 0 + 0 + 0 ≤ _), (by decide : 0 + 0 + 0 ≤ _)⟩)
  dsimp only [Pt.U, Pt.locs, Pt.cells, Pt.slots] at X3_ l3_ y3_ z3_ st3_ hQ3_
  subst l3_ y3_ z3_
  obtain ⟨rfl, Nq3_, hh3_⟩ := hQ3_
  have N3_ := Fr.app N1_ Nq3_
  refine own_via (fun _ kq => st3_ _ kq) ?_
  show own_Fin _ _ _ _ _ _ _ T3_ (mkF m 15 #[.val (.ref a1), .val (.int j)] [(.int (cs.getD i 0))])
  exact own_retN X3_ hx (t := .char) Bd.returns Bd.notSynchronized (by simp) (hb hby own_d229) hh3_ (own_narch (hr i)) ⟨rfl, N3_, rfl⟩ (by decide) (by decide)
theorem own_d230 : decode method_3_code 0 = .ok (.iload 4, 2) := by decide +kernel
theorem own_d231 : decode method_3_code 2 = .ok (.ifCond .eq 10, 3) := by decide +kernel
theorem own_d232 : decode method_3_code 12 = .ok (.iload_n 1, 1) := by decide +kernel
theorem own_d233 : decode method_3_code 13 = .ok (.aload_n 0, 1) := by decide +kernel
theorem own_d234 : decode method_3_code 14 = .ok (.invokevirtual 51, 3) := by decide +kernel
theorem own_pd12 : parseMethodDescriptor "()I" = some ⟨[], some .int⟩ := by decide +kernel
theorem own_d235 : decode method_3_code 17 = .ok (.if_icmp .ge 9, 3) := by decide +kernel
theorem own_d236 : decode method_3_code 26 = .ok (.iload_n 3, 1) := by decide +kernel
theorem own_d237 : decode method_3_code 27 = .ok (.ireturn, 1) := by decide +kernel
theorem own_d238 : decode method_3_code 20 = .ok (.aload_n 0, 1) := by decide +kernel
theorem own_d239 : decode method_3_code 21 = .ok (.iload_n 1, 1) := by decide +kernel
theorem own_d240 : decode method_3_code 22 = .ok (.invokevirtual 55, 3) := by decide +kernel
theorem own_pd13 : parseMethodDescriptor "(I)C" = some ⟨[.int], some .char⟩ := by decide +kernel
theorem own_d241 : decode method_3_code 25 = .ok (.ireturn, 1) := by decide +kernel
theorem own_d242 : decode method_3_code 5 = .ok (.iload_n 1, 1) := by decide +kernel
theorem own_d243 : decode method_3_code 6 = .ok (.iload_n 2, 1) := by decide +kernel
theorem own_d244 : decode method_3_code 7 = .ok (.if_icmp .ne 5, 3) := by decide +kernel
theorem own_d245 : decode method_3_code 10 = .ok (.iload_n 3, 1) := by decide +kernel
theorem own_d246 : decode method_3_code 11 = .ok (.ireturn, 1) := by decide +kernel
theorem own_pn4 : plainName "com/example/lichen/lichen/webhook/EventTypeOfPinLaw" = true := by first | (simp [plainName, overriddenIn]; done) | decide +kernel
theorem own_ef_pick (m : MethodId) (a1 : Addr) (j : Int32) (po : Int32) (c : Int32) (fl : Int32) : entryFrame m #[(.ref a1), (.int j), (.int po), (.int c), (.int fl)] 5 = mkF m 0 #[.val (.ref a1), .val (.int j), .val (.int po), .val (.int c), .val (.int fl)] [] := by (first | (simp [entryFrame, mkF, argsToLocals, Value.category]; done) | rfl)
def own_Q_pick (Z : State) (a1 : Addr) (cz : Int32) (t : Addr) (kt : ClassId) (N2 : Int32) (vs : List Value) (cs : List Int32) (fm : Value) (j : Int32) (i : Nat) (po : Int32) (c : Int32) (fl : Int32) (h0 : Heap) (n0 : Nat) (vq : Option Value) (h : Heap) (Lq : List Loc) : Prop := ∃ (r : Int32), (vq = some (.int r)) ∧ (Fr n0 Lq) ∧ (h = h0) ∧ (own_chr r)
abbrev own_R_pick : Room := { frames := 4, cells := 0, slots := 0, locals := 53 }
set_option maxRecDepth 65536 in
set_option maxHeartbeats 40000000 in
theorem own_rm_pick (l : Launch) (Z : State) (a0 : Array Value) (hw : ∀ d ∈ tables_1, d.before a0 Z = true) (wsq : List Jvm.Cond) (a1 : Addr) (cz : Int32) (t : Addr) (kt : ClassId) (N2 : Int32) (vs : List Value) (cs : List Int32) (fm : Value) (j : Int32) (i : Nat) (po : Int32) (c : Int32) (fl : Int32) (h0 : Heap) (n0 : Nat) (Z0 : n0 ≤ h0.size) (O0 : Old Z n0 h0) (S1 : Sta Z Z.heap "java/lang/String" "COMPACT_STRINGS" "Z" (.int cz)) (P5 : ¬ cz = (0 : Int32)) (S2 : Sta Z Z.heap "jdk/internal/util/Preconditions" "SIOOBE_FORMATTER" "Ljava/util/function/BiFunction;" fm) (r_fm : fm.isRef = true) (E1 : Exa Z h0 a1 "java/lang/String") (F1 : Fld Z h0 a1 "java/lang/String" "coder" "B" (.int (0 : Int32))) (F2 : Fld Z h0 a1 "java/lang/String" "value" "[B" (.ref t)) (Va : Arv Z h0 t kt .byte N2 vs (.int 0)) (hA : N2 = Int32.ofNat cs.length ∧ own_thin cs vs) (hlen : cs.length ≤ 4000) (hr : own_chs cs) (hj : j = Int32.ofNat i) (hi : i ≤ 4000) (hcc : own_chr c) :
    MetFree l (⟨"com/example/lichen/lichen/webhook/EventTypeOfPinLaw", "pick", "(Ljava/lang/String;IICZ)C"⟩ : MethodName) (head1 (Jvm.Cond.code (⟨"com/example/lichen/lichen/webhook/EventTypeOfPinLaw", "pick", "(Ljava/lang/String;IICZ)C"⟩ : MethodName) method_3_code 5 (some .char) :: wsq) own_R_pick) (fun aq Uq => aq = #[(.ref a1), (.int j), (.int po), (.int c), (.int fl)] ∧ Z.Warmed39 Uq.vm ∧ Uq.heap = h0) (fun _ _ _ _ _ => True) (fun _ Uq oq Uq' => ∃ vq Lq, oq = .returned vq ∧ own_Q_pick Z a1 cz t kt N2 vs cs fm j i po c fl h0 n0 vq Uq'.heap Lq ∧ FrameEnd Uq oq Uq' Lq own_R_pick.cells own_R_pick.slots) := by
  refine MetFree.of_bodySF (plainFor_of_name own_pn4) hisR ?_
  intro p e s m args below meth cde s₁ Bd hml0 hP hK
  obtain ⟨rfl, hZ, hh⟩ := hP
  have hx := Bd.exec
  have hby := Bd.bytes
  have hml : cde.maxLocals = 5 := hml0
  have hown : s.vm.findClass "com/example/lichen/lichen/webhook/EventTypeOfPinLaw" = some m.cls := findClass_of_methodNamed Bd.named
  have hnm := (name_of_methodNamed Bd.named Bd.method).1
  have X0 : Stand p l e own_R_pick s m #[(.ref a1), (.int j), (.int po), (.int c), (.int fl)] below meth cde s₁ [] 0 0 := Stand.of_body Bd
  have e0 : s₁.heap = h0 := by rw [← hh, Bd.state]; rfl
  have N0 := Fr.nil n0
  show own_Fin p e s below (own_Q_pick Z a1 cz t kt N2 vs cs fm j i po c fl h0 n0) own_R_pick.cells own_R_pick.slots s₁ (entryFrame m #[(.ref a1), (.int j), (.int po), (.int c), (.int fl)] 5)
  rw [own_ef_pick m a1 j po c fl]
  refine own_via (fun _ kq => XS.iload X0.here hx rfl (hb hby own_d230) rfl kq) ?_
  rcases Classical.em (fl = (0 : Int32)) with h1 | h1
  · refine own_via (fun _ kq => XS.ifYes X0.here hx rfl (pc0 := 2) (pc' := 12) rfl (hb hby own_d231) rfl ((if0 _ _).trans (teq h1).1) (by decide) (by decide) kq) ?_
    show own_Fin _ _ _ _ _ _ _ s₁ (mkF m 12 #[.val (.ref a1), .val (.int j), .val (.int po), .val (.int c), .val (.int fl)] [])
    refine own_via (fun _ kq => XS.iloadN X0.here hx rfl (hb hby own_d232) rfl kq) ?_
    refine own_via (fun _ kq => XS.aloadN X0.here hx rfl (hb hby own_d233) rfl rfl kq) ?_
    show own_Fin _ _ _ _ _ _ _ s₁ (mkF m 14 #[.val (.ref a1), .val (.int j), .val (.int po), .val (.int c), .val (.int fl)] [(.ref a1), (.int j)])
    obtain ⟨cq1_, kq1_, q1_a, q1_b, q1_c⟩ := isOf hZ e0 E1
    obtain ⟨_, _, ⟨T1_, L1_, k1_, n1_⟩, -, X1_, ⟨Lc1_, hQ1_, l1_, y1_, z1_⟩, st1_⟩ := X0.virtualBack hx (y := (⟨"java/lang/String", "length", "()I"⟩ : MethodName)) (z := (⟨"java/lang/String", "length", "()I"⟩ : MethodName)) hown (mvT hZ (own_w hw 15 rfl)) (mvT hZ (own_w hw 16 rfl)) (notFace_of_selects (args := #[]) (mvT hZ (own_w hw 18 rfl))) (mvT hZ (own_w hw 18 rfl)) (mvT hZ (own_w hw 17 rfl)) (by decide) (backOf (W := 1) (own_rm_len l Z a0 hw [] a1 cz t kt (0 : Int32) N2 vs cs h0 n0 Z0 O0 S1 P5 E1 F1 F2 Va (Or.inl ⟨rfl, hA⟩) hlen hr) hZ (own_w hw 19 rfl) (own_w hw 1 rfl) (by decide) (by decide)) q1_a q1_c (g := (mkF m 14 #[.val (.ref a1), .val (.int j), .val (.int po), .val (.int c), .val (.int fl)] [(.ref a1), (.int j)])) rfl (by rw [hml]; rfl) (Steps.refl _) (argsL := []) (rest := [(.int j)]) (lenOf own_pd12 rfl) rfl (by show 2 * 0 + _ ≤ _; exact Nat.le_of_eq rfl) (hb hby own_d234) (fun _ _ => ⟨rfl, e0, (by decide : 0 + 0 ≤ _), (by decide : 0 + 0 ≤ _)⟩)
    dsimp only [Pt.U, Pt.locs, Pt.cells, Pt.slots] at X1_ l1_ y1_ z1_ st1_ hQ1_
    subst l1_ y1_ z1_
    obtain ⟨rfl, Nq1_, hh1_⟩ := hQ1_
    have N1_ := Fr.app N0 Nq1_
    refine own_via (fun _ kq => st1_.trans kq) ?_
    show own_Fin _ _ _ _ _ _ _ T1_ (mkF m 17 #[.val (.ref a1), .val (.int j), .val (.int po), .val (.int c), .val (.int fl)] [(.int (Int32.ofNat cs.length)), (.int j)])
    rcases Classical.em (j < (Int32.ofNat cs.length)) with hg | hg
    · refine own_via (fun _ kq => XS.icmpNo X1_.here hx rfl (hb hby own_d235) rfl (tlt hg).2.1 kq) ?_
      show own_Fin _ _ _ _ _ _ _ T1_ (mkF m 20 #[.val (.ref a1), .val (.int j), .val (.int po), .val (.int c), .val (.int fl)] [])
      have hlt : i < cs.length := (own_ltN hj rfl (by omega) (by omega)).mp hg
      refine own_via (fun _ kq => XS.aloadN X1_.here hx rfl (hb hby own_d238) rfl rfl kq) ?_
      refine own_via (fun _ kq => XS.iloadN X1_.here hx rfl (hb hby own_d239) rfl kq) ?_
      show own_Fin _ _ _ _ _ _ _ T1_ (mkF m 22 #[.val (.ref a1), .val (.int j), .val (.int po), .val (.int c), .val (.int fl)] [(.int j), (.ref a1)])
      obtain ⟨cq2_, kq2_, q2_a, q2_b, q2_c⟩ := isOf hZ hh1_ E1
      obtain ⟨_, _, ⟨T2_, L2_, k2_, n2_⟩, -, X2_, ⟨Lc2_, hQ2_, l2_, y2_, z2_⟩, st2_⟩ := X1_.virtualBack hx (y := (⟨"java/lang/String", "charAt", "(I)C"⟩ : MethodName)) (z := (⟨"java/lang/String", "charAt", "(I)C"⟩ : MethodName)) hown (mvT hZ (own_w hw 28 rfl)) (mvT hZ (own_w hw 29 rfl)) (notFace_of_selects (args := #[]) (mvT hZ (own_w hw 31 rfl))) (mvT hZ (own_w hw 31 rfl)) (mvT hZ (own_w hw 30 rfl)) (by decide) (backOf (W := 0) (own_rm_chAt l Z a0 hw [] a1 cz t kt N2 vs cs fm j i h0 n0 Z0 O0 S1 P5 S2 r_fm E1 F1 F2 Va hA hlen hr hj hlt) hZ (own_w hw 32 rfl) (own_w hw 1 rfl) (by decide) (by decide)) q2_a q2_c (g := (mkF m 22 #[.val (.ref a1), .val (.int j), .val (.int po), .val (.int c), .val (.int fl)] [(.int j), (.ref a1)])) rfl (by rw [hml]; rfl) (Steps.refl _) (argsL := [(.int j)]) (rest := []) (lenOf own_pd13 rfl) rfl (by show 2 * 0 + _ ≤ _; exact Nat.le_of_eq rfl) (hb hby own_d240) (fun _ _ => ⟨rfl, hh1_, (by decide : 0 + 0 + 0 ≤ _), (by decide : 0 + 0 + 0 ≤ _)⟩)
      dsimp only [Pt.U, Pt.locs, Pt.cells, Pt.slots] at X2_ l2_ y2_ z2_ st2_ hQ2_
      subst l2_ y2_ z2_
      obtain ⟨rfl, Nq2_, hh2_⟩ := hQ2_
      have N2_ := Fr.app N1_ Nq2_
      refine own_via (fun _ kq => st2_.trans kq) ?_
      show own_Fin _ _ _ _ _ _ _ T2_ (mkF m 25 #[.val (.ref a1), .val (.int j), .val (.int po), .val (.int c), .val (.int fl)] [(.int (cs.getD i 0))])
      exact own_retN X2_ hx (t := .char) Bd.returns Bd.notSynchronized (by simp) (hb hby own_d241) hh2_ (own_narch (hr i)) ⟨(cs.getD i 0), rfl, N2_, rfl, (hr i)⟩ (by decide) (by decide)
    · refine own_via (fun _ kq => XS.icmpYes X1_.here hx rfl (pc0 := 17) (pc' := 26) rfl (hb hby own_d235) rfl (flt hg).2.1 (by decide) (by decide) kq) ?_
      show own_Fin _ _ _ _ _ _ _ T1_ (mkF m 26 #[.val (.ref a1), .val (.int j), .val (.int po), .val (.int c), .val (.int fl)] [])
      refine own_via (fun _ kq => XS.iloadN X1_.here hx rfl (hb hby own_d236) rfl kq) ?_
      show own_Fin _ _ _ _ _ _ _ T1_ (mkF m 27 #[.val (.ref a1), .val (.int j), .val (.int po), .val (.int c), .val (.int fl)] [(.int c)])
      exact own_retN X1_ hx (t := .char) Bd.returns Bd.notSynchronized (by simp) (hb hby own_d237) hh1_ (own_narch hcc) ⟨c, rfl, N1_, rfl, hcc⟩ (by decide) (by decide)
  · refine own_via (fun _ kq => XS.ifNo X0.here hx rfl (hb hby own_d231) rfl ((if0 _ _).trans (feq h1).1) kq) ?_
    show own_Fin _ _ _ _ _ _ _ s₁ (mkF m 5 #[.val (.ref a1), .val (.int j), .val (.int po), .val (.int c), .val (.int fl)] [])
    refine own_via (fun _ kq => XS.iloadN X0.here hx rfl (hb hby own_d242) rfl kq) ?_
    refine own_via (fun _ kq => XS.iloadN X0.here hx rfl (hb hby own_d243) rfl kq) ?_
    rcases Classical.em (j = po) with h2 | h2
    · refine own_via (fun _ kq => XS.icmpNo X0.here hx rfl (hb hby own_d244) rfl (teq h2).2 kq) ?_
      show own_Fin _ _ _ _ _ _ _ s₁ (mkF m 10 #[.val (.ref a1), .val (.int j), .val (.int po), .val (.int c), .val (.int fl)] [])
      refine own_via (fun _ kq => XS.iloadN X0.here hx rfl (hb hby own_d245) rfl kq) ?_
      show own_Fin _ _ _ _ _ _ _ s₁ (mkF m 11 #[.val (.ref a1), .val (.int j), .val (.int po), .val (.int c), .val (.int fl)] [(.int c)])
      exact own_retN X0 hx (t := .char) Bd.returns Bd.notSynchronized (by simp) (hb hby own_d246) e0 (own_narch hcc) ⟨c, rfl, N0, rfl, hcc⟩ (by decide) (by decide)
    · refine own_via (fun _ kq => XS.icmpYes X0.here hx rfl (pc0 := 7) (pc' := 12) rfl (hb hby own_d244) rfl (feq h2).2 (by decide) (by decide) kq) ?_
      show own_Fin _ _ _ _ _ _ _ s₁ (mkF m 12 #[.val (.ref a1), .val (.int j), .val (.int po), .val (.int c), .val (.int fl)] [])
      refine own_via (fun _ kq => XS.iloadN X0.here hx rfl (hb hby own_d232) rfl kq) ?_
      refine own_via (fun _ kq => XS.aloadN X0.here hx rfl (hb hby own_d233) rfl rfl kq) ?_
      show own_Fin _ _ _ _ _ _ _ s₁ (mkF m 14 #[.val (.ref a1), .val (.int j), .val (.int po), .val (.int c), .val (.int fl)] [(.ref a1), (.int j)])
      obtain ⟨cq3_, kq3_, q3_a, q3_b, q3_c⟩ := isOf hZ e0 E1
      obtain ⟨_, _, ⟨T3_, L3_, k3_, n3_⟩, -, X3_, ⟨Lc3_, hQ3_, l3_, y3_, z3_⟩, st3_⟩ := X0.virtualBack hx (y := (⟨"java/lang/String", "length", "()I"⟩ : MethodName)) (z := (⟨"java/lang/String", "length", "()I"⟩ : MethodName)) hown (mvT hZ (own_w hw 15 rfl)) (mvT hZ (own_w hw 16 rfl)) (notFace_of_selects (args := #[]) (mvT hZ (own_w hw 18 rfl))) (mvT hZ (own_w hw 18 rfl)) (mvT hZ (own_w hw 17 rfl)) (by decide) (backOf (W := 1) (own_rm_len l Z a0 hw [] a1 cz t kt (0 : Int32) N2 vs cs h0 n0 Z0 O0 S1 P5 E1 F1 F2 Va (Or.inl ⟨rfl, hA⟩) hlen hr) hZ (own_w hw 19 rfl) (own_w hw 1 rfl) (by decide) (by decide)) q3_a q3_c (g := (mkF m 14 #[.val (.ref a1), .val (.int j), .val (.int po), .val (.int c), .val (.int fl)] [(.ref a1), (.int j)])) rfl (by rw [hml]; rfl) (Steps.refl _) (argsL := []) (rest := [(.int j)]) (lenOf own_pd12 rfl) rfl (by show 2 * 0 + _ ≤ _; exact Nat.le_of_eq rfl) (hb hby own_d234) (fun _ _ => ⟨rfl, e0, (by decide : 0 + 0 ≤ _), (by decide : 0 + 0 ≤ _)⟩)
      dsimp only [Pt.U, Pt.locs, Pt.cells, Pt.slots] at X3_ l3_ y3_ z3_ st3_ hQ3_
      subst l3_ y3_ z3_
      obtain ⟨rfl, Nq3_, hh3_⟩ := hQ3_
      have N3_ := Fr.app N0 Nq3_
      refine own_via (fun _ kq => st3_.trans kq) ?_
      show own_Fin _ _ _ _ _ _ _ T3_ (mkF m 17 #[.val (.ref a1), .val (.int j), .val (.int po), .val (.int c), .val (.int fl)] [(.int (Int32.ofNat cs.length)), (.int j)])
      rcases Classical.em (j < (Int32.ofNat cs.length)) with hg | hg
      · refine own_via (fun _ kq => XS.icmpNo X3_.here hx rfl (hb hby own_d235) rfl (tlt hg).2.1 kq) ?_
        show own_Fin _ _ _ _ _ _ _ T3_ (mkF m 20 #[.val (.ref a1), .val (.int j), .val (.int po), .val (.int c), .val (.int fl)] [])
        have hlt : i < cs.length := (own_ltN hj rfl (by omega) (by omega)).mp hg
        refine own_via (fun _ kq => XS.aloadN X3_.here hx rfl (hb hby own_d238) rfl rfl kq) ?_
        refine own_via (fun _ kq => XS.iloadN X3_.here hx rfl (hb hby own_d239) rfl kq) ?_
        show own_Fin _ _ _ _ _ _ _ T3_ (mkF m 22 #[.val (.ref a1), .val (.int j), .val (.int po), .val (.int c), .val (.int fl)] [(.int j), (.ref a1)])
        obtain ⟨cq4_, kq4_, q4_a, q4_b, q4_c⟩ := isOf hZ hh3_ E1
        obtain ⟨_, _, ⟨T4_, L4_, k4_, n4_⟩, -, X4_, ⟨Lc4_, hQ4_, l4_, y4_, z4_⟩, st4_⟩ := X3_.virtualBack hx (y := (⟨"java/lang/String", "charAt", "(I)C"⟩ : MethodName)) (z := (⟨"java/lang/String", "charAt", "(I)C"⟩ : MethodName)) hown (mvT hZ (own_w hw 28 rfl)) (mvT hZ (own_w hw 29 rfl)) (notFace_of_selects (args := #[]) (mvT hZ (own_w hw 31 rfl))) (mvT hZ (own_w hw 31 rfl)) (mvT hZ (own_w hw 30 rfl)) (by decide) (backOf (W := 0) (own_rm_chAt l Z a0 hw [] a1 cz t kt N2 vs cs fm j i h0 n0 Z0 O0 S1 P5 S2 r_fm E1 F1 F2 Va hA hlen hr hj hlt) hZ (own_w hw 32 rfl) (own_w hw 1 rfl) (by decide) (by decide)) q4_a q4_c (g := (mkF m 22 #[.val (.ref a1), .val (.int j), .val (.int po), .val (.int c), .val (.int fl)] [(.int j), (.ref a1)])) rfl (by rw [hml]; rfl) (Steps.refl _) (argsL := [(.int j)]) (rest := []) (lenOf own_pd13 rfl) rfl (by show 2 * 0 + _ ≤ _; exact Nat.le_of_eq rfl) (hb hby own_d240) (fun _ _ => ⟨rfl, hh3_, (by decide : 0 + 0 + 0 ≤ _), (by decide : 0 + 0 + 0 ≤ _)⟩)
        dsimp only [Pt.U, Pt.locs, Pt.cells, Pt.slots] at X4_ l4_ y4_ z4_ st4_ hQ4_
        subst l4_ y4_ z4_
        obtain ⟨rfl, Nq4_, hh4_⟩ := hQ4_
        have N4_ := Fr.app N3_ Nq4_
        refine own_via (fun _ kq => st4_.trans kq) ?_
        show own_Fin _ _ _ _ _ _ _ T4_ (mkF m 25 #[.val (.ref a1), .val (.int j), .val (.int po), .val (.int c), .val (.int fl)] [(.int (cs.getD i 0))])
        exact own_retN X4_ hx (t := .char) Bd.returns Bd.notSynchronized (by simp) (hb hby own_d241) hh4_ (own_narch (hr i)) ⟨(cs.getD i 0), rfl, N4_, rfl, (hr i)⟩ (by decide) (by decide)
      · refine own_via (fun _ kq => XS.icmpYes X3_.here hx rfl (pc0 := 17) (pc' := 26) rfl (hb hby own_d235) rfl (flt hg).2.1 (by decide) (by decide) kq) ?_
        show own_Fin _ _ _ _ _ _ _ T3_ (mkF m 26 #[.val (.ref a1), .val (.int j), .val (.int po), .val (.int c), .val (.int fl)] [])
        refine own_via (fun _ kq => XS.iloadN X3_.here hx rfl (hb hby own_d236) rfl kq) ?_
        show own_Fin _ _ _ _ _ _ _ T3_ (mkF m 27 #[.val (.ref a1), .val (.int j), .val (.int po), .val (.int c), .val (.int fl)] [(.int c)])
        exact own_retN X3_ hx (t := .char) Bd.returns Bd.notSynchronized (by simp) (hb hby own_d237) hh3_ (own_narch hcc) ⟨c, rfl, N3_, rfl, hcc⟩ (by decide) (by decide)
theorem own_d247 : decode jdk_43_method_13_code 0 = .ok (.aload_n 0, 1) := by decide +kernel
theorem own_d248 : decode jdk_43_method_13_code 1 = .ok (.arraylength, 1) := by decide +kernel
theorem own_d249 : decode jdk_43_method_13_code 2 = .ok (.aload_n 1, 1) := by decide +kernel
theorem own_d250 : decode jdk_43_method_13_code 3 = .ok (.arraylength, 1) := by decide +kernel
theorem own_d251 : decode jdk_43_method_13_code 4 = .ok (.if_icmp .ne 30, 3) := by decide +kernel
theorem own_d252 : decode jdk_43_method_13_code 34 = .ok (.iconst 0, 1) := by decide +kernel
theorem own_d253 : decode jdk_43_method_13_code 35 = .ok (.ireturn, 1) := by decide +kernel
theorem own_d254 : decode jdk_43_method_13_code 7 = .ok (.iconst 0, 1) := by decide +kernel
theorem own_d255 : decode jdk_43_method_13_code 8 = .ok (.istore_n 2, 1) := by decide +kernel
theorem own_d256 : decode jdk_43_method_13_code 9 = .ok (.iload_n 2, 1) := by decide +kernel
theorem own_d257 : decode jdk_43_method_13_code 10 = .ok (.aload_n 0, 1) := by decide +kernel
theorem own_d258 : decode jdk_43_method_13_code 11 = .ok (.arraylength, 1) := by decide +kernel
theorem own_d259 : decode jdk_43_method_13_code 12 = .ok (.if_icmp .ge 20, 3) := by decide +kernel
theorem own_d260 : decode jdk_43_method_13_code 32 = .ok (.iconst 1, 1) := by decide +kernel
theorem own_d261 : decode jdk_43_method_13_code 33 = .ok (.ireturn, 1) := by decide +kernel
theorem own_d262 : decode jdk_43_method_13_code 15 = .ok (.aload_n 0, 1) := by decide +kernel
theorem own_d263 : decode jdk_43_method_13_code 16 = .ok (.iload_n 2, 1) := by decide +kernel
theorem own_d264 : decode jdk_43_method_13_code 17 = .ok (.baload, 1) := by decide +kernel
theorem own_d265 : decode jdk_43_method_13_code 18 = .ok (.aload_n 1, 1) := by decide +kernel
theorem own_d266 : decode jdk_43_method_13_code 19 = .ok (.iload_n 2, 1) := by decide +kernel
theorem own_d267 : decode jdk_43_method_13_code 20 = .ok (.baload, 1) := by decide +kernel
theorem own_d268 : decode jdk_43_method_13_code 21 = .ok (.if_icmp .eq 5, 3) := by decide +kernel
theorem own_d269 : decode jdk_43_method_13_code 26 = .ok (.iinc 2 1, 3) := by decide +kernel
theorem own_d270 : decode jdk_43_method_13_code 29 = .ok (.goto (-20), 3) := by decide +kernel
theorem own_d271 : decode jdk_43_method_13_code 24 = .ok (.iconst 0, 1) := by decide +kernel
theorem own_d272 : decode jdk_43_method_13_code 25 = .ok (.ireturn, 1) := by decide +kernel
theorem own_ef_beq (m : MethodId) (t : Addr) (t2 : Addr) : entryFrame m #[(.ref t), (.ref t2)] 3 = mkF m 0 #[.val (.ref t), .val (.ref t2), .unset] [] := by (first | (simp [entryFrame, mkF, argsToLocals, Value.category]; done) | rfl)
def own_Q_beq (Z : State) (t : Addr) (kt : ClassId) (N2 : Int32) (vs : List Value) (t2 : Addr) (kt2 : ClassId) (M2 : Int32) (vs2 : List Value) (n : Nat) (k2 : Nat) (h0 : Heap) (n0 : Nat) (vq : Option Value) (h : Heap) (Lq : List Loc) : Prop := ∃ (r : Int32), (vq = some (.int r)) ∧ (Fr n0 Lq) ∧ (h = h0) ∧ (own_beq n k2 vs vs2 r)
abbrev own_R_beq : Room := { frames := 0, cells := 0, slots := 0, locals := 0 }
set_option maxRecDepth 65536 in
set_option maxHeartbeats 40000000 in
theorem own_rm_beq (l : Launch) (Z : State) (a0 : Array Value) (hw : ∀ d ∈ tables_1, d.before a0 Z = true) (wsq : List Jvm.Cond) (t : Addr) (kt : ClassId) (N2 : Int32) (vs : List Value) (t2 : Addr) (kt2 : ClassId) (M2 : Int32) (vs2 : List Value) (n : Nat) (k2 : Nat) (h0 : Heap) (n0 : Nat) (Z0 : n0 ≤ h0.size) (Va : Arv Z h0 t kt .byte N2 vs (.int 0)) (Vb : Arv Z h0 t2 kt2 .byte M2 vs2 (.int 0)) (hN : N2 = Int32.ofNat n) (hM : M2 = Int32.ofNat k2) (hn : n ≤ 8000) (hm : k2 ≤ 8000) (hv1 : own_ints vs n) (hv2 : own_ints vs2 k2) :
    MetFree l (⟨"java/lang/StringLatin1", "equals", "([B[B)Z"⟩ : MethodName) (head1 (Jvm.Cond.code (⟨"java/lang/StringLatin1", "equals", "([B[B)Z"⟩ : MethodName) jdk_43_method_13_code 3 (some .boolean) :: wsq) own_R_beq) (fun aq Uq => aq = #[(.ref t), (.ref t2)] ∧ Z.Warmed39 Uq.vm ∧ Uq.heap = h0) (fun _ _ _ _ _ => True) (fun _ Uq oq Uq' => ∃ vq Lq, oq = .returned vq ∧ own_Q_beq Z t kt N2 vs t2 kt2 M2 vs2 n k2 h0 n0 vq Uq'.heap Lq ∧ FrameEnd Uq oq Uq' Lq own_R_beq.cells own_R_beq.slots) := by
  refine MetFree.of_bodySF (plainFor_of_name own_pn2) hisR ?_
  intro p e s m args below meth cde s₁ Bd hml0 hP hK
  obtain ⟨rfl, hZ, hh⟩ := hP
  have hx := Bd.exec
  have hby := Bd.bytes
  have hml : cde.maxLocals = 3 := hml0
  have hown : s.vm.findClass "java/lang/StringLatin1" = some m.cls := findClass_of_methodNamed Bd.named
  have hnm := (name_of_methodNamed Bd.named Bd.method).1
  have X0 : Stand p l e own_R_beq s m #[(.ref t), (.ref t2)] below meth cde s₁ [] 0 0 := Stand.of_body Bd
  have e0 : s₁.heap = h0 := by rw [← hh, Bd.state]; rfl
  have N0 := Fr.nil n0
  show own_Fin p e s below (own_Q_beq Z t kt N2 vs t2 kt2 M2 vs2 n k2 h0 n0) own_R_beq.cells own_R_beq.slots s₁ (entryFrame m #[(.ref t), (.ref t2)] 3)
  rw [own_ef_beq m t t2]
  refine own_via (fun _ kq => XS.aloadN X0.here hx rfl (hb hby own_d247) rfl rfl kq) ?_
  show own_Fin _ _ _ _ _ _ _ s₁ (mkF m 1 #[.val (.ref t), .val (.ref t2), .unset] [(.ref t)])
  obtain ⟨c1_, Ar1_, -, S1_, M1_, -, -⟩ := (id Va)
  refine own_via (fun _ kq => X0.arraylength hx (own_eq e0 Ar1_.1) (State.isArrayOf_alike hZ.alike Ar1_.2.1) (g := (mkF m 1 #[.val (.ref t), .val (.ref t2), .unset] [(.ref t)])) rfl rfl (hb hby own_d248) _ (by rw [len_of S1_ M1_]; exact kq)) ?_
  show own_Fin _ _ _ _ _ _ _ s₁ (mkF m 2 #[.val (.ref t), .val (.ref t2), .unset] [(.int N2)])
  refine own_via (fun _ kq => XS.aloadN X0.here hx rfl (hb hby own_d249) rfl rfl kq) ?_
  show own_Fin _ _ _ _ _ _ _ s₁ (mkF m 3 #[.val (.ref t), .val (.ref t2), .unset] [(.ref t2), (.int N2)])
  obtain ⟨c2_, Ar2_, -, S2_, M2_, -, -⟩ := (id Vb)
  refine own_via (fun _ kq => X0.arraylength hx (own_eq e0 Ar2_.1) (State.isArrayOf_alike hZ.alike Ar2_.2.1) (g := (mkF m 3 #[.val (.ref t), .val (.ref t2), .unset] [(.ref t2), (.int N2)])) rfl rfl (hb hby own_d250) _ (by rw [len_of S2_ M2_]; exact kq)) ?_
  show own_Fin _ _ _ _ _ _ _ s₁ (mkF m 4 #[.val (.ref t), .val (.ref t2), .unset] [(.int M2), (.int N2)])
  rcases Classical.em (N2 = M2) with h1 | h1
  · refine own_via (fun _ kq => XS.icmpNo X0.here hx rfl (hb hby own_d251) rfl (teq h1).2 kq) ?_
    show own_Fin _ _ _ _ _ _ _ s₁ (mkF m 7 #[.val (.ref t), .val (.ref t2), .unset] [])
    have hnm_ : n = k2 := own_ofinj hN hM h1 hn hm
    refine own_via (fun _ kq => XS.iconst X0.here hx rfl (hb hby own_d254) kq) ?_
    refine own_via (fun _ kq => XS.istoreN X0.here hx rfl (hb hby own_d255) rfl (l' := #[.val (.ref t), .val (.ref t2), .val (.int (0 : Int32))]) rfl kq) ?_
    have s9 : ∀ (k : Nat) (i : Nat) (j : Int32) (hj : j = Int32.ofNat i) (hi : i ≤ n) (hk : n ≤ i + k) (hs : ∀ q, q < i → vs.getD q (.int 0) = vs2.getD q (.int 0)), own_Fin p e s below (own_Q_beq Z t kt N2 vs t2 kt2 M2 vs2 n k2 h0 n0) own_R_beq.cells own_R_beq.slots s₁ (mkF m 9 #[.val (.ref t), .val (.ref t2), .val (.int j)] []) := by
     intro k
     induction k with
     | zero =>
      intro i j hj hi hk hs
      refine own_via (fun _ kq => XS.iloadN X0.here hx rfl (hb hby own_d256) rfl kq) ?_
      refine own_via (fun _ kq => XS.aloadN X0.here hx rfl (hb hby own_d257) rfl rfl kq) ?_
      show own_Fin _ _ _ _ _ _ _ s₁ (mkF m 11 #[.val (.ref t), .val (.ref t2), .val (.int j)] [(.ref t), (.int j)])
      obtain ⟨c3_, Ar3_, -, S3_, M3_, -, -⟩ := (id Va)
      refine own_via (fun _ kq => X0.arraylength hx (own_eq e0 Ar3_.1) (State.isArrayOf_alike hZ.alike Ar3_.2.1) (g := (mkF m 11 #[.val (.ref t), .val (.ref t2), .val (.int j)] [(.ref t), (.int j)])) rfl rfl (hb hby own_d258) _ (by rw [len_of S3_ M3_]; exact kq)) ?_
      show own_Fin _ _ _ _ _ _ _ s₁ (mkF m 12 #[.val (.ref t), .val (.ref t2), .val (.int j)] [(.int N2), (.int j)])
      refine own_via (fun _ kq => XS.icmpYes X0.here hx rfl (pc0 := 12) (pc' := 32) rfl (hb hby own_d259) rfl (flt (fun q => absurd ((own_ltN hj hN (by omega) (by omega)).mp q) (by omega))).2.1 (by decide) (by decide) kq) ?_
      show own_Fin _ _ _ _ _ _ _ s₁ (mkF m 32 #[.val (.ref t), .val (.ref t2), .val (.int j)] [])
      refine own_via (fun _ kq => XS.iconst X0.here hx rfl (hb hby own_d260) kq) ?_
      show own_Fin _ _ _ _ _ _ _ s₁ (mkF m 33 #[.val (.ref t), .val (.ref t2), .val (.int j)] [(.int (1 : Int32))])
      exact own_retN X0 hx (t := .boolean) Bd.returns Bd.notSynchronized (by simp) (hb hby own_d261) e0 rfl ⟨(1 : Int32), rfl, N0, rfl, (Or.inl ⟨rfl, hnm_, fun q hq => hs q (by omega)⟩)⟩ (by decide) (by decide)
     | succ k ih =>
      intro i j hj hi hk hs
      refine own_via (fun _ kq => XS.iloadN X0.here hx rfl (hb hby own_d256) rfl kq) ?_
      refine own_via (fun _ kq => XS.aloadN X0.here hx rfl (hb hby own_d257) rfl rfl kq) ?_
      show own_Fin _ _ _ _ _ _ _ s₁ (mkF m 11 #[.val (.ref t), .val (.ref t2), .val (.int j)] [(.ref t), (.int j)])
      obtain ⟨c4_, Ar4_, -, S4_, M4_, -, -⟩ := (id Va)
      refine own_via (fun _ kq => X0.arraylength hx (own_eq e0 Ar4_.1) (State.isArrayOf_alike hZ.alike Ar4_.2.1) (g := (mkF m 11 #[.val (.ref t), .val (.ref t2), .val (.int j)] [(.ref t), (.int j)])) rfl rfl (hb hby own_d258) _ (by rw [len_of S4_ M4_]; exact kq)) ?_
      show own_Fin _ _ _ _ _ _ _ s₁ (mkF m 12 #[.val (.ref t), .val (.ref t2), .val (.int j)] [(.int N2), (.int j)])
      rcases Classical.em (j < N2) with hg | hg
      · refine own_via (fun _ kq => XS.icmpNo X0.here hx rfl (hb hby own_d259) rfl (tlt hg).2.1 kq) ?_
        show own_Fin _ _ _ _ _ _ _ s₁ (mkF m 15 #[.val (.ref t), .val (.ref t2), .val (.int j)] [])
        have hlt : i < n := (own_ltN hj hN (by omega) (by omega)).mp hg
        obtain ⟨x1, hx1⟩ := hv1 i hlt
        obtain ⟨x2, hx2⟩ := hv2 i (by omega)
        refine own_via (fun _ kq => XS.aloadN X0.here hx rfl (hb hby own_d262) rfl rfl kq) ?_
        refine own_via (fun _ kq => XS.iloadN X0.here hx rfl (hb hby own_d263) rfl kq) ?_
        show own_Fin _ _ _ _ _ _ _ s₁ (mkF m 17 #[.val (.ref t), .val (.ref t2), .val (.int j)] [(.int j), (.ref t)])
        obtain ⟨c5_, Ar5_, q5_, S5_, M5_, H5_, G5_⟩ := (id Va)
        have hin5_ : ¬ (j < 0 ∨ c5_.slots.size ≤ (j).toNatClampNeg) := inb_of S5_ (own_inb hj hN hlt (by omega))
        have hat5_ : c5_.slots[(j).toNatClampNeg]? = some (.int x1) := H5_.at hin5_ (by rw [own_clamp hj (by omega)]; exact hx1)
        refine own_via (fun _ kq => X0.baloadBytes hx (j := j) (v := (.int x1)) (own_eq e0 Ar5_.1) (State.isArrayOf_alike hZ.alike Ar5_.2.1) Ar5_.2.2 hin5_ hat5_ (g := (mkF m 17 #[.val (.ref t), .val (.ref t2), .val (.int j)] [(.int j), (.ref t)])) rfl rfl (hb hby own_d264) _ kq) ?_
        show own_Fin _ _ _ _ _ _ _ s₁ (mkF m 18 #[.val (.ref t), .val (.ref t2), .val (.int j)] [(.int x1)])
        refine own_via (fun _ kq => XS.aloadN X0.here hx rfl (hb hby own_d265) rfl rfl kq) ?_
        refine own_via (fun _ kq => XS.iloadN X0.here hx rfl (hb hby own_d266) rfl kq) ?_
        show own_Fin _ _ _ _ _ _ _ s₁ (mkF m 20 #[.val (.ref t), .val (.ref t2), .val (.int j)] [(.int j), (.ref t2), (.int x1)])
        obtain ⟨c6_, Ar6_, q6_, S6_, M6_, H6_, G6_⟩ := (id Vb)
        have hin6_ : ¬ (j < 0 ∨ c6_.slots.size ≤ (j).toNatClampNeg) := inb_of S6_ (own_inb hj hM (by omega) (by omega))
        have hat6_ : c6_.slots[(j).toNatClampNeg]? = some (.int x2) := H6_.at hin6_ (by rw [own_clamp hj (by omega)]; exact hx2)
        refine own_via (fun _ kq => X0.baloadBytes hx (j := j) (v := (.int x2)) (own_eq e0 Ar6_.1) (State.isArrayOf_alike hZ.alike Ar6_.2.1) Ar6_.2.2 hin6_ hat6_ (g := (mkF m 20 #[.val (.ref t), .val (.ref t2), .val (.int j)] [(.int j), (.ref t2), (.int x1)])) rfl rfl (hb hby own_d267) _ kq) ?_
        show own_Fin _ _ _ _ _ _ _ s₁ (mkF m 21 #[.val (.ref t), .val (.ref t2), .val (.int j)] [(.int x2), (.int x1)])
        rcases Classical.em (x1 = x2) with he | he
        · refine own_via (fun _ kq => XS.icmpYes X0.here hx rfl (pc0 := 21) (pc' := 26) rfl (hb hby own_d268) rfl (teq he).1 (by decide) (by decide) kq) ?_
          show own_Fin _ _ _ _ _ _ _ s₁ (mkF m 26 #[.val (.ref t), .val (.ref t2), .val (.int j)] [])
          refine own_via (fun _ kq => XS.iinc X0.here hx rfl (hb hby own_d269) rfl (l' := #[.val (.ref t), .val (.ref t2), .val (.int (j + (1 : Int32)))]) rfl kq) ?_
          refine own_via (fun _ kq => XS.goto X0.here hx rfl (pc0 := 29) (pc' := 9) rfl (hb hby own_d270) (by decide) (by decide) kq) ?_
          exact ih (i + 1) _ (own_succ hj) (by omega) (by omega) (own_nextV hs (by rw [hx1, hx2, he]))
        · refine own_via (fun _ kq => XS.icmpNo X0.here hx rfl (hb hby own_d268) rfl (feq he).1 kq) ?_
          show own_Fin _ _ _ _ _ _ _ s₁ (mkF m 24 #[.val (.ref t), .val (.ref t2), .val (.int j)] [])
          refine own_via (fun _ kq => XS.iconst X0.here hx rfl (hb hby own_d271) kq) ?_
          show own_Fin _ _ _ _ _ _ _ s₁ (mkF m 25 #[.val (.ref t), .val (.ref t2), .val (.int j)] [(.int (0 : Int32))])
          exact own_retN X0 hx (t := .boolean) Bd.returns Bd.notSynchronized (by simp) (hb hby own_d272) e0 rfl ⟨(0 : Int32), rfl, N0, rfl, (Or.inr ⟨rfl, fun q => he (by have z := q.2 i hlt; rw [hx1, hx2] at z; exact Value.int.inj z)⟩)⟩ (by decide) (by decide)
      · refine own_via (fun _ kq => XS.icmpYes X0.here hx rfl (pc0 := 12) (pc' := 32) rfl (hb hby own_d259) rfl (flt hg).2.1 (by decide) (by decide) kq) ?_
        show own_Fin _ _ _ _ _ _ _ s₁ (mkF m 32 #[.val (.ref t), .val (.ref t2), .val (.int j)] [])
        have hge : n ≤ i := Nat.le_of_not_lt fun q => hg ((own_ltN hj hN (by omega) (by omega)).mpr q)
        refine own_via (fun _ kq => XS.iconst X0.here hx rfl (hb hby own_d260) kq) ?_
        show own_Fin _ _ _ _ _ _ _ s₁ (mkF m 33 #[.val (.ref t), .val (.ref t2), .val (.int j)] [(.int (1 : Int32))])
        exact own_retN X0 hx (t := .boolean) Bd.returns Bd.notSynchronized (by simp) (hb hby own_d261) e0 rfl ⟨(1 : Int32), rfl, N0, rfl, (Or.inl ⟨rfl, hnm_, fun q hq => hs q (by omega)⟩)⟩ (by decide) (by decide)
    exact s9 n 0 _ rfl (by omega) (by omega) (fun q hq => absurd hq (Nat.not_lt_zero q))
  · refine own_via (fun _ kq => XS.icmpYes X0.here hx rfl (pc0 := 4) (pc' := 34) rfl (hb hby own_d251) rfl (feq h1).2 (by decide) (by decide) kq) ?_
    show own_Fin _ _ _ _ _ _ _ s₁ (mkF m 34 #[.val (.ref t), .val (.ref t2), .unset] [])
    refine own_via (fun _ kq => XS.iconst X0.here hx rfl (hb hby own_d252) kq) ?_
    show own_Fin _ _ _ _ _ _ _ s₁ (mkF m 35 #[.val (.ref t), .val (.ref t2), .unset] [(.int (0 : Int32))])
    exact own_retN X0 hx (t := .boolean) Bd.returns Bd.notSynchronized (by simp) (hb hby own_d253) e0 rfl ⟨(0 : Int32), rfl, N0, rfl, (Or.inr ⟨rfl, fun q => h1 (by rw [hN, hM, q.1])⟩)⟩ (by decide) (by decide)
theorem own_d273 : decode jdk_42_method_66_code 0 = .ok (.aload_n 0, 1) := by decide +kernel
theorem own_d274 : decode jdk_42_method_66_code 1 = .ok (.aload_n 1, 1) := by decide +kernel
theorem own_d275 : decode jdk_42_method_66_code 2 = .ok (.if_acmp .ne 5, 3) := by decide +kernel
theorem own_d276 : decode jdk_42_method_66_code 7 = .ok (.aload_n 1, 1) := by decide +kernel
theorem own_d277 : decode jdk_42_method_66_code 8 = .ok (.instanceof 10, 3) := by decide +kernel
theorem own_d278 : decode jdk_42_method_66_code 11 = .ok (.ifCond .eq 43, 3) := by decide +kernel
theorem own_d279 : decode jdk_42_method_66_code 14 = .ok (.aload_n 1, 1) := by decide +kernel
theorem own_d280 : decode jdk_42_method_66_code 15 = .ok (.checkcast 10, 3) := by decide +kernel
theorem own_d281 : decode jdk_42_method_66_code 18 = .ok (.astore_n 2, 1) := by decide +kernel
theorem own_d282 : decode jdk_42_method_66_code 19 = .ok (.getstatic 38, 3) := by decide +kernel
theorem own_d283 : decode jdk_42_method_66_code 22 = .ok (.ifCond .eq 14, 3) := by decide +kernel
theorem own_d284 : decode jdk_42_method_66_code 25 = .ok (.aload_n 0, 1) := by decide +kernel
theorem own_d285 : decode jdk_42_method_66_code 26 = .ok (.getfield 15, 3) := by decide +kernel
theorem own_d286 : decode jdk_42_method_66_code 29 = .ok (.aload_n 2, 1) := by decide +kernel
theorem own_d287 : decode jdk_42_method_66_code 30 = .ok (.getfield 15, 3) := by decide +kernel
theorem own_d288 : decode jdk_42_method_66_code 33 = .ok (.if_icmp .ne 21, 3) := by decide +kernel
theorem own_d289 : decode jdk_42_method_66_code 54 = .ok (.iconst 0, 1) := by decide +kernel
theorem own_d290 : decode jdk_42_method_66_code 55 = .ok (.ireturn, 1) := by decide +kernel
theorem own_d291 : decode jdk_42_method_66_code 36 = .ok (.aload_n 0, 1) := by decide +kernel
theorem own_d292 : decode jdk_42_method_66_code 37 = .ok (.getfield 9, 3) := by decide +kernel
theorem own_d293 : decode jdk_42_method_66_code 40 = .ok (.aload_n 2, 1) := by decide +kernel
theorem own_d294 : decode jdk_42_method_66_code 41 = .ok (.getfield 9, 3) := by decide +kernel
theorem own_d295 : decode jdk_42_method_66_code 44 = .ok (.invokestatic 541, 3) := by decide +kernel
theorem own_pd14 : parseMethodDescriptor "([B[B)Z" = some ⟨[(.array .byte), (.array .byte)], some .boolean⟩ := by decide +kernel
theorem own_d296 : decode jdk_42_method_66_code 47 = .ok (.ifCond .eq 7, 3) := by decide +kernel
theorem own_d297 : decode jdk_42_method_66_code 50 = .ok (.iconst 1, 1) := by decide +kernel
theorem own_d298 : decode jdk_42_method_66_code 51 = .ok (.goto 4, 3) := by decide +kernel
theorem own_ef_eqS (m : MethodId) (a1 : Addr) (a2 : Addr) : entryFrame m #[(.ref a1), (.ref a2)] 3 = mkF m 0 #[.val (.ref a1), .val (.ref a2), .unset] [] := by (first | (simp [entryFrame, mkF, argsToLocals, Value.category]; done) | rfl)
def own_Q_eqS (Z : State) (a1 : Addr) (cz : Int32) (t : Addr) (kt : ClassId) (cd : Int32) (N2 : Int32) (vs : List Value) (cs : List Int32) (a2 : Addr) (t2 : Addr) (kt2 : ClassId) (cd2 : Int32) (M2 : Int32) (vs2 : List Value) (ds : List Int32) (h0 : Heap) (n0 : Nat) (vq : Option Value) (h : Heap) (Lq : List Loc) : Prop := ∃ (r : Int32), (vq = some (.int r)) ∧ (Fr n0 Lq) ∧ (h = h0) ∧ ((r = (1 : Int32) ∧ cs = ds) ∨ (r = (0 : Int32) ∧ ¬ cs = ds))
abbrev own_R_eqS : Room := { frames := 1, cells := 0, slots := 0, locals := 14 }
set_option maxRecDepth 65536 in
set_option maxHeartbeats 40000000 in
theorem own_rm_eqS (l : Launch) (Z : State) (a0 : Array Value) (hw : ∀ d ∈ tables_1, d.before a0 Z = true) (wsq : List Jvm.Cond) (a1 : Addr) (cz : Int32) (t : Addr) (kt : ClassId) (cd : Int32) (N2 : Int32) (vs : List Value) (cs : List Int32) (a2 : Addr) (t2 : Addr) (kt2 : ClassId) (cd2 : Int32) (M2 : Int32) (vs2 : List Value) (ds : List Int32) (h0 : Heap) (n0 : Nat) (Z0 : n0 ≤ h0.size) (O0 : Old Z n0 h0) (S1 : Sta Z Z.heap "java/lang/String" "COMPACT_STRINGS" "Z" (.int cz)) (P5 : ¬ cz = (0 : Int32)) (E1 : Exa Z h0 a1 "java/lang/String") (F1 : Fld Z h0 a1 "java/lang/String" "coder" "B" (.int cd)) (F2 : Fld Z h0 a1 "java/lang/String" "value" "[B" (.ref t)) (Va : Arv Z h0 t kt .byte N2 vs (.int 0)) (hc : own_cod cs cd N2 vs) (hlen : cs.length ≤ 4000) (hr : own_chs cs) (E2 : Exa Z h0 a2 "java/lang/String") (F3 : Fld Z h0 a2 "java/lang/String" "coder" "B" (.int cd2)) (F4 : Fld Z h0 a2 "java/lang/String" "value" "[B" (.ref t2)) (Vb : Arv Z h0 t2 kt2 .byte M2 vs2 (.int 0)) (hc2 : own_cod ds cd2 M2 vs2) (hlen2 : ds.length ≤ 4000) (hr2 : own_chs ds) (hne : a1 ≠ a2) :
    MetFree l (⟨"java/lang/String", "equals", "(Ljava/lang/Object;)Z"⟩ : MethodName) (head1 (Jvm.Cond.code (⟨"java/lang/String", "equals", "(Ljava/lang/Object;)Z"⟩ : MethodName) jdk_42_method_66_code 3 (some .boolean) :: wsq) own_R_eqS) (fun aq Uq => aq = #[(.ref a1), (.ref a2)] ∧ Z.Warmed39 Uq.vm ∧ Uq.heap = h0) (fun _ _ _ _ _ => True) (fun _ Uq oq Uq' => ∃ vq Lq, oq = .returned vq ∧ own_Q_eqS Z a1 cz t kt cd N2 vs cs a2 t2 kt2 cd2 M2 vs2 ds h0 n0 vq Uq'.heap Lq ∧ FrameEnd Uq oq Uq' Lq own_R_eqS.cells own_R_eqS.slots) := by
  refine MetFree.of_bodySF (plainFor_of_name own_pn0) hisR ?_
  intro p e s m args below meth cde s₁ Bd hml0 hP hK
  obtain ⟨rfl, hZ, hh⟩ := hP
  have hx := Bd.exec
  have hby := Bd.bytes
  have hml : cde.maxLocals = 3 := hml0
  have hown : s.vm.findClass "java/lang/String" = some m.cls := findClass_of_methodNamed Bd.named
  have hnm := (name_of_methodNamed Bd.named Bd.method).1
  have X0 : Stand p l e own_R_eqS s m #[(.ref a1), (.ref a2)] below meth cde s₁ [] 0 0 := Stand.of_body Bd
  have e0 : s₁.heap = h0 := by rw [← hh, Bd.state]; rfl
  have N0 := Fr.nil n0
  show own_Fin p e s below (own_Q_eqS Z a1 cz t kt cd N2 vs cs a2 t2 kt2 cd2 M2 vs2 ds h0 n0) own_R_eqS.cells own_R_eqS.slots s₁ (entryFrame m #[(.ref a1), (.ref a2)] 3)
  rw [own_ef_eqS m a1 a2]
  obtain ⟨nb, b1, b2, b3⟩ := own_cod_ints hc hlen
  obtain ⟨mb, d1, d2, d3⟩ := own_cod_ints hc2 hlen2
  refine own_via (fun _ kq => XS.aloadN X0.here hx rfl (hb hby own_d273) rfl rfl kq) ?_
  refine own_via (fun _ kq => XS.aloadN X0.here hx rfl (hb hby own_d274) rfl rfl kq) ?_
  show own_Fin _ _ _ _ _ _ _ s₁ (mkF m 2 #[.val (.ref a1), .val (.ref a2), .unset] [(.ref a2), (.ref a1)])
  refine own_via (fun _ kq => Jvm.RoadKit.acmp (g := (mkF m 2 #[.val (.ref a1), .val (.ref a2), .unset] [(.ref a2), (.ref a1)])) X0 hx rfl rfl rfl (pc0 := 2) (pc' := 7) (same := false) rfl (hb hby own_d275) rfl (decide_eq_false fun q => hne (Value.ref.inj q)) (by decide) (by decide) kq) ?_
  show own_Fin _ _ _ _ _ _ _ s₁ (mkF m 7 #[.val (.ref a1), .val (.ref a2), .unset] [])
  refine own_via (fun _ kq => XS.aloadN X0.here hx rfl (hb hby own_d276) rfl rfl kq) ?_
  show own_Fin _ _ _ _ _ _ _ s₁ (mkF m 8 #[.val (.ref a1), .val (.ref a2), .unset] [(.ref a2)])
  obtain ⟨T1_, X1_, e1_, st1_⟩ := instY X0 hx hZ hown (own_w hw 76 rfl) e0 (Ins.self E2) (g := (mkF m 8 #[.val (.ref a1), .val (.ref a2), .unset] [(.ref a2)])) rfl rfl (hb hby own_d277)
  refine own_via (fun _ kq => st1_ _ kq) ?_
  show own_Fin _ _ _ _ _ _ _ T1_ (mkF m 11 #[.val (.ref a1), .val (.ref a2), .unset] [(.int (1 : Int32))])
  refine own_via (fun _ kq => XS.ifNo X1_.here hx rfl (hb hby own_d278) rfl ((if0 _ _).trans (feq (by decide)).1) kq) ?_
  show own_Fin _ _ _ _ _ _ _ T1_ (mkF m 14 #[.val (.ref a1), .val (.ref a2), .unset] [])
  refine own_via (fun _ kq => XS.aloadN X1_.here hx rfl (hb hby own_d279) rfl rfl kq) ?_
  show own_Fin _ _ _ _ _ _ _ T1_ (mkF m 15 #[.val (.ref a1), .val (.ref a2), .unset] [(.ref a2)])
  obtain ⟨T2_, X2_, e2_, st2_⟩ := castY X1_ hx hZ hown (own_w hw 76 rfl) e1_ (Ins.self E2) (g := (mkF m 15 #[.val (.ref a1), .val (.ref a2), .unset] [(.ref a2)])) rfl rfl (hb hby own_d280)
  refine own_via (fun _ kq => st2_ _ kq) ?_
  show own_Fin _ _ _ _ _ _ _ T2_ (mkF m 18 #[.val (.ref a1), .val (.ref a2), .unset] [(.ref a2)])
  refine own_via (fun _ kq => XS.astoreN X2_.here hx rfl (hb hby own_d281) rfl rfl (l' := #[.val (.ref a1), .val (.ref a2), .val (.ref a2)]) rfl kq) ?_
  show own_Fin _ _ _ _ _ _ _ T2_ (mkF m 19 #[.val (.ref a1), .val (.ref a2), .val (.ref a2)] [])
  obtain ⟨T3_, X3_, e3_, st3_⟩ := getS2 X2_ hx hZ hown (host := "") (Or.inl (own_w hw 26 rfl)) Via.refl e2_ (S1.ext O0.2) (g := (mkF m 19 #[.val (.ref a1), .val (.ref a2), .val (.ref a2)] [])) rfl (hb hby own_d282)
  refine own_via (fun _ kq => st3_ _ kq) ?_
  show own_Fin _ _ _ _ _ _ _ T3_ (mkF m 22 #[.val (.ref a1), .val (.ref a2), .val (.ref a2)] [(.int cz)])
  refine own_via (fun _ kq => XS.ifNo X3_.here hx rfl (hb hby own_d283) rfl ((if0 _ _).trans (feq P5).1) kq) ?_
  show own_Fin _ _ _ _ _ _ _ T3_ (mkF m 25 #[.val (.ref a1), .val (.ref a2), .val (.ref a2)] [])
  refine own_via (fun _ kq => XS.aloadN X3_.here hx rfl (hb hby own_d284) rfl rfl kq) ?_
  show own_Fin _ _ _ _ _ _ _ T3_ (mkF m 26 #[.val (.ref a1), .val (.ref a2), .val (.ref a2)] [(.ref a1)])
  obtain ⟨T4_, X4_, e4_, st4_⟩ := getF X3_ hx hZ hown (host := "") (Or.inl (own_w hw 27 rfl)) Via.refl e3_ F1 (g := (mkF m 26 #[.val (.ref a1), .val (.ref a2), .val (.ref a2)] [(.ref a1)])) rfl rfl (hb hby own_d285)
  refine own_via (fun _ kq => st4_ _ kq) ?_
  show own_Fin _ _ _ _ _ _ _ T4_ (mkF m 29 #[.val (.ref a1), .val (.ref a2), .val (.ref a2)] [(.int cd)])
  refine own_via (fun _ kq => XS.aloadN X4_.here hx rfl (hb hby own_d286) rfl rfl kq) ?_
  show own_Fin _ _ _ _ _ _ _ T4_ (mkF m 30 #[.val (.ref a1), .val (.ref a2), .val (.ref a2)] [(.ref a2), (.int cd)])
  obtain ⟨T5_, X5_, e5_, st5_⟩ := getF X4_ hx hZ hown (host := "") (Or.inl (own_w hw 27 rfl)) Via.refl e4_ F3 (g := (mkF m 30 #[.val (.ref a1), .val (.ref a2), .val (.ref a2)] [(.ref a2), (.int cd)])) rfl rfl (hb hby own_d287)
  refine own_via (fun _ kq => st5_ _ kq) ?_
  show own_Fin _ _ _ _ _ _ _ T5_ (mkF m 33 #[.val (.ref a1), .val (.ref a2), .val (.ref a2)] [(.int cd2), (.int cd)])
  rcases Classical.em (cd = cd2) with h1 | h1
  · refine own_via (fun _ kq => XS.icmpNo X5_.here hx rfl (hb hby own_d288) rfl (teq h1).2 kq) ?_
    show own_Fin _ _ _ _ _ _ _ T5_ (mkF m 36 #[.val (.ref a1), .val (.ref a2), .val (.ref a2)] [])
    refine own_via (fun _ kq => XS.aloadN X5_.here hx rfl (hb hby own_d291) rfl rfl kq) ?_
    show own_Fin _ _ _ _ _ _ _ T5_ (mkF m 37 #[.val (.ref a1), .val (.ref a2), .val (.ref a2)] [(.ref a1)])
    obtain ⟨T6_, X6_, e6_, st6_⟩ := getF X5_ hx hZ hown (host := "") (Or.inl (own_w hw 20 rfl)) Via.refl e5_ F2 (g := (mkF m 37 #[.val (.ref a1), .val (.ref a2), .val (.ref a2)] [(.ref a1)])) rfl rfl (hb hby own_d292)
    refine own_via (fun _ kq => st6_ _ kq) ?_
    show own_Fin _ _ _ _ _ _ _ T6_ (mkF m 40 #[.val (.ref a1), .val (.ref a2), .val (.ref a2)] [(.ref t)])
    refine own_via (fun _ kq => XS.aloadN X6_.here hx rfl (hb hby own_d293) rfl rfl kq) ?_
    show own_Fin _ _ _ _ _ _ _ T6_ (mkF m 41 #[.val (.ref a1), .val (.ref a2), .val (.ref a2)] [(.ref a2), (.ref t)])
    obtain ⟨T7_, X7_, e7_, st7_⟩ := getF X6_ hx hZ hown (host := "") (Or.inl (own_w hw 20 rfl)) Via.refl e6_ F4 (g := (mkF m 41 #[.val (.ref a1), .val (.ref a2), .val (.ref a2)] [(.ref a2), (.ref t)])) rfl rfl (hb hby own_d294)
    refine own_via (fun _ kq => st7_ _ kq) ?_
    show own_Fin _ _ _ _ _ _ _ T7_ (mkF m 44 #[.val (.ref a1), .val (.ref a2), .val (.ref a2)] [(.ref t2), (.ref t)])
    obtain ⟨_, _, ⟨T8_, L8_, k8_, n8_⟩, -, X8_, ⟨Lc8_, hQ8_, l8_, y8_, z8_⟩, st8_⟩ := Jvm.LawKit.callS X7_ hx (y := (⟨"java/lang/StringLatin1", "equals", "([B[B)Z"⟩ : MethodName)) hown (mvT hZ (own_w hw 77 rfl)) (mvT hZ (own_w hw 78 rfl)) (mvT hZ (own_w hw 40 rfl)) (mvT hZ (own_w hw 79 rfl)) (by decide) (backOf (W := 0) (own_rm_beq l Z a0 hw [] t kt N2 vs t2 kt2 M2 vs2 nb mb h0 n0 Z0 Va Vb b2 d2 b1 d1 b3 d3) hZ (own_w hw 79 rfl) (own_w hw 40 rfl) (by decide) (by decide)) (g := (mkF m 44 #[.val (.ref a1), .val (.ref a2), .val (.ref a2)] [(.ref t2), (.ref t)])) rfl (by rw [hml]; rfl) (argsL := [(.ref t), (.ref t2)]) (rest := []) (lenOf own_pd14 rfl) rfl (by show 2 * 0 + _ ≤ _; exact Nat.le_of_eq rfl) (hb hby own_d295) (fun _ _ => ⟨rfl, e7_, (by decide : 0 + 0 ≤ _), (by decide : 0 + 0 ≤ _)⟩)
    dsimp only [Pt.U, Pt.locs, Pt.cells, Pt.slots] at X8_ l8_ y8_ z8_ st8_ hQ8_
    subst l8_ y8_ z8_
    obtain ⟨rb, rfl, Nq8_, hh8_, hxb⟩ := hQ8_
    have N8_ := Fr.app N0 Nq8_
    refine own_via (fun _ kq => st8_ _ kq) ?_
    show own_Fin _ _ _ _ _ _ _ T8_ (mkF m 47 #[.val (.ref a1), .val (.ref a2), .val (.ref a2)] [(.int rb)])
    have hiff := own_cod_beq hc (by rw [h1]; exact hc2) hlen hlen2 hr hr2 b2 d2 b1 d1
    rcases Classical.em (rb = (0 : Int32)) with h2 | h2
    · refine own_via (fun _ kq => XS.ifYes X8_.here hx rfl (pc0 := 47) (pc' := 54) rfl (hb hby own_d296) rfl ((if0 _ _).trans (teq h2).1) (by decide) (by decide) kq) ?_
      show own_Fin _ _ _ _ _ _ _ T8_ (mkF m 54 #[.val (.ref a1), .val (.ref a2), .val (.ref a2)] [])
      refine own_via (fun _ kq => XS.iconst X8_.here hx rfl (hb hby own_d289) kq) ?_
      show own_Fin _ _ _ _ _ _ _ T8_ (mkF m 55 #[.val (.ref a1), .val (.ref a2), .val (.ref a2)] [(.int (0 : Int32))])
      exact own_retN X8_ hx (t := .boolean) Bd.returns Bd.notSynchronized (by simp) (hb hby own_d290) hh8_ rfl ⟨(0 : Int32), rfl, N8_, rfl, (Or.inr ⟨rfl, fun q => (hxb.resolve_left fun z => absurd (z.1.symm.trans h2) (by decide)).2 (hiff.mpr q)⟩)⟩ (by decide) (by decide)
    · refine own_via (fun _ kq => XS.ifNo X8_.here hx rfl (hb hby own_d296) rfl ((if0 _ _).trans (feq h2).1) kq) ?_
      show own_Fin _ _ _ _ _ _ _ T8_ (mkF m 50 #[.val (.ref a1), .val (.ref a2), .val (.ref a2)] [])
      refine own_via (fun _ kq => XS.iconst X8_.here hx rfl (hb hby own_d297) kq) ?_
      refine own_via (fun _ kq => XS.goto X8_.here hx rfl (pc0 := 51) (pc' := 55) rfl (hb hby own_d298) (by decide) (by decide) kq) ?_
      show own_Fin _ _ _ _ _ _ _ T8_ (mkF m 55 #[.val (.ref a1), .val (.ref a2), .val (.ref a2)] [(.int (1 : Int32))])
      exact own_retN X8_ hx (t := .boolean) Bd.returns Bd.notSynchronized (by simp) (hb hby own_d290) hh8_ rfl ⟨(1 : Int32), rfl, N8_, rfl, (Or.inl ⟨rfl, hiff.mp (hxb.resolve_right fun z => h2 z.1).2⟩)⟩ (by decide) (by decide)
  · refine own_via (fun _ kq => XS.icmpYes X5_.here hx rfl (pc0 := 33) (pc' := 54) rfl (hb hby own_d288) rfl (feq h1).2 (by decide) (by decide) kq) ?_
    show own_Fin _ _ _ _ _ _ _ T5_ (mkF m 54 #[.val (.ref a1), .val (.ref a2), .val (.ref a2)] [])
    refine own_via (fun _ kq => XS.iconst X5_.here hx rfl (hb hby own_d289) kq) ?_
    show own_Fin _ _ _ _ _ _ _ T5_ (mkF m 55 #[.val (.ref a1), .val (.ref a2), .val (.ref a2)] [(.int (0 : Int32))])
    exact own_retN X5_ hx (t := .boolean) Bd.returns Bd.notSynchronized (by simp) (hb hby own_d290) e5_ rfl ⟨(0 : Int32), rfl, N0, rfl, (Or.inr ⟨rfl, own_cod_ne hc hc2 h1⟩)⟩ (by decide) (by decide)
theorem own_d299 : decode jdk_31_method_10_code 0 = .ok (.aload_n 0, 1) := by decide +kernel
theorem own_d300 : decode jdk_31_method_10_code 1 = .ok (.ifnonnull 11, 3) := by decide +kernel
theorem own_d301 : decode jdk_31_method_10_code 12 = .ok (.aload_n 0, 1) := by decide +kernel
theorem own_d302 : decode jdk_31_method_10_code 13 = .ok (.areturn, 1) := by decide +kernel
theorem own_pn5 : plainName "java/util/Objects" = true := by first | (simp [plainName, overriddenIn]; done) | decide +kernel
theorem own_ef_reqNN (m : MethodId) (v : Addr) : entryFrame m #[(.ref v)] 1 = mkF m 0 #[.val (.ref v)] [] := by (first | (simp [entryFrame, mkF, argsToLocals, Value.category]; done) | rfl)
def own_Q_reqNN (Z : State) (v : Addr) (h0 : Heap) (n0 : Nat) (vq : Option Value) (h : Heap) (Lq : List Loc) : Prop := (vq = some (.ref v)) ∧ (Fr n0 Lq) ∧ (h = h0)
abbrev own_R_reqNN : Room := { frames := 0, cells := 0, slots := 0, locals := 0 }
set_option maxRecDepth 65536 in
set_option maxHeartbeats 40000000 in
theorem own_rm_reqNN (l : Launch) (Z : State) (a0 : Array Value) (hw : ∀ d ∈ tables_1, d.before a0 Z = true) (wsq : List Jvm.Cond) (v : Addr) (h0 : Heap) (n0 : Nat) (Z0 : n0 ≤ h0.size) :
    MetFree l (⟨"java/util/Objects", "requireNonNull", "(Ljava/lang/Object;)Ljava/lang/Object;"⟩ : MethodName) (head1 (Jvm.Cond.code (⟨"java/util/Objects", "requireNonNull", "(Ljava/lang/Object;)Ljava/lang/Object;"⟩ : MethodName) jdk_31_method_10_code 1 (some (.object "java/lang/Object")) :: wsq) own_R_reqNN) (fun aq Uq => aq = #[(.ref v)] ∧ Z.Warmed39 Uq.vm ∧ Uq.heap = h0) (fun _ _ _ _ _ => True) (fun _ Uq oq Uq' => ∃ vq Lq, oq = .returned vq ∧ own_Q_reqNN Z v h0 n0 vq Uq'.heap Lq ∧ FrameEnd Uq oq Uq' Lq own_R_reqNN.cells own_R_reqNN.slots) := by
  refine MetFree.of_bodySF (plainFor_of_name own_pn5) hisR ?_
  intro p e s m args below meth cde s₁ Bd hml0 hP hK
  obtain ⟨rfl, hZ, hh⟩ := hP
  have hx := Bd.exec
  have hby := Bd.bytes
  have hml : cde.maxLocals = 1 := hml0
  have hown : s.vm.findClass "java/util/Objects" = some m.cls := findClass_of_methodNamed Bd.named
  have hnm := (name_of_methodNamed Bd.named Bd.method).1
  have X0 : Stand p l e own_R_reqNN s m #[(.ref v)] below meth cde s₁ [] 0 0 := Stand.of_body Bd
  have e0 : s₁.heap = h0 := by rw [← hh, Bd.state]; rfl
  have N0 := Fr.nil n0
  show own_Fin p e s below (own_Q_reqNN Z v h0 n0) own_R_reqNN.cells own_R_reqNN.slots s₁ (entryFrame m #[(.ref v)] 1)
  rw [own_ef_reqNN m v]
  refine own_via (fun _ kq => XS.aloadN X0.here hx rfl (hb hby own_d299) rfl rfl kq) ?_
  refine own_via (fun _ kq => XS.ifnonnullYes X0.here hx rfl (pc0 := 1) (pc' := 12) rfl (hb hby own_d300) rfl (by decide) (by decide) kq) ?_
  show own_Fin _ _ _ _ _ _ _ s₁ (mkF m 12 #[.val (.ref v)] [])
  refine own_via (fun _ kq => XS.aloadN X0.here hx rfl (hb hby own_d301) rfl rfl kq) ?_
  show own_Fin _ _ _ _ _ _ _ s₁ (mkF m 13 #[.val (.ref v)] [(.ref v)])
  exact own_retA X0 hx Bd.returns Bd.notSynchronized rfl rfl (hb hby own_d302) e0 ⟨rfl, N0, rfl⟩ (by decide) (by decide)
theorem own_d303 : decode jdk_32_method_2_code 0 = .ok (.aload_n 0, 1) := by decide +kernel
theorem own_d304 : decode jdk_32_method_2_code 1 = .ok (.invokespecial 7, 3) := by decide +kernel
theorem own_d305 : decode jdk_32_method_2_code 4 = .ok (.aload_n 0, 1) := by decide +kernel
theorem own_d306 : decode jdk_32_method_2_code 5 = .ok (.aload_n 1, 1) := by decide +kernel
theorem own_d307 : decode jdk_32_method_2_code 6 = .ok (.putfield 13, 3) := by decide +kernel
theorem own_d308 : decode jdk_32_method_2_code 9 = .ok (.return_, 1) := by decide +kernel
theorem own_pn6 : plainName "java/util/Optional" = true := by first | (simp [plainName, overriddenIn]; done) | decide +kernel
theorem own_ef_optI (m : MethodId) (b : Addr) (v : Addr) : entryFrame m #[(.ref b), (.ref v)] 2 = mkF m 0 #[.val (.ref b), .val (.ref v)] [] := by (first | (simp [entryFrame, mkF, argsToLocals, Value.category]; done) | rfl)
def own_Q_optI (Z : State) (b : Addr) (v : Addr) (u1 : Value) (h0 : Heap) (n0 : Nat) (vq : Option Value) (h : Heap) (Lq : List Loc) : Prop := (vq = none) ∧ (Fr n0 Lq) ∧ (Keep h0 h [b]) ∧ (Exa Z h b "java/util/Optional") ∧ (Fld Z h b "java/util/Optional" "value" "Ljava/lang/Object;" (.ref v))
abbrev own_R_optI : Room := { frames := 1, cells := 0, slots := 0, locals := 12 }
set_option maxRecDepth 65536 in
set_option maxHeartbeats 40000000 in
theorem own_rm_optI (l : Launch) (Z : State) (a0 : Array Value) (hw : ∀ d ∈ tables_1, d.before a0 Z = true) (wsq : List Jvm.Cond) (b : Addr) (v : Addr) (u1 : Value) (h0 : Heap) (n0 : Nat) (Z0 : n0 ≤ h0.size) (Eb : Exa Z h0 b "java/util/Optional") (Fv : Fld Z h0 b "java/util/Optional" "value" "Ljava/lang/Object;" u1) (gb : n0 ≤ b) :
    MetFree l (⟨"java/util/Optional", "<init>", "(Ljava/lang/Object;)V"⟩ : MethodName) (head1 (Jvm.Cond.code (⟨"java/util/Optional", "<init>", "(Ljava/lang/Object;)V"⟩ : MethodName) jdk_32_method_2_code 2 none :: wsq) own_R_optI) (fun aq Uq => aq = #[(.ref b), (.ref v)] ∧ Z.Warmed39 Uq.vm ∧ Uq.heap = h0) (fun _ _ _ _ _ => True) (fun _ Uq oq Uq' => ∃ vq Lq, oq = .returned vq ∧ own_Q_optI Z b v u1 h0 n0 vq Uq'.heap Lq ∧ FrameEnd Uq oq Uq' Lq own_R_optI.cells own_R_optI.slots) := by
  refine MetFree.of_bodySF (plainFor_of_name own_pn6) hisR ?_
  intro p e s m args below meth cde s₁ Bd hml0 hP hK
  obtain ⟨rfl, hZ, hh⟩ := hP
  have hx := Bd.exec
  have hby := Bd.bytes
  have hml : cde.maxLocals = 2 := hml0
  have hown : s.vm.findClass "java/util/Optional" = some m.cls := findClass_of_methodNamed Bd.named
  have hnm := (name_of_methodNamed Bd.named Bd.method).1
  have X0 : Stand p l e own_R_optI s m #[(.ref b), (.ref v)] below meth cde s₁ [] 0 0 := Stand.of_body Bd
  have e0 : s₁.heap = h0 := by rw [← hh, Bd.state]; rfl
  have N0 := Fr.nil n0
  show own_Fin p e s below (own_Q_optI Z b v u1 h0 n0) own_R_optI.cells own_R_optI.slots s₁ (entryFrame m #[(.ref b), (.ref v)] 2)
  rw [own_ef_optI m b v]
  refine own_via (fun _ kq => XS.aloadN X0.here hx rfl (hb hby own_d303) rfl rfl kq) ?_
  show own_Fin _ _ _ _ _ _ _ s₁ (mkF m 1 #[.val (.ref b), .val (.ref v)] [(.ref b)])
  obtain ⟨T1_, X1_, e1_, st1_⟩ := initO X0 hx hZ hown (own_w hw 151 rfl) (own_w hw 59 rfl) (own_w hw 60 rfl) e0 (g := (mkF m 1 #[.val (.ref b), .val (.ref v)] [(.ref b)])) rfl (by rw [hml]; rfl) rfl (hb hby own_d304) (by decide) (W := 0) (by show 2 * 0 + _ ≤ _; exact Nat.le_of_eq rfl) (by decide)
  refine own_via (fun _ kq => st1_ _ kq) ?_
  show own_Fin _ _ _ _ _ _ _ T1_ (mkF m 4 #[.val (.ref b), .val (.ref v)] [])
  refine own_via (fun _ kq => XS.aloadN X1_.here hx rfl (hb hby own_d305) rfl rfl kq) ?_
  refine own_via (fun _ kq => XS.aloadN X1_.here hx rfl (hb hby own_d306) rfl rfl kq) ?_
  show own_Fin _ _ _ _ _ _ _ T1_ (mkF m 6 #[.val (.ref b), .val (.ref v)] [(.ref v), (.ref b)])
  obtain ⟨T2_, h2_, X2_, e2_, W2_, st2_⟩ := putF X1_ hx hZ hown (host := "") (Or.inl (own_w hw 115 rfl)) Via.refl e1_ Fv Eb (Or.inr ⟨(own_w hw 116 rfl), rfl, hnm⟩) (own_w hw 142 rfl) (ty := (.object "java/lang/Object")) (by decide) rfl rfl (g := (mkF m 6 #[.val (.ref b), .val (.ref v)] [(.ref v), (.ref b)])) rfl rfl (hb hby own_d307)
  have Fw2_ := Fv.same W2_
  have N2_ := Fr.snoc X2_ N0 gb
  refine own_via (fun _ kq => st2_ _ kq) ?_
  show own_Fin _ _ _ _ _ _ _ T2_ (mkF m 9 #[.val (.ref b), .val (.ref v)] [])
  exact own_ret0 X2_ hx Bd.returns Bd.notSynchronized (hb hby own_d308) e2_ ⟨rfl, N2_, ((Keep.refl h0 [b]).wr W2_ (Or.inl (List.mem_of_getElem? (i := 0) rfl))), (Eb.wr W2_), Fw2_⟩ (by decide) (by decide)
theorem own_d309 : decode jdk_32_method_3_code 0 = .ok (.new 2, 3) := by decide +kernel
theorem own_d310 : decode jdk_32_method_3_code 3 = .ok (.dup, 1) := by decide +kernel
theorem own_d311 : decode jdk_32_method_3_code 4 = .ok (.aload_n 0, 1) := by decide +kernel
theorem own_d312 : decode jdk_32_method_3_code 5 = .ok (.invokestatic 17, 3) := by decide +kernel
theorem own_pd15 : parseMethodDescriptor "(Ljava/lang/Object;)Ljava/lang/Object;" = some ⟨[(.object "java/lang/Object")], some (.object "java/lang/Object")⟩ := by decide +kernel
theorem own_d313 : decode jdk_32_method_3_code 8 = .ok (.invokespecial 23, 3) := by decide +kernel
theorem own_pd16 : parseMethodDescriptor "(Ljava/lang/Object;)V" = some ⟨[(.object "java/lang/Object")], none⟩ := by decide +kernel
theorem own_d314 : decode jdk_32_method_3_code 11 = .ok (.areturn, 1) := by decide +kernel
theorem own_ef_optOf (m : MethodId) (v : Addr) : entryFrame m #[(.ref v)] 1 = mkF m 0 #[.val (.ref v)] [] := by (first | (simp [entryFrame, mkF, argsToLocals, Value.category]; done) | rfl)
def own_Q_optOf (Z : State) (v : Addr) (h0 : Heap) (n0 : Nat) (vq : Option Value) (h : Heap) (Lq : List Loc) : Prop := ∃ (o : Addr), (vq = some (.ref o)) ∧ (Fr n0 Lq) ∧ (Keep h0 h []) ∧ (h0.size ≤ o) ∧ (Exa Z h o "java/util/Optional") ∧ (Fld Z h o "java/util/Optional" "value" "Ljava/lang/Object;" (.ref v))
abbrev own_R_optOf : Room := { frames := 2, cells := 1, slots := 1, locals := 26 }
set_option maxRecDepth 65536 in
set_option maxHeartbeats 40000000 in
theorem own_rm_optOf (l : Launch) (Z : State) (a0 : Array Value) (hw : ∀ d ∈ tables_1, d.before a0 Z = true) (wsq : List Jvm.Cond) (v : Addr) (h0 : Heap) (n0 : Nat) (Z0 : n0 ≤ h0.size) :
    MetFree l (⟨"java/util/Optional", "of", "(Ljava/lang/Object;)Ljava/util/Optional;"⟩ : MethodName) (head1 (Jvm.Cond.code (⟨"java/util/Optional", "of", "(Ljava/lang/Object;)Ljava/util/Optional;"⟩ : MethodName) jdk_32_method_3_code 1 (some (.object "java/util/Optional")) :: wsq) own_R_optOf) (fun aq Uq => aq = #[(.ref v)] ∧ Z.Warmed39 Uq.vm ∧ Uq.heap = h0) (fun _ _ _ _ _ => True) (fun _ Uq oq Uq' => ∃ vq Lq, oq = .returned vq ∧ own_Q_optOf Z v h0 n0 vq Uq'.heap Lq ∧ FrameEnd Uq oq Uq' Lq own_R_optOf.cells own_R_optOf.slots) := by
  refine MetFree.of_bodySF (plainFor_of_name own_pn6) hisR ?_
  intro p e s m args below meth cde s₁ Bd hml0 hP hK
  obtain ⟨rfl, hZ, hh⟩ := hP
  have hx := Bd.exec
  have hby := Bd.bytes
  have hml : cde.maxLocals = 1 := hml0
  have hown : s.vm.findClass "java/util/Optional" = some m.cls := findClass_of_methodNamed Bd.named
  have hnm := (name_of_methodNamed Bd.named Bd.method).1
  have X0 : Stand p l e own_R_optOf s m #[(.ref v)] below meth cde s₁ [] 0 0 := Stand.of_body Bd
  have e0 : s₁.heap = h0 := by rw [← hh, Bd.state]; rfl
  have N0 := Fr.nil n0
  show own_Fin p e s below (own_Q_optOf Z v h0 n0) own_R_optOf.cells own_R_optOf.slots s₁ (entryFrame m #[(.ref v)] 1)
  rw [own_ef_optOf m v]
  obtain ⟨T1_, h1_, X1_, e1_, E1_, A1_, D1_, -, st1_⟩ := newO X0 hx hZ hown (own_w hw 141 rfl) (own_w hw 142 rfl) (own_w hw 107 rfl) e0 (g := (mkF m 0 #[.val (.ref v)] [])) rfl (hb hby own_d309) (by decide) (by decide)
  obtain ⟨b1_, g1_⟩ : ∃ z, z = h0.size := ⟨_, rfl⟩
  rw [← g1_] at A1_ D1_ st1_
  have F2_ : Fld Z h1_ b1_ "java/util/Optional" "value" "Ljava/lang/Object;" .null := D1_ (Or.inr (own_w hw 116 rfl)) (ty := (.object "java/lang/Object")) (by decide)
  refine own_via (fun _ kq => st1_ _ kq) ?_
  show own_Fin _ _ _ _ _ _ _ T1_ (mkF m 3 #[.val (.ref v)] [(.ref b1_)])
  refine own_via (fun _ kq => XS.dup X1_.here hx rfl (hb hby own_d310) rfl rfl kq) ?_
  refine own_via (fun _ kq => XS.aloadN X1_.here hx rfl (hb hby own_d311) rfl rfl kq) ?_
  show own_Fin _ _ _ _ _ _ _ T1_ (mkF m 5 #[.val (.ref v)] [(.ref v), (.ref b1_), (.ref b1_)])
  obtain ⟨_, _, ⟨T3_, L3_, k3_, n3_⟩, -, X3_, ⟨Lc3_, hQ3_, l3_, y3_, z3_⟩, st3_⟩ := Jvm.LawKit.callS X1_ hx (y := (⟨"java/util/Objects", "requireNonNull", "(Ljava/lang/Object;)Ljava/lang/Object;"⟩ : MethodName)) hown (mvT hZ (own_w hw 143 rfl)) (mvT hZ (own_w hw 144 rfl)) (mvT hZ (own_w hw 145 rfl)) (mvT hZ (own_w hw 146 rfl)) (by decide) (backOf (W := 2) (own_rm_reqNN l Z a0 hw [] v h1_ n0 (Nat.le_trans Z0 E1_.1) ) hZ (own_w hw 146 rfl) (own_w hw 145 rfl) (by decide) (by decide)) (g := (mkF m 5 #[.val (.ref v)] [(.ref v), (.ref b1_), (.ref b1_)])) rfl (by rw [hml]; rfl) (argsL := [(.ref v)]) (rest := [(.ref b1_), (.ref b1_)]) (lenOf own_pd15 rfl) rfl (by show 2 * 0 + _ ≤ _; exact Nat.le_of_eq rfl) (hb hby own_d312) (fun _ _ => ⟨rfl, e1_, (by decide : 0 + 1 + 0 ≤ _), (by decide : 0 + 1 + 0 ≤ _)⟩)
  dsimp only [Pt.U, Pt.locs, Pt.cells, Pt.slots] at X3_ l3_ y3_ z3_ st3_ hQ3_
  subst l3_ y3_ z3_
  obtain ⟨rfl, Nq3_, hh3_⟩ := hQ3_
  have N3_ := Fr.app N0 Nq3_
  refine own_via (fun _ kq => st3_ _ kq) ?_
  show own_Fin _ _ _ _ _ _ _ T3_ (mkF m 8 #[.val (.ref v)] [(.ref v), (.ref b1_), (.ref b1_)])
  have g5_ : n0 ≤ b1_ := Nat.le_trans Z0 (Nat.le_of_eq g1_.symm)
  obtain ⟨_, _, ⟨T4_, L4_, k4_, n4_⟩, -, X4_, ⟨Lc4_, hQ4_, l4_, y4_, z4_⟩, st4_⟩ := X3_.specialBack hx (y := (⟨"java/util/Optional", "<init>", "(Ljava/lang/Object;)V"⟩ : MethodName)) rfl hown (mvT hZ (own_w hw 147 rfl)) (mvT hZ (own_w hw 148 rfl)) (mvT hZ (own_w hw 150 rfl)) (by decide) (backOf (W := 1) (own_rm_optI l Z a0 hw [] b1_ v .null h1_ n0 (Nat.le_trans Z0 E1_.1) A1_ F2_ g5_) hZ (own_w hw 150 rfl) (own_w hw 107 rfl) (by decide) (by decide)) (g := (mkF m 8 #[.val (.ref v)] [(.ref v), (.ref b1_), (.ref b1_)])) rfl (by rw [hml]; rfl) (Steps.refl _) (a := b1_) (argsL := [(.ref v)]) (rest := [(.ref b1_)]) (lenOf own_pd16 rfl) rfl (by show 2 * 0 + _ ≤ _; exact Nat.le_of_eq rfl) (hb hby own_d313) (fun _ _ => ⟨rfl, hh3_, (by decide : 0 + 1 + 0 + 0 ≤ _), (by decide : 0 + 1 + 0 + 0 ≤ _)⟩)
  dsimp only [Pt.U, Pt.locs, Pt.cells, Pt.slots] at X4_ l4_ y4_ z4_ st4_ hQ4_
  subst l4_ y4_ z4_
  obtain ⟨rfl, Nq4_, K4_, r6_, r7_⟩ := hQ4_
  have N4_ := Fr.app N3_ Nq4_
  refine own_via (fun _ kq => st4_.trans kq) ?_
  show own_Fin _ _ _ _ _ _ _ T4_ (mkF m 11 #[.val (.ref v)] [(.ref b1_)])
  exact own_retA X4_ hx Bd.returns Bd.notSynchronized rfl rfl (hb hby own_d314) rfl ⟨b1_, rfl, N4_, (((Keep.refl h0 []).ext E1_).trans K4_ (allS (Or.inr (Nat.le_of_eq g1_.symm)) all0)), (Nat.le_of_eq g1_.symm), r6_, r7_⟩ (by decide) (by decide)
theorem own_d315 : decode jdk_32_method_1_code 0 = .ok (.getstatic 1, 3) := by decide +kernel
theorem own_d316 : decode jdk_32_method_1_code 3 = .ok (.astore_n 0, 1) := by decide +kernel
theorem own_d317 : decode jdk_32_method_1_code 4 = .ok (.aload_n 0, 1) := by decide +kernel
theorem own_d318 : decode jdk_32_method_1_code 5 = .ok (.areturn, 1) := by decide +kernel
theorem own_ef_optE (m : MethodId)  : entryFrame m #[] 1 = mkF m 0 #[.unset] [] := by (first | (simp [entryFrame, mkF, argsToLocals, Value.category]; done) | rfl)
def own_Q_optE (Z : State) (em : Addr) (h0 : Heap) (n0 : Nat) (vq : Option Value) (h : Heap) (Lq : List Loc) : Prop := (vq = some (.ref em)) ∧ (Fr n0 Lq) ∧ (h = h0)
abbrev own_R_optE : Room := { frames := 0, cells := 0, slots := 0, locals := 0 }
set_option maxRecDepth 65536 in
set_option maxHeartbeats 40000000 in
theorem own_rm_optE (l : Launch) (Z : State) (a0 : Array Value) (hw : ∀ d ∈ tables_1, d.before a0 Z = true) (wsq : List Jvm.Cond) (em : Addr) (h0 : Heap) (n0 : Nat) (Z0 : n0 ≤ h0.size) (O0 : Old Z n0 h0) (Se : Sta Z Z.heap "java/util/Optional" "EMPTY" "Ljava/util/Optional;" (.ref em)) :
    MetFree l (⟨"java/util/Optional", "empty", "()Ljava/util/Optional;"⟩ : MethodName) (head1 (Jvm.Cond.code (⟨"java/util/Optional", "empty", "()Ljava/util/Optional;"⟩ : MethodName) jdk_32_method_1_code 1 (some (.object "java/util/Optional")) :: wsq) own_R_optE) (fun aq Uq => aq = #[] ∧ Z.Warmed39 Uq.vm ∧ Uq.heap = h0) (fun _ _ _ _ _ => True) (fun _ Uq oq Uq' => ∃ vq Lq, oq = .returned vq ∧ own_Q_optE Z em h0 n0 vq Uq'.heap Lq ∧ FrameEnd Uq oq Uq' Lq own_R_optE.cells own_R_optE.slots) := by
  refine MetFree.of_bodySF (plainFor_of_name own_pn6) hisR ?_
  intro p e s m args below meth cde s₁ Bd hml0 hP hK
  obtain ⟨rfl, hZ, hh⟩ := hP
  have hx := Bd.exec
  have hby := Bd.bytes
  have hml : cde.maxLocals = 1 := hml0
  have hown : s.vm.findClass "java/util/Optional" = some m.cls := findClass_of_methodNamed Bd.named
  have hnm := (name_of_methodNamed Bd.named Bd.method).1
  have X0 : Stand p l e own_R_optE s m #[] below meth cde s₁ [] 0 0 := Stand.of_body Bd
  have e0 : s₁.heap = h0 := by rw [← hh, Bd.state]; rfl
  have N0 := Fr.nil n0
  show own_Fin p e s below (own_Q_optE Z em h0 n0) own_R_optE.cells own_R_optE.slots s₁ (entryFrame m #[] 1)
  rw [own_ef_optE m ]
  obtain ⟨T1_, X1_, e1_, st1_⟩ := getS2 X0 hx hZ hown (host := "") (Or.inl (own_w hw 109 rfl)) Via.refl e0 (Se.ext O0.2) (g := (mkF m 0 #[.unset] [])) rfl (hb hby own_d315)
  refine own_via (fun _ kq => st1_ _ kq) ?_
  show own_Fin _ _ _ _ _ _ _ T1_ (mkF m 3 #[.unset] [(.ref em)])
  refine own_via (fun _ kq => XS.astoreN X1_.here hx rfl (hb hby own_d316) rfl rfl (l' := #[.val (.ref em)]) rfl kq) ?_
  refine own_via (fun _ kq => XS.aloadN X1_.here hx rfl (hb hby own_d317) rfl rfl kq) ?_
  show own_Fin _ _ _ _ _ _ _ T1_ (mkF m 5 #[.val (.ref em)] [(.ref em)])
  exact own_retA X1_ hx Bd.returns Bd.notSynchronized rfl rfl (hb hby own_d318) e1_ ⟨rfl, N0, rfl⟩ (by decide) (by decide)
theorem own_d319 : decode jdk_32_method_6_code 0 = .ok (.aload_n 0, 1) := by decide +kernel
theorem own_d320 : decode jdk_32_method_6_code 1 = .ok (.getfield 13, 3) := by decide +kernel
theorem own_d321 : decode jdk_32_method_6_code 4 = .ok (.ifnull 7, 3) := by decide +kernel
theorem own_d322 : decode jdk_32_method_6_code 7 = .ok (.iconst 1, 1) := by decide +kernel
theorem own_d323 : decode jdk_32_method_6_code 8 = .ok (.goto 4, 3) := by decide +kernel
theorem own_d324 : decode jdk_32_method_6_code 12 = .ok (.ireturn, 1) := by decide +kernel
theorem own_ef_isP1 (m : MethodId) (o : Addr) : entryFrame m #[(.ref o)] 1 = mkF m 0 #[.val (.ref o)] [] := by (first | (simp [entryFrame, mkF, argsToLocals, Value.category]; done) | rfl)
def own_Q_isP1 (Z : State) (o : Addr) (v : Addr) (h0 : Heap) (n0 : Nat) (vq : Option Value) (h : Heap) (Lq : List Loc) : Prop := (vq = some (.int (1 : Int32))) ∧ (Fr n0 Lq) ∧ (h = h0)
abbrev own_R_isP1 : Room := { frames := 0, cells := 0, slots := 0, locals := 0 }
set_option maxRecDepth 65536 in
set_option maxHeartbeats 40000000 in
theorem own_rm_isP1 (l : Launch) (Z : State) (a0 : Array Value) (hw : ∀ d ∈ tables_1, d.before a0 Z = true) (wsq : List Jvm.Cond) (o : Addr) (v : Addr) (h0 : Heap) (n0 : Nat) (Z0 : n0 ≤ h0.size) (Fv : Fld Z h0 o "java/util/Optional" "value" "Ljava/lang/Object;" (.ref v)) :
    MetFree l (⟨"java/util/Optional", "isPresent", "()Z"⟩ : MethodName) (head1 (Jvm.Cond.code (⟨"java/util/Optional", "isPresent", "()Z"⟩ : MethodName) jdk_32_method_6_code 1 (some .boolean) :: wsq) own_R_isP1) (fun aq Uq => aq = #[(.ref o)] ∧ Z.Warmed39 Uq.vm ∧ Uq.heap = h0) (fun _ _ _ _ _ => True) (fun _ Uq oq Uq' => ∃ vq Lq, oq = .returned vq ∧ own_Q_isP1 Z o v h0 n0 vq Uq'.heap Lq ∧ FrameEnd Uq oq Uq' Lq own_R_isP1.cells own_R_isP1.slots) := by
  refine MetFree.of_bodySF (plainFor_of_name own_pn6) hisR ?_
  intro p e s m args below meth cde s₁ Bd hml0 hP hK
  obtain ⟨rfl, hZ, hh⟩ := hP
  have hx := Bd.exec
  have hby := Bd.bytes
  have hml : cde.maxLocals = 1 := hml0
  have hown : s.vm.findClass "java/util/Optional" = some m.cls := findClass_of_methodNamed Bd.named
  have hnm := (name_of_methodNamed Bd.named Bd.method).1
  have X0 : Stand p l e own_R_isP1 s m #[(.ref o)] below meth cde s₁ [] 0 0 := Stand.of_body Bd
  have e0 : s₁.heap = h0 := by rw [← hh, Bd.state]; rfl
  have N0 := Fr.nil n0
  show own_Fin p e s below (own_Q_isP1 Z o v h0 n0) own_R_isP1.cells own_R_isP1.slots s₁ (entryFrame m #[(.ref o)] 1)
  rw [own_ef_isP1 m o]
  refine own_via (fun _ kq => XS.aloadN X0.here hx rfl (hb hby own_d319) rfl rfl kq) ?_
  show own_Fin _ _ _ _ _ _ _ s₁ (mkF m 1 #[.val (.ref o)] [(.ref o)])
  obtain ⟨T1_, X1_, e1_, st1_⟩ := getF X0 hx hZ hown (host := "") (Or.inl (own_w hw 115 rfl)) Via.refl e0 Fv (g := (mkF m 1 #[.val (.ref o)] [(.ref o)])) rfl rfl (hb hby own_d320)
  refine own_via (fun _ kq => st1_ _ kq) ?_
  show own_Fin _ _ _ _ _ _ _ T1_ (mkF m 4 #[.val (.ref o)] [(.ref v)])
  refine own_via (fun _ kq => XS.ifnullNo X1_.here hx rfl (hb hby own_d321) rfl kq) ?_
  show own_Fin _ _ _ _ _ _ _ T1_ (mkF m 7 #[.val (.ref o)] [])
  refine own_via (fun _ kq => XS.iconst X1_.here hx rfl (hb hby own_d322) kq) ?_
  refine own_via (fun _ kq => XS.goto X1_.here hx rfl (pc0 := 8) (pc' := 12) rfl (hb hby own_d323) (by decide) (by decide) kq) ?_
  show own_Fin _ _ _ _ _ _ _ T1_ (mkF m 12 #[.val (.ref o)] [(.int (1 : Int32))])
  exact own_retN X1_ hx (t := .boolean) Bd.returns Bd.notSynchronized (by simp) (hb hby own_d324) e1_ rfl ⟨rfl, N0, rfl⟩ (by decide) (by decide)
theorem own_d325 : decode jdk_32_method_6_code 11 = .ok (.iconst 0, 1) := by decide +kernel
theorem own_ef_isP0 (m : MethodId) (o : Addr) : entryFrame m #[(.ref o)] 1 = mkF m 0 #[.val (.ref o)] [] := by (first | (simp [entryFrame, mkF, argsToLocals, Value.category]; done) | rfl)
def own_Q_isP0 (Z : State) (o : Addr) (h0 : Heap) (n0 : Nat) (vq : Option Value) (h : Heap) (Lq : List Loc) : Prop := (vq = some (.int (0 : Int32))) ∧ (Fr n0 Lq) ∧ (h = h0)
abbrev own_R_isP0 : Room := { frames := 0, cells := 0, slots := 0, locals := 0 }
set_option maxRecDepth 65536 in
set_option maxHeartbeats 40000000 in
theorem own_rm_isP0 (l : Launch) (Z : State) (a0 : Array Value) (hw : ∀ d ∈ tables_1, d.before a0 Z = true) (wsq : List Jvm.Cond) (o : Addr) (h0 : Heap) (n0 : Nat) (Z0 : n0 ≤ h0.size) (Fv : Fld Z h0 o "java/util/Optional" "value" "Ljava/lang/Object;" .null) :
    MetFree l (⟨"java/util/Optional", "isPresent", "()Z"⟩ : MethodName) (head1 (Jvm.Cond.code (⟨"java/util/Optional", "isPresent", "()Z"⟩ : MethodName) jdk_32_method_6_code 1 (some .boolean) :: wsq) own_R_isP0) (fun aq Uq => aq = #[(.ref o)] ∧ Z.Warmed39 Uq.vm ∧ Uq.heap = h0) (fun _ _ _ _ _ => True) (fun _ Uq oq Uq' => ∃ vq Lq, oq = .returned vq ∧ own_Q_isP0 Z o h0 n0 vq Uq'.heap Lq ∧ FrameEnd Uq oq Uq' Lq own_R_isP0.cells own_R_isP0.slots) := by
  refine MetFree.of_bodySF (plainFor_of_name own_pn6) hisR ?_
  intro p e s m args below meth cde s₁ Bd hml0 hP hK
  obtain ⟨rfl, hZ, hh⟩ := hP
  have hx := Bd.exec
  have hby := Bd.bytes
  have hml : cde.maxLocals = 1 := hml0
  have hown : s.vm.findClass "java/util/Optional" = some m.cls := findClass_of_methodNamed Bd.named
  have hnm := (name_of_methodNamed Bd.named Bd.method).1
  have X0 : Stand p l e own_R_isP0 s m #[(.ref o)] below meth cde s₁ [] 0 0 := Stand.of_body Bd
  have e0 : s₁.heap = h0 := by rw [← hh, Bd.state]; rfl
  have N0 := Fr.nil n0
  show own_Fin p e s below (own_Q_isP0 Z o h0 n0) own_R_isP0.cells own_R_isP0.slots s₁ (entryFrame m #[(.ref o)] 1)
  rw [own_ef_isP0 m o]
  refine own_via (fun _ kq => XS.aloadN X0.here hx rfl (hb hby own_d319) rfl rfl kq) ?_
  show own_Fin _ _ _ _ _ _ _ s₁ (mkF m 1 #[.val (.ref o)] [(.ref o)])
  obtain ⟨T1_, X1_, e1_, st1_⟩ := getF X0 hx hZ hown (host := "") (Or.inl (own_w hw 115 rfl)) Via.refl e0 Fv (g := (mkF m 1 #[.val (.ref o)] [(.ref o)])) rfl rfl (hb hby own_d320)
  refine own_via (fun _ kq => st1_ _ kq) ?_
  show own_Fin _ _ _ _ _ _ _ T1_ (mkF m 4 #[.val (.ref o)] [.null])
  refine own_via (fun _ kq => XS.ifnullYes X1_.here hx rfl (pc0 := 4) (pc' := 11) rfl (hb hby own_d321) rfl (by decide) (by decide) kq) ?_
  show own_Fin _ _ _ _ _ _ _ T1_ (mkF m 11 #[.val (.ref o)] [])
  refine own_via (fun _ kq => XS.iconst X1_.here hx rfl (hb hby own_d325) kq) ?_
  show own_Fin _ _ _ _ _ _ _ T1_ (mkF m 12 #[.val (.ref o)] [(.int (0 : Int32))])
  exact own_retN X1_ hx (t := .boolean) Bd.returns Bd.notSynchronized (by simp) (hb hby own_d324) e1_ rfl ⟨rfl, N0, rfl⟩ (by decide) (by decide)
theorem own_d326 : decode jdk_32_method_5_code 0 = .ok (.aload_n 0, 1) := by decide +kernel
theorem own_d327 : decode jdk_32_method_5_code 1 = .ok (.getfield 13, 3) := by decide +kernel
theorem own_d328 : decode jdk_32_method_5_code 4 = .ok (.ifnonnull 13, 3) := by decide +kernel
theorem own_d329 : decode jdk_32_method_5_code 17 = .ok (.aload_n 0, 1) := by decide +kernel
theorem own_d330 : decode jdk_32_method_5_code 18 = .ok (.getfield 13, 3) := by decide +kernel
theorem own_d331 : decode jdk_32_method_5_code 21 = .ok (.areturn, 1) := by decide +kernel
theorem own_ef_optG (m : MethodId) (o : Addr) : entryFrame m #[(.ref o)] 1 = mkF m 0 #[.val (.ref o)] [] := by (first | (simp [entryFrame, mkF, argsToLocals, Value.category]; done) | rfl)
def own_Q_optG (Z : State) (o : Addr) (v : Addr) (h0 : Heap) (n0 : Nat) (vq : Option Value) (h : Heap) (Lq : List Loc) : Prop := (vq = some (.ref v)) ∧ (Fr n0 Lq) ∧ (h = h0)
abbrev own_R_optG : Room := { frames := 0, cells := 0, slots := 0, locals := 0 }
set_option maxRecDepth 65536 in
set_option maxHeartbeats 40000000 in
theorem own_rm_optG (l : Launch) (Z : State) (a0 : Array Value) (hw : ∀ d ∈ tables_1, d.before a0 Z = true) (wsq : List Jvm.Cond) (o : Addr) (v : Addr) (h0 : Heap) (n0 : Nat) (Z0 : n0 ≤ h0.size) (Fv : Fld Z h0 o "java/util/Optional" "value" "Ljava/lang/Object;" (.ref v)) :
    MetFree l (⟨"java/util/Optional", "get", "()Ljava/lang/Object;"⟩ : MethodName) (head1 (Jvm.Cond.code (⟨"java/util/Optional", "get", "()Ljava/lang/Object;"⟩ : MethodName) jdk_32_method_5_code 1 (some (.object "java/lang/Object")) :: wsq) own_R_optG) (fun aq Uq => aq = #[(.ref o)] ∧ Z.Warmed39 Uq.vm ∧ Uq.heap = h0) (fun _ _ _ _ _ => True) (fun _ Uq oq Uq' => ∃ vq Lq, oq = .returned vq ∧ own_Q_optG Z o v h0 n0 vq Uq'.heap Lq ∧ FrameEnd Uq oq Uq' Lq own_R_optG.cells own_R_optG.slots) := by
  refine MetFree.of_bodySF (plainFor_of_name own_pn6) hisR ?_
  intro p e s m args below meth cde s₁ Bd hml0 hP hK
  obtain ⟨rfl, hZ, hh⟩ := hP
  have hx := Bd.exec
  have hby := Bd.bytes
  have hml : cde.maxLocals = 1 := hml0
  have hown : s.vm.findClass "java/util/Optional" = some m.cls := findClass_of_methodNamed Bd.named
  have hnm := (name_of_methodNamed Bd.named Bd.method).1
  have X0 : Stand p l e own_R_optG s m #[(.ref o)] below meth cde s₁ [] 0 0 := Stand.of_body Bd
  have e0 : s₁.heap = h0 := by rw [← hh, Bd.state]; rfl
  have N0 := Fr.nil n0
  show own_Fin p e s below (own_Q_optG Z o v h0 n0) own_R_optG.cells own_R_optG.slots s₁ (entryFrame m #[(.ref o)] 1)
  rw [own_ef_optG m o]
  refine own_via (fun _ kq => XS.aloadN X0.here hx rfl (hb hby own_d326) rfl rfl kq) ?_
  show own_Fin _ _ _ _ _ _ _ s₁ (mkF m 1 #[.val (.ref o)] [(.ref o)])
  obtain ⟨T1_, X1_, e1_, st1_⟩ := getF X0 hx hZ hown (host := "") (Or.inl (own_w hw 115 rfl)) Via.refl e0 Fv (g := (mkF m 1 #[.val (.ref o)] [(.ref o)])) rfl rfl (hb hby own_d327)
  refine own_via (fun _ kq => st1_ _ kq) ?_
  show own_Fin _ _ _ _ _ _ _ T1_ (mkF m 4 #[.val (.ref o)] [(.ref v)])
  refine own_via (fun _ kq => XS.ifnonnullYes X1_.here hx rfl (pc0 := 4) (pc' := 17) rfl (hb hby own_d328) rfl (by decide) (by decide) kq) ?_
  show own_Fin _ _ _ _ _ _ _ T1_ (mkF m 17 #[.val (.ref o)] [])
  refine own_via (fun _ kq => XS.aloadN X1_.here hx rfl (hb hby own_d329) rfl rfl kq) ?_
  show own_Fin _ _ _ _ _ _ _ T1_ (mkF m 18 #[.val (.ref o)] [(.ref o)])
  obtain ⟨T2_, X2_, e2_, st2_⟩ := getF X1_ hx hZ hown (host := "") (Or.inl (own_w hw 115 rfl)) Via.refl e1_ Fv (g := (mkF m 18 #[.val (.ref o)] [(.ref o)])) rfl rfl (hb hby own_d330)
  refine own_via (fun _ kq => st2_ _ kq) ?_
  show own_Fin _ _ _ _ _ _ _ T2_ (mkF m 21 #[.val (.ref o)] [(.ref v)])
  exact own_retA X2_ hx Bd.returns Bd.notSynchronized rfl rfl (hb hby own_d331) e2_ ⟨rfl, N0, rfl⟩ (by decide) (by decide)
theorem own_d332 : decode prog_26_method_1_code 0 = .ok (.getstatic 10, 3) := by decide +kernel
theorem own_d333 : decode prog_26_method_1_code 3 = .ok (.invokevirtual 14, 3) := by decide +kernel
theorem own_d334 : decode prog_26_method_1_code 6 = .ok (.checkcast 15, 3) := by decide +kernel
theorem own_d335 : decode prog_26_method_1_code 9 = .ok (.areturn, 1) := by decide +kernel
theorem own_pn7 : plainName "com/example/lichen/lichen/webhook/EventType" = true := by first | (simp [plainName, overriddenIn]; done) | decide +kernel
theorem own_ef_vals (m : MethodId)  : entryFrame m #[] 0 = mkF m 0 #[] [] := by (first | (simp [entryFrame, mkF, argsToLocals, Value.category]; done) | rfl)
def own_Q_vals (Z : State) (va : Addr) (kv : ClassId) (bt : Addr) (ct : Addr) (h0 : Heap) (n0 : Nat) (vq : Option Value) (h : Heap) (Lq : List Loc) : Prop := ∃ (u : Addr), (vq = some (.ref u)) ∧ (Fr n0 Lq) ∧ (Keep h0 h []) ∧ (h0.size ≤ u) ∧ (Arv Z h u kv (.object "com/example/lichen/lichen/webhook/EventType") (2 : Int32) [.ref bt, .ref ct] .null)
abbrev own_R_vals : Room := { frames := 1, cells := 1, slots := 2, locals := 14 }
set_option maxRecDepth 65536 in
set_option maxHeartbeats 40000000 in
theorem own_rm_vals (l : Launch) (Z : State) (a0 : Array Value) (hw : ∀ d ∈ tables_1, d.before a0 Z = true) (wsq : List Jvm.Cond) (va : Addr) (kv : ClassId) (bt : Addr) (ct : Addr) (h0 : Heap) (n0 : Nat) (Z0 : n0 ≤ h0.size) (O0 : Old Z n0 h0) (Sv : Sta Z Z.heap "com/example/lichen/lichen/webhook/EventType" "$VALUES" "[Lcom/example/lichen/lichen/webhook/EventType;" (.ref va)) (Eva : Exa Z Z.heap va "[Lcom/example/lichen/lichen/webhook/EventType;") (Vva : Arv Z Z.heap va kv (.object "com/example/lichen/lichen/webhook/EventType") (2 : Int32) [.ref bt, .ref ct] .null) :
    MetFree l (⟨"com/example/lichen/lichen/webhook/EventType", "values", "()[Lcom/example/lichen/lichen/webhook/EventType;"⟩ : MethodName) (head1 (Jvm.Cond.code (⟨"com/example/lichen/lichen/webhook/EventType", "values", "()[Lcom/example/lichen/lichen/webhook/EventType;"⟩ : MethodName) prog_26_method_1_code 0 (some (.array (.object "com/example/lichen/lichen/webhook/EventType"))) :: wsq) own_R_vals) (fun aq Uq => aq = #[] ∧ Z.Warmed39 Uq.vm ∧ Uq.heap = h0) (fun _ _ _ _ _ => True) (fun _ Uq oq Uq' => ∃ vq Lq, oq = .returned vq ∧ own_Q_vals Z va kv bt ct h0 n0 vq Uq'.heap Lq ∧ FrameEnd Uq oq Uq' Lq own_R_vals.cells own_R_vals.slots) := by
  refine MetFree.of_bodySF (plainFor_of_name own_pn7) hisR ?_
  intro p e s m args below meth cde s₁ Bd hml0 hP hK
  obtain ⟨rfl, hZ, hh⟩ := hP
  have hx := Bd.exec
  have hby := Bd.bytes
  have hml : cde.maxLocals = 0 := hml0
  have hown : s.vm.findClass "com/example/lichen/lichen/webhook/EventType" = some m.cls := findClass_of_methodNamed Bd.named
  have hnm := (name_of_methodNamed Bd.named Bd.method).1
  have X0 : Stand p l e own_R_vals s m #[] below meth cde s₁ [] 0 0 := Stand.of_body Bd
  have e0 : s₁.heap = h0 := by rw [← hh, Bd.state]; rfl
  have N0 := Fr.nil n0
  show own_Fin p e s below (own_Q_vals Z va kv bt ct h0 n0) own_R_vals.cells own_R_vals.slots s₁ (entryFrame m #[] 0)
  rw [own_ef_vals m ]
  obtain ⟨T1_, X1_, e1_, st1_⟩ := getS2 X0 hx hZ hown (host := "") (Or.inl (own_w hw 88 rfl)) Via.refl e0 (Sv.ext O0.2) (g := (mkF m 0 #[] [])) rfl (hb hby own_d332)
  refine own_via (fun _ kq => st1_ _ kq) ?_
  show own_Fin _ _ _ _ _ _ _ T1_ (mkF m 3 #[] [(.ref va)])
  obtain ⟨T2_, h2_, X2_, e2_, E2_, V2_, Ea2_, st2_⟩ := own_cloneV X1_ hx hZ hown (own_w hw 90 rfl) (own_w hw 91 rfl) (own_w hw 95 rfl) (own_w hw 93 rfl) (own_w hw 94 rfl) (own_w hw 96 rfl) e1_ (Vva.ext O0.2) (Eva.ext O0.2) (g := (mkF m 3 #[] [(.ref va)])) rfl (by rw [hml]; rfl) rfl (hb hby own_d333) (by decide) (W := 0) (cap := 2) (by show 2 * 0 + _ ≤ _; exact Nat.le_of_eq rfl) (by decide) (by decide) (by decide) (by decide)
  obtain ⟨b2_, g2_⟩ : ∃ z, z = h0.size := ⟨_, rfl⟩
  rw [← g2_] at V2_ Ea2_ st2_
  refine own_via (fun _ kq => st2_ _ kq) ?_
  show own_Fin _ _ _ _ _ _ _ T2_ (mkF m 6 #[] [(.ref b2_)])
  obtain ⟨T3_, X3_, e3_, st3_⟩ := castY X2_ hx hZ hown (own_w hw 100 rfl) e2_ (Ins.self Ea2_) (g := (mkF m 6 #[] [(.ref b2_)])) rfl rfl (hb hby own_d334)
  refine own_via (fun _ kq => st3_ _ kq) ?_
  show own_Fin _ _ _ _ _ _ _ T3_ (mkF m 9 #[] [(.ref b2_)])
  exact own_retA X3_ hx Bd.returns Bd.notSynchronized rfl rfl (hb hby own_d335) e3_ ⟨b2_, rfl, N0, ((Keep.refl h0 []).ext E2_), (Nat.le_of_eq g2_.symm), V2_⟩ (by decide) (by decide)
theorem own_d336 : decode prog_26_method_5_code 0 = .ok (.invokestatic 33, 3) := by decide +kernel
theorem own_pd17 : parseMethodDescriptor "()[Lcom/example/lichen/lichen/webhook/EventType;" = some ⟨[], some (.array (.object "com/example/lichen/lichen/webhook/EventType"))⟩ := by decide +kernel
theorem own_d337 : decode prog_26_method_5_code 3 = .ok (.astore_n 1, 1) := by decide +kernel
theorem own_d338 : decode prog_26_method_5_code 4 = .ok (.aload_n 1, 1) := by decide +kernel
theorem own_d339 : decode prog_26_method_5_code 5 = .ok (.arraylength, 1) := by decide +kernel
theorem own_d340 : decode prog_26_method_5_code 6 = .ok (.istore_n 2, 1) := by decide +kernel
theorem own_d341 : decode prog_26_method_5_code 7 = .ok (.iconst 0, 1) := by decide +kernel
theorem own_d342 : decode prog_26_method_5_code 8 = .ok (.istore_n 3, 1) := by decide +kernel
theorem own_d343 : decode prog_26_method_5_code 9 = .ok (.iload_n 3, 1) := by decide +kernel
theorem own_d344 : decode prog_26_method_5_code 10 = .ok (.iload_n 2, 1) := by decide +kernel
theorem own_d345 : decode prog_26_method_5_code 11 = .ok (.if_icmp .ge 32, 3) := by decide +kernel
theorem own_d346 : decode prog_26_method_5_code 14 = .ok (.aload_n 1, 1) := by decide +kernel
theorem own_d347 : decode prog_26_method_5_code 15 = .ok (.iload_n 3, 1) := by decide +kernel
theorem own_d348 : decode prog_26_method_5_code 16 = .ok (.aaload, 1) := by decide +kernel
theorem own_d349 : decode prog_26_method_5_code 17 = .ok (.astore 4, 2) := by decide +kernel
theorem own_d350 : decode prog_26_method_5_code 19 = .ok (.aload 4, 2) := by decide +kernel
theorem own_d351 : decode prog_26_method_5_code 21 = .ok (.getfield 29, 3) := by decide +kernel
theorem own_d352 : decode prog_26_method_5_code 24 = .ok (.aload_n 0, 1) := by decide +kernel
theorem own_d353 : decode prog_26_method_5_code 25 = .ok (.invokevirtual 37, 3) := by decide +kernel
theorem own_pd18 : parseMethodDescriptor "(Ljava/lang/Object;)Z" = some ⟨[(.object "java/lang/Object")], some .boolean⟩ := by decide +kernel
theorem own_d354 : decode prog_26_method_5_code 28 = .ok (.ifCond .eq 9, 3) := by decide +kernel
theorem own_d355 : decode prog_26_method_5_code 31 = .ok (.aload 4, 2) := by decide +kernel
theorem own_d356 : decode prog_26_method_5_code 33 = .ok (.invokestatic 43, 3) := by decide +kernel
theorem own_pd19 : parseMethodDescriptor "(Ljava/lang/Object;)Ljava/util/Optional;" = some ⟨[(.object "java/lang/Object")], some (.object "java/util/Optional")⟩ := by decide +kernel
theorem own_d357 : decode prog_26_method_5_code 36 = .ok (.areturn, 1) := by decide +kernel
theorem own_ef_ofB (m : MethodId) (a1 : Addr) : entryFrame m #[(.ref a1)] 5 = mkF m 0 #[.val (.ref a1), .unset, .unset, .unset, .unset] [] := by (first | (simp [entryFrame, mkF, argsToLocals, Value.category]; done) | rfl)
def own_Q_ofB (Z : State) (a1 : Addr) (cz : Int32) (t : Addr) (kt : ClassId) (cd : Int32) (N2 : Int32) (vs : List Value) (cs : List Int32) (va : Addr) (kv : ClassId) (bt : Addr) (ct : Addr) (sb : Addr) (tb : Addr) (ktb : ClassId) (sc : Addr) (tc : Addr) (ktc : ClassId) (em : Addr) (h0 : Heap) (n0 : Nat) (vq : Option Value) (h : Heap) (Lq : List Loc) : Prop := ∃ (o : Addr), (vq = some (.ref o)) ∧ (Fr n0 Lq) ∧ (Keep h0 h []) ∧ (Exa Z h o "java/util/Optional") ∧ (Fld Z h o "java/util/Optional" "value" "Ljava/lang/Object;" (.ref bt))
abbrev own_R_ofB : Room := { frames := 3, cells := 2, slots := 3, locals := 38 }
set_option maxRecDepth 65536 in
set_option maxHeartbeats 40000000 in
theorem own_rm_ofB (l : Launch) (Z : State) (a0 : Array Value) (hw : ∀ d ∈ tables_1, d.before a0 Z = true) (wsq : List Jvm.Cond) (a1 : Addr) (cz : Int32) (t : Addr) (kt : ClassId) (cd : Int32) (N2 : Int32) (vs : List Value) (cs : List Int32) (va : Addr) (kv : ClassId) (bt : Addr) (ct : Addr) (sb : Addr) (tb : Addr) (ktb : ClassId) (sc : Addr) (tc : Addr) (ktc : ClassId) (em : Addr) (h0 : Heap) (n0 : Nat) (Z0 : n0 ≤ h0.size) (O0 : Old Z n0 h0) (S1 : Sta Z Z.heap "java/lang/String" "COMPACT_STRINGS" "Z" (.int cz)) (P5 : ¬ cz = (0 : Int32)) (Sv : Sta Z Z.heap "com/example/lichen/lichen/webhook/EventType" "$VALUES" "[Lcom/example/lichen/lichen/webhook/EventType;" (.ref va)) (Se : Sta Z Z.heap "java/util/Optional" "EMPTY" "Ljava/util/Optional;" (.ref em)) (E1 : Exa Z h0 a1 "java/lang/String") (F1 : Fld Z h0 a1 "java/lang/String" "coder" "B" (.int cd)) (F2 : Fld Z h0 a1 "java/lang/String" "value" "[B" (.ref t)) (Va : Arv Z h0 t kt .byte N2 vs (.int 0)) (hc : own_cod cs cd N2 vs) (hlen : cs.length ≤ 4000) (hr : own_chs cs) (Eva : Exa Z Z.heap va "[Lcom/example/lichen/lichen/webhook/EventType;") (Vva : Arv Z Z.heap va kv (.object "com/example/lichen/lichen/webhook/EventType") (2 : Int32) [.ref bt, .ref ct] .null) (Ebt : Exa Z Z.heap bt "com/example/lichen/lichen/webhook/EventType") (Fbt : Fld Z Z.heap bt "com/example/lichen/lichen/webhook/EventType" "code" "Ljava/lang/String;" (.ref sb)) (Esb : Exa Z Z.heap sb "java/lang/String") (Fcsb : Fld Z Z.heap sb "java/lang/String" "coder" "B" (.int (0 : Int32))) (Fvsb : Fld Z Z.heap sb "java/lang/String" "value" "[B" (.ref tb)) (Vtb : Arv Z Z.heap tb ktb .byte (12 : Int32) own_v1 (.int 0)) (Ect : Exa Z Z.heap ct "com/example/lichen/lichen/webhook/EventType") (Fct : Fld Z Z.heap ct "com/example/lichen/lichen/webhook/EventType" "code" "Ljava/lang/String;" (.ref sc)) (Esc : Exa Z Z.heap sc "java/lang/String") (Fcsc : Fld Z Z.heap sc "java/lang/String" "coder" "B" (.int (0 : Int32))) (Fvsc : Fld Z Z.heap sc "java/lang/String" "value" "[B" (.ref tc)) (Vtc : Arv Z Z.heap tc ktc .byte (18 : Int32) own_v2 (.int 0)) (Eem : Exa Z Z.heap em "java/util/Optional") (Fem : Fld Z Z.heap em "java/util/Optional" "value" "Ljava/lang/Object;" .null) (hnb : sb ≠ a1) (hnc : sc ≠ a1) (hB : cs = own_t1) :
    MetFree l (⟨"com/example/lichen/lichen/webhook/EventType", "of", "(Ljava/lang/String;)Ljava/util/Optional;"⟩ : MethodName) (head1 (Jvm.Cond.code (⟨"com/example/lichen/lichen/webhook/EventType", "of", "(Ljava/lang/String;)Ljava/util/Optional;"⟩ : MethodName) prog_26_method_5_code 5 (some (.object "java/util/Optional")) :: wsq) own_R_ofB) (fun aq Uq => aq = #[(.ref a1)] ∧ Z.Warmed39 Uq.vm ∧ Uq.heap = h0) (fun _ _ _ _ _ => True) (fun _ Uq oq Uq' => ∃ vq Lq, oq = .returned vq ∧ own_Q_ofB Z a1 cz t kt cd N2 vs cs va kv bt ct sb tb ktb sc tc ktc em h0 n0 vq Uq'.heap Lq ∧ FrameEnd Uq oq Uq' Lq own_R_ofB.cells own_R_ofB.slots) := by
  refine MetFree.of_bodySF (plainFor_of_name own_pn7) hisR ?_
  intro p e s m args below meth cde s₁ Bd hml0 hP hK
  obtain ⟨rfl, hZ, hh⟩ := hP
  have hx := Bd.exec
  have hby := Bd.bytes
  have hml : cde.maxLocals = 5 := hml0
  have hown : s.vm.findClass "com/example/lichen/lichen/webhook/EventType" = some m.cls := findClass_of_methodNamed Bd.named
  have hnm := (name_of_methodNamed Bd.named Bd.method).1
  have X0 : Stand p l e own_R_ofB s m #[(.ref a1)] below meth cde s₁ [] 0 0 := Stand.of_body Bd
  have e0 : s₁.heap = h0 := by rw [← hh, Bd.state]; rfl
  have N0 := Fr.nil n0
  show own_Fin p e s below (own_Q_ofB Z a1 cz t kt cd N2 vs cs va kv bt ct sb tb ktb sc tc ktc em h0 n0) own_R_ofB.cells own_R_ofB.slots s₁ (entryFrame m #[(.ref a1)] 5)
  rw [own_ef_ofB m a1]
  obtain ⟨_, _, ⟨T1_, L1_, k1_, n1_⟩, -, X1_, ⟨Lc1_, hQ1_, l1_, y1_, z1_⟩, st1_⟩ := Jvm.LawKit.callS X0 hx (y := (⟨"com/example/lichen/lichen/webhook/EventType", "values", "()[Lcom/example/lichen/lichen/webhook/EventType;"⟩ : MethodName)) hown (mvT hZ (own_w hw 85 rfl)) (mvT hZ (own_w hw 86 rfl)) (mvT hZ (own_w hw 83 rfl)) (mvT hZ (own_w hw 87 rfl)) (by decide) (backOf (W := 0) (own_rm_vals l Z a0 hw [] va kv bt ct h0 n0 Z0 O0 Sv Eva Vva) hZ (own_w hw 87 rfl) (own_w hw 83 rfl) (by decide) (by decide)) (g := (mkF m 0 #[.val (.ref a1), .unset, .unset, .unset, .unset] [])) rfl (by rw [hml]; rfl) (argsL := []) (rest := []) (lenOf own_pd17 rfl) rfl (by show 2 * 0 + _ ≤ _; exact Nat.le_of_eq rfl) (hb hby own_d336) (fun _ _ => ⟨rfl, e0, (by decide : 0 + 1 ≤ _), (by decide : 0 + 2 ≤ _)⟩)
  dsimp only [Pt.U, Pt.locs, Pt.cells, Pt.slots] at X1_ l1_ y1_ z1_ st1_ hQ1_
  subst l1_ y1_ z1_
  obtain ⟨u, rfl, Nq1_, K1_, r2_, r3_⟩ := hQ1_
  have N1_ := Fr.app N0 Nq1_
  refine own_via (fun _ kq => st1_ _ kq) ?_
  show own_Fin _ _ _ _ _ _ _ T1_ (mkF m 3 #[.val (.ref a1), .unset, .unset, .unset, .unset] [(.ref u)])
  refine own_via (fun _ kq => XS.astoreN X1_.here hx rfl (hb hby own_d337) rfl rfl (l' := #[.val (.ref a1), .val (.ref u), .unset, .unset, .unset]) rfl kq) ?_
  refine own_via (fun _ kq => XS.aloadN X1_.here hx rfl (hb hby own_d338) rfl rfl kq) ?_
  show own_Fin _ _ _ _ _ _ _ T1_ (mkF m 5 #[.val (.ref a1), .val (.ref u), .unset, .unset, .unset] [(.ref u)])
  obtain ⟨c4_, Ar4_, -, S4_, M4_, -, -⟩ := (id r3_)
  refine own_via (fun _ kq => X1_.arraylength hx (own_eq rfl Ar4_.1) (State.isArrayOf_alike hZ.alike Ar4_.2.1) (g := (mkF m 5 #[.val (.ref a1), .val (.ref u), .unset, .unset, .unset] [(.ref u)])) rfl rfl (hb hby own_d339) _ (by rw [len_of S4_ M4_]; exact kq)) ?_
  show own_Fin _ _ _ _ _ _ _ T1_ (mkF m 6 #[.val (.ref a1), .val (.ref u), .unset, .unset, .unset] [(.int (2 : Int32))])
  refine own_via (fun _ kq => XS.istoreN X1_.here hx rfl (hb hby own_d340) rfl (l' := #[.val (.ref a1), .val (.ref u), .val (.int (2 : Int32)), .unset, .unset]) rfl kq) ?_
  refine own_via (fun _ kq => XS.iconst X1_.here hx rfl (hb hby own_d341) kq) ?_
  refine own_via (fun _ kq => XS.istoreN X1_.here hx rfl (hb hby own_d342) rfl (l' := #[.val (.ref a1), .val (.ref u), .val (.int (2 : Int32)), .val (.int (0 : Int32)), .unset]) rfl kq) ?_
  refine own_via (fun _ kq => XS.iloadN X1_.here hx rfl (hb hby own_d343) rfl kq) ?_
  refine own_via (fun _ kq => XS.iloadN X1_.here hx rfl (hb hby own_d344) rfl kq) ?_
  refine own_via (fun _ kq => XS.icmpNo X1_.here hx rfl (hb hby own_d345) rfl (tlt (by decide)).2.1 kq) ?_
  show own_Fin _ _ _ _ _ _ _ T1_ (mkF m 14 #[.val (.ref a1), .val (.ref u), .val (.int (2 : Int32)), .val (.int (0 : Int32)), .unset] [])
  refine own_via (fun _ kq => XS.aloadN X1_.here hx rfl (hb hby own_d346) rfl rfl kq) ?_
  refine own_via (fun _ kq => XS.iloadN X1_.here hx rfl (hb hby own_d347) rfl kq) ?_
  show own_Fin _ _ _ _ _ _ _ T1_ (mkF m 16 #[.val (.ref a1), .val (.ref u), .val (.int (2 : Int32)), .val (.int (0 : Int32)), .unset] [(.int (0 : Int32)), (.ref u)])
  obtain ⟨c5_, Ar5_, q5_, S5_, M5_, H5_, G5_⟩ := (id r3_)
  have hin5_ : ¬ ((0 : Int32) < 0 ∨ c5_.slots.size ≤ ((0 : Int32)).toNatClampNeg) := inb_of S5_ ⟨by decide, by decide⟩
  have hat5_ : c5_.slots[((0 : Int32)).toNatClampNeg]? = some (.ref bt) := H5_.at hin5_ rfl
  refine own_via (fun _ kq => X1_.aaload hx (j := (0 : Int32)) (v := (.ref bt)) (own_eq rfl Ar5_.1) (State.isArrayOf_alike hZ.alike Ar5_.2.1) rfl Ar5_.2.2 hin5_ hat5_ (g := (mkF m 16 #[.val (.ref a1), .val (.ref u), .val (.int (2 : Int32)), .val (.int (0 : Int32)), .unset] [(.int (0 : Int32)), (.ref u)])) rfl rfl (hb hby own_d348) _ kq) ?_
  show own_Fin _ _ _ _ _ _ _ T1_ (mkF m 17 #[.val (.ref a1), .val (.ref u), .val (.int (2 : Int32)), .val (.int (0 : Int32)), .unset] [(.ref bt)])
  refine own_via (fun _ kq => XS.astore X1_.here hx rfl (hb hby own_d349) rfl rfl (l' := #[.val (.ref a1), .val (.ref u), .val (.int (2 : Int32)), .val (.int (0 : Int32)), .val (.ref bt)]) rfl kq) ?_
  refine own_via (fun _ kq => XS.aload X1_.here hx rfl (hb hby own_d350) rfl rfl kq) ?_
  show own_Fin _ _ _ _ _ _ _ T1_ (mkF m 21 #[.val (.ref a1), .val (.ref u), .val (.int (2 : Int32)), .val (.int (0 : Int32)), .val (.ref bt)] [(.ref bt)])
  obtain ⟨T6_, X6_, e6_, st6_⟩ := getF X1_ hx hZ hown (host := "") (Or.inl (own_w hw 102 rfl)) Via.refl rfl ((Fbt.ext O0.2).keep K1_ nin0) (g := (mkF m 21 #[.val (.ref a1), .val (.ref u), .val (.int (2 : Int32)), .val (.int (0 : Int32)), .val (.ref bt)] [(.ref bt)])) rfl rfl (hb hby own_d351)
  refine own_via (fun _ kq => st6_ _ kq) ?_
  show own_Fin _ _ _ _ _ _ _ T6_ (mkF m 24 #[.val (.ref a1), .val (.ref u), .val (.int (2 : Int32)), .val (.int (0 : Int32)), .val (.ref bt)] [(.ref sb)])
  refine own_via (fun _ kq => XS.aloadN X6_.here hx rfl (hb hby own_d352) rfl rfl kq) ?_
  show own_Fin _ _ _ _ _ _ _ T6_ (mkF m 25 #[.val (.ref a1), .val (.ref u), .val (.int (2 : Int32)), .val (.int (0 : Int32)), .val (.ref bt)] [(.ref a1), (.ref sb)])
  obtain ⟨cq7_, kq7_, q7_a, q7_b, q7_c⟩ := isOf hZ e6_ ((Esb.ext O0.2).keep K1_)
  obtain ⟨_, _, ⟨T7_, L7_, k7_, n7_⟩, -, X7_, ⟨Lc7_, hQ7_, l7_, y7_, z7_⟩, st7_⟩ := X6_.virtualBack hx (y := (⟨"java/lang/String", "equals", "(Ljava/lang/Object;)Z"⟩ : MethodName)) (z := (⟨"java/lang/String", "equals", "(Ljava/lang/Object;)Z"⟩ : MethodName)) hown (mvT hZ (own_w hw 104 rfl)) (mvT hZ (own_w hw 72 rfl)) (notFace_of_selects (args := #[]) (mvT hZ (own_w hw 74 rfl))) (mvT hZ (own_w hw 74 rfl)) (mvT hZ (own_w hw 73 rfl)) (by decide) (backOf (W := 0) (own_rm_eqS l Z a0 hw [] sb cz tb ktb (0 : Int32) (12 : Int32) own_v1 own_t1 a1 t kt cd N2 vs cs T1_.heap n0 (Nat.le_trans Z0 K1_.1) (O0.keep K1_ all0) S1 P5 ((Esb.ext O0.2).keep K1_) ((Fcsb.ext O0.2).keep K1_ nin0) ((Fvsb.ext O0.2).keep K1_ nin0) ((Vtb.ext O0.2).keep K1_ nin0) own_lit1 (by decide) own_litr1 (E1.keep K1_) (F1.keep K1_ nin0) (F2.keep K1_ nin0) (Va.keep K1_ nin0) hc hlen hr hnb) hZ (own_w hw 75 rfl) (own_w hw 1 rfl) (by decide) (by decide)) q7_a q7_c (g := (mkF m 25 #[.val (.ref a1), .val (.ref u), .val (.int (2 : Int32)), .val (.int (0 : Int32)), .val (.ref bt)] [(.ref a1), (.ref sb)])) rfl (by rw [hml]; rfl) (Steps.refl _) (argsL := [(.ref a1)]) (rest := []) (lenOf own_pd18 rfl) rfl (by show 2 * 0 + _ ≤ _; exact Nat.le_of_eq rfl) (hb hby own_d353) (fun _ _ => ⟨rfl, e6_, (by decide : 0 + 1 + 0 ≤ _), (by decide : 0 + 2 + 0 ≤ _)⟩)
  dsimp only [Pt.U, Pt.locs, Pt.cells, Pt.slots] at X7_ l7_ y7_ z7_ st7_ hQ7_
  subst l7_ y7_ z7_
  obtain ⟨r0, rfl, Nq7_, hh7_, hx0⟩ := hQ7_
  have N7_ := Fr.app N1_ Nq7_
  refine own_via (fun _ kq => st7_.trans kq) ?_
  show own_Fin _ _ _ _ _ _ _ T7_ (mkF m 28 #[.val (.ref a1), .val (.ref u), .val (.int (2 : Int32)), .val (.int (0 : Int32)), .val (.ref bt)] [(.int r0)])
  refine own_via (fun _ kq => XS.ifNo X7_.here hx rfl (hb hby own_d354) rfl ((if0 _ _).trans (feq (fun z => (hx0.resolve_left fun q => absurd (q.1.symm.trans z) (by decide)).2 hB.symm)).1) kq) ?_
  show own_Fin _ _ _ _ _ _ _ T7_ (mkF m 31 #[.val (.ref a1), .val (.ref u), .val (.int (2 : Int32)), .val (.int (0 : Int32)), .val (.ref bt)] [])
  refine own_via (fun _ kq => XS.aload X7_.here hx rfl (hb hby own_d355) rfl rfl kq) ?_
  show own_Fin _ _ _ _ _ _ _ T7_ (mkF m 33 #[.val (.ref a1), .val (.ref u), .val (.int (2 : Int32)), .val (.int (0 : Int32)), .val (.ref bt)] [(.ref bt)])
  obtain ⟨_, _, ⟨T8_, L8_, k8_, n8_⟩, -, X8_, ⟨Lc8_, hQ8_, l8_, y8_, z8_⟩, st8_⟩ := Jvm.LawKit.callS X7_ hx (y := (⟨"java/util/Optional", "of", "(Ljava/lang/Object;)Ljava/util/Optional;"⟩ : MethodName)) hown (mvT hZ (own_w hw 138 rfl)) (mvT hZ (own_w hw 139 rfl)) (mvT hZ (own_w hw 107 rfl)) (mvT hZ (own_w hw 140 rfl)) (by decide) (backOf (W := 0) (own_rm_optOf l Z a0 hw [] bt T1_.heap n0 (Nat.le_trans Z0 K1_.1) ) hZ (own_w hw 140 rfl) (own_w hw 107 rfl) (by decide) (by decide)) (g := (mkF m 33 #[.val (.ref a1), .val (.ref u), .val (.int (2 : Int32)), .val (.int (0 : Int32)), .val (.ref bt)] [(.ref bt)])) rfl (by rw [hml]; rfl) (argsL := [(.ref bt)]) (rest := []) (lenOf own_pd19 rfl) rfl (by show 2 * 0 + _ ≤ _; exact Nat.le_of_eq rfl) (hb hby own_d356) (fun _ _ => ⟨rfl, hh7_, (by decide : 0 + 1 + 0 + 1 ≤ _), (by decide : 0 + 2 + 0 + 1 ≤ _)⟩)
  dsimp only [Pt.U, Pt.locs, Pt.cells, Pt.slots] at X8_ l8_ y8_ z8_ st8_ hQ8_
  subst l8_ y8_ z8_
  obtain ⟨o, rfl, Nq8_, K8_, r9_, r10_, r11_⟩ := hQ8_
  have N8_ := Fr.app N7_ Nq8_
  refine own_via (fun _ kq => st8_ _ kq) ?_
  show own_Fin _ _ _ _ _ _ _ T8_ (mkF m 36 #[.val (.ref a1), .val (.ref u), .val (.int (2 : Int32)), .val (.int (0 : Int32)), .val (.ref bt)] [(.ref o)])
  exact own_retA X8_ hx Bd.returns Bd.notSynchronized rfl rfl (hb hby own_d357) rfl ⟨o, rfl, N8_, (((Keep.refl h0 []).trans K1_ all0).trans K8_ all0), r10_, r11_⟩ (by decide) (by decide)
theorem own_d358 : decode prog_26_method_5_code 37 = .ok (.iinc 3 1, 3) := by decide +kernel
theorem own_d359 : decode prog_26_method_5_code 40 = .ok (.goto (-31), 3) := by decide +kernel
theorem own_ef_ofC (m : MethodId) (a1 : Addr) : entryFrame m #[(.ref a1)] 5 = mkF m 0 #[.val (.ref a1), .unset, .unset, .unset, .unset] [] := by (first | (simp [entryFrame, mkF, argsToLocals, Value.category]; done) | rfl)
def own_Q_ofC (Z : State) (a1 : Addr) (cz : Int32) (t : Addr) (kt : ClassId) (cd : Int32) (N2 : Int32) (vs : List Value) (cs : List Int32) (va : Addr) (kv : ClassId) (bt : Addr) (ct : Addr) (sb : Addr) (tb : Addr) (ktb : ClassId) (sc : Addr) (tc : Addr) (ktc : ClassId) (em : Addr) (h0 : Heap) (n0 : Nat) (vq : Option Value) (h : Heap) (Lq : List Loc) : Prop := ∃ (o : Addr), (vq = some (.ref o)) ∧ (Fr n0 Lq) ∧ (Keep h0 h []) ∧ (Exa Z h o "java/util/Optional") ∧ (Fld Z h o "java/util/Optional" "value" "Ljava/lang/Object;" (.ref ct))
abbrev own_R_ofC : Room := { frames := 3, cells := 2, slots := 3, locals := 38 }
set_option maxRecDepth 65536 in
set_option maxHeartbeats 40000000 in
theorem own_rm_ofC (l : Launch) (Z : State) (a0 : Array Value) (hw : ∀ d ∈ tables_1, d.before a0 Z = true) (wsq : List Jvm.Cond) (a1 : Addr) (cz : Int32) (t : Addr) (kt : ClassId) (cd : Int32) (N2 : Int32) (vs : List Value) (cs : List Int32) (va : Addr) (kv : ClassId) (bt : Addr) (ct : Addr) (sb : Addr) (tb : Addr) (ktb : ClassId) (sc : Addr) (tc : Addr) (ktc : ClassId) (em : Addr) (h0 : Heap) (n0 : Nat) (Z0 : n0 ≤ h0.size) (O0 : Old Z n0 h0) (S1 : Sta Z Z.heap "java/lang/String" "COMPACT_STRINGS" "Z" (.int cz)) (P5 : ¬ cz = (0 : Int32)) (Sv : Sta Z Z.heap "com/example/lichen/lichen/webhook/EventType" "$VALUES" "[Lcom/example/lichen/lichen/webhook/EventType;" (.ref va)) (Se : Sta Z Z.heap "java/util/Optional" "EMPTY" "Ljava/util/Optional;" (.ref em)) (E1 : Exa Z h0 a1 "java/lang/String") (F1 : Fld Z h0 a1 "java/lang/String" "coder" "B" (.int cd)) (F2 : Fld Z h0 a1 "java/lang/String" "value" "[B" (.ref t)) (Va : Arv Z h0 t kt .byte N2 vs (.int 0)) (hc : own_cod cs cd N2 vs) (hlen : cs.length ≤ 4000) (hr : own_chs cs) (Eva : Exa Z Z.heap va "[Lcom/example/lichen/lichen/webhook/EventType;") (Vva : Arv Z Z.heap va kv (.object "com/example/lichen/lichen/webhook/EventType") (2 : Int32) [.ref bt, .ref ct] .null) (Ebt : Exa Z Z.heap bt "com/example/lichen/lichen/webhook/EventType") (Fbt : Fld Z Z.heap bt "com/example/lichen/lichen/webhook/EventType" "code" "Ljava/lang/String;" (.ref sb)) (Esb : Exa Z Z.heap sb "java/lang/String") (Fcsb : Fld Z Z.heap sb "java/lang/String" "coder" "B" (.int (0 : Int32))) (Fvsb : Fld Z Z.heap sb "java/lang/String" "value" "[B" (.ref tb)) (Vtb : Arv Z Z.heap tb ktb .byte (12 : Int32) own_v1 (.int 0)) (Ect : Exa Z Z.heap ct "com/example/lichen/lichen/webhook/EventType") (Fct : Fld Z Z.heap ct "com/example/lichen/lichen/webhook/EventType" "code" "Ljava/lang/String;" (.ref sc)) (Esc : Exa Z Z.heap sc "java/lang/String") (Fcsc : Fld Z Z.heap sc "java/lang/String" "coder" "B" (.int (0 : Int32))) (Fvsc : Fld Z Z.heap sc "java/lang/String" "value" "[B" (.ref tc)) (Vtc : Arv Z Z.heap tc ktc .byte (18 : Int32) own_v2 (.int 0)) (Eem : Exa Z Z.heap em "java/util/Optional") (Fem : Fld Z Z.heap em "java/util/Optional" "value" "Ljava/lang/Object;" .null) (hnb : sb ≠ a1) (hnc : sc ≠ a1) (hB : ¬ cs = own_t1) (hC : cs = own_t2) :
    MetFree l (⟨"com/example/lichen/lichen/webhook/EventType", "of", "(Ljava/lang/String;)Ljava/util/Optional;"⟩ : MethodName) (head1 (Jvm.Cond.code (⟨"com/example/lichen/lichen/webhook/EventType", "of", "(Ljava/lang/String;)Ljava/util/Optional;"⟩ : MethodName) prog_26_method_5_code 5 (some (.object "java/util/Optional")) :: wsq) own_R_ofC) (fun aq Uq => aq = #[(.ref a1)] ∧ Z.Warmed39 Uq.vm ∧ Uq.heap = h0) (fun _ _ _ _ _ => True) (fun _ Uq oq Uq' => ∃ vq Lq, oq = .returned vq ∧ own_Q_ofC Z a1 cz t kt cd N2 vs cs va kv bt ct sb tb ktb sc tc ktc em h0 n0 vq Uq'.heap Lq ∧ FrameEnd Uq oq Uq' Lq own_R_ofC.cells own_R_ofC.slots) := by
  refine MetFree.of_bodySF (plainFor_of_name own_pn7) hisR ?_
  intro p e s m args below meth cde s₁ Bd hml0 hP hK
  obtain ⟨rfl, hZ, hh⟩ := hP
  have hx := Bd.exec
  have hby := Bd.bytes
  have hml : cde.maxLocals = 5 := hml0
  have hown : s.vm.findClass "com/example/lichen/lichen/webhook/EventType" = some m.cls := findClass_of_methodNamed Bd.named
  have hnm := (name_of_methodNamed Bd.named Bd.method).1
  have X0 : Stand p l e own_R_ofC s m #[(.ref a1)] below meth cde s₁ [] 0 0 := Stand.of_body Bd
  have e0 : s₁.heap = h0 := by rw [← hh, Bd.state]; rfl
  have N0 := Fr.nil n0
  show own_Fin p e s below (own_Q_ofC Z a1 cz t kt cd N2 vs cs va kv bt ct sb tb ktb sc tc ktc em h0 n0) own_R_ofC.cells own_R_ofC.slots s₁ (entryFrame m #[(.ref a1)] 5)
  rw [own_ef_ofC m a1]
  obtain ⟨_, _, ⟨T1_, L1_, k1_, n1_⟩, -, X1_, ⟨Lc1_, hQ1_, l1_, y1_, z1_⟩, st1_⟩ := Jvm.LawKit.callS X0 hx (y := (⟨"com/example/lichen/lichen/webhook/EventType", "values", "()[Lcom/example/lichen/lichen/webhook/EventType;"⟩ : MethodName)) hown (mvT hZ (own_w hw 85 rfl)) (mvT hZ (own_w hw 86 rfl)) (mvT hZ (own_w hw 83 rfl)) (mvT hZ (own_w hw 87 rfl)) (by decide) (backOf (W := 0) (own_rm_vals l Z a0 hw [] va kv bt ct h0 n0 Z0 O0 Sv Eva Vva) hZ (own_w hw 87 rfl) (own_w hw 83 rfl) (by decide) (by decide)) (g := (mkF m 0 #[.val (.ref a1), .unset, .unset, .unset, .unset] [])) rfl (by rw [hml]; rfl) (argsL := []) (rest := []) (lenOf own_pd17 rfl) rfl (by show 2 * 0 + _ ≤ _; exact Nat.le_of_eq rfl) (hb hby own_d336) (fun _ _ => ⟨rfl, e0, (by decide : 0 + 1 ≤ _), (by decide : 0 + 2 ≤ _)⟩)
  dsimp only [Pt.U, Pt.locs, Pt.cells, Pt.slots] at X1_ l1_ y1_ z1_ st1_ hQ1_
  subst l1_ y1_ z1_
  obtain ⟨u, rfl, Nq1_, K1_, r2_, r3_⟩ := hQ1_
  have N1_ := Fr.app N0 Nq1_
  refine own_via (fun _ kq => st1_ _ kq) ?_
  show own_Fin _ _ _ _ _ _ _ T1_ (mkF m 3 #[.val (.ref a1), .unset, .unset, .unset, .unset] [(.ref u)])
  refine own_via (fun _ kq => XS.astoreN X1_.here hx rfl (hb hby own_d337) rfl rfl (l' := #[.val (.ref a1), .val (.ref u), .unset, .unset, .unset]) rfl kq) ?_
  refine own_via (fun _ kq => XS.aloadN X1_.here hx rfl (hb hby own_d338) rfl rfl kq) ?_
  show own_Fin _ _ _ _ _ _ _ T1_ (mkF m 5 #[.val (.ref a1), .val (.ref u), .unset, .unset, .unset] [(.ref u)])
  obtain ⟨c4_, Ar4_, -, S4_, M4_, -, -⟩ := (id r3_)
  refine own_via (fun _ kq => X1_.arraylength hx (own_eq rfl Ar4_.1) (State.isArrayOf_alike hZ.alike Ar4_.2.1) (g := (mkF m 5 #[.val (.ref a1), .val (.ref u), .unset, .unset, .unset] [(.ref u)])) rfl rfl (hb hby own_d339) _ (by rw [len_of S4_ M4_]; exact kq)) ?_
  show own_Fin _ _ _ _ _ _ _ T1_ (mkF m 6 #[.val (.ref a1), .val (.ref u), .unset, .unset, .unset] [(.int (2 : Int32))])
  refine own_via (fun _ kq => XS.istoreN X1_.here hx rfl (hb hby own_d340) rfl (l' := #[.val (.ref a1), .val (.ref u), .val (.int (2 : Int32)), .unset, .unset]) rfl kq) ?_
  refine own_via (fun _ kq => XS.iconst X1_.here hx rfl (hb hby own_d341) kq) ?_
  refine own_via (fun _ kq => XS.istoreN X1_.here hx rfl (hb hby own_d342) rfl (l' := #[.val (.ref a1), .val (.ref u), .val (.int (2 : Int32)), .val (.int (0 : Int32)), .unset]) rfl kq) ?_
  refine own_via (fun _ kq => XS.iloadN X1_.here hx rfl (hb hby own_d343) rfl kq) ?_
  refine own_via (fun _ kq => XS.iloadN X1_.here hx rfl (hb hby own_d344) rfl kq) ?_
  refine own_via (fun _ kq => XS.icmpNo X1_.here hx rfl (hb hby own_d345) rfl (tlt (by decide)).2.1 kq) ?_
  show own_Fin _ _ _ _ _ _ _ T1_ (mkF m 14 #[.val (.ref a1), .val (.ref u), .val (.int (2 : Int32)), .val (.int (0 : Int32)), .unset] [])
  refine own_via (fun _ kq => XS.aloadN X1_.here hx rfl (hb hby own_d346) rfl rfl kq) ?_
  refine own_via (fun _ kq => XS.iloadN X1_.here hx rfl (hb hby own_d347) rfl kq) ?_
  show own_Fin _ _ _ _ _ _ _ T1_ (mkF m 16 #[.val (.ref a1), .val (.ref u), .val (.int (2 : Int32)), .val (.int (0 : Int32)), .unset] [(.int (0 : Int32)), (.ref u)])
  obtain ⟨c5_, Ar5_, q5_, S5_, M5_, H5_, G5_⟩ := (id r3_)
  have hin5_ : ¬ ((0 : Int32) < 0 ∨ c5_.slots.size ≤ ((0 : Int32)).toNatClampNeg) := inb_of S5_ ⟨by decide, by decide⟩
  have hat5_ : c5_.slots[((0 : Int32)).toNatClampNeg]? = some (.ref bt) := H5_.at hin5_ rfl
  refine own_via (fun _ kq => X1_.aaload hx (j := (0 : Int32)) (v := (.ref bt)) (own_eq rfl Ar5_.1) (State.isArrayOf_alike hZ.alike Ar5_.2.1) rfl Ar5_.2.2 hin5_ hat5_ (g := (mkF m 16 #[.val (.ref a1), .val (.ref u), .val (.int (2 : Int32)), .val (.int (0 : Int32)), .unset] [(.int (0 : Int32)), (.ref u)])) rfl rfl (hb hby own_d348) _ kq) ?_
  show own_Fin _ _ _ _ _ _ _ T1_ (mkF m 17 #[.val (.ref a1), .val (.ref u), .val (.int (2 : Int32)), .val (.int (0 : Int32)), .unset] [(.ref bt)])
  refine own_via (fun _ kq => XS.astore X1_.here hx rfl (hb hby own_d349) rfl rfl (l' := #[.val (.ref a1), .val (.ref u), .val (.int (2 : Int32)), .val (.int (0 : Int32)), .val (.ref bt)]) rfl kq) ?_
  refine own_via (fun _ kq => XS.aload X1_.here hx rfl (hb hby own_d350) rfl rfl kq) ?_
  show own_Fin _ _ _ _ _ _ _ T1_ (mkF m 21 #[.val (.ref a1), .val (.ref u), .val (.int (2 : Int32)), .val (.int (0 : Int32)), .val (.ref bt)] [(.ref bt)])
  obtain ⟨T6_, X6_, e6_, st6_⟩ := getF X1_ hx hZ hown (host := "") (Or.inl (own_w hw 102 rfl)) Via.refl rfl ((Fbt.ext O0.2).keep K1_ nin0) (g := (mkF m 21 #[.val (.ref a1), .val (.ref u), .val (.int (2 : Int32)), .val (.int (0 : Int32)), .val (.ref bt)] [(.ref bt)])) rfl rfl (hb hby own_d351)
  refine own_via (fun _ kq => st6_ _ kq) ?_
  show own_Fin _ _ _ _ _ _ _ T6_ (mkF m 24 #[.val (.ref a1), .val (.ref u), .val (.int (2 : Int32)), .val (.int (0 : Int32)), .val (.ref bt)] [(.ref sb)])
  refine own_via (fun _ kq => XS.aloadN X6_.here hx rfl (hb hby own_d352) rfl rfl kq) ?_
  show own_Fin _ _ _ _ _ _ _ T6_ (mkF m 25 #[.val (.ref a1), .val (.ref u), .val (.int (2 : Int32)), .val (.int (0 : Int32)), .val (.ref bt)] [(.ref a1), (.ref sb)])
  obtain ⟨cq7_, kq7_, q7_a, q7_b, q7_c⟩ := isOf hZ e6_ ((Esb.ext O0.2).keep K1_)
  obtain ⟨_, _, ⟨T7_, L7_, k7_, n7_⟩, -, X7_, ⟨Lc7_, hQ7_, l7_, y7_, z7_⟩, st7_⟩ := X6_.virtualBack hx (y := (⟨"java/lang/String", "equals", "(Ljava/lang/Object;)Z"⟩ : MethodName)) (z := (⟨"java/lang/String", "equals", "(Ljava/lang/Object;)Z"⟩ : MethodName)) hown (mvT hZ (own_w hw 104 rfl)) (mvT hZ (own_w hw 72 rfl)) (notFace_of_selects (args := #[]) (mvT hZ (own_w hw 74 rfl))) (mvT hZ (own_w hw 74 rfl)) (mvT hZ (own_w hw 73 rfl)) (by decide) (backOf (W := 0) (own_rm_eqS l Z a0 hw [] sb cz tb ktb (0 : Int32) (12 : Int32) own_v1 own_t1 a1 t kt cd N2 vs cs T1_.heap n0 (Nat.le_trans Z0 K1_.1) (O0.keep K1_ all0) S1 P5 ((Esb.ext O0.2).keep K1_) ((Fcsb.ext O0.2).keep K1_ nin0) ((Fvsb.ext O0.2).keep K1_ nin0) ((Vtb.ext O0.2).keep K1_ nin0) own_lit1 (by decide) own_litr1 (E1.keep K1_) (F1.keep K1_ nin0) (F2.keep K1_ nin0) (Va.keep K1_ nin0) hc hlen hr hnb) hZ (own_w hw 75 rfl) (own_w hw 1 rfl) (by decide) (by decide)) q7_a q7_c (g := (mkF m 25 #[.val (.ref a1), .val (.ref u), .val (.int (2 : Int32)), .val (.int (0 : Int32)), .val (.ref bt)] [(.ref a1), (.ref sb)])) rfl (by rw [hml]; rfl) (Steps.refl _) (argsL := [(.ref a1)]) (rest := []) (lenOf own_pd18 rfl) rfl (by show 2 * 0 + _ ≤ _; exact Nat.le_of_eq rfl) (hb hby own_d353) (fun _ _ => ⟨rfl, e6_, (by decide : 0 + 1 + 0 ≤ _), (by decide : 0 + 2 + 0 ≤ _)⟩)
  dsimp only [Pt.U, Pt.locs, Pt.cells, Pt.slots] at X7_ l7_ y7_ z7_ st7_ hQ7_
  subst l7_ y7_ z7_
  obtain ⟨r0, rfl, Nq7_, hh7_, hx0⟩ := hQ7_
  have N7_ := Fr.app N1_ Nq7_
  refine own_via (fun _ kq => st7_.trans kq) ?_
  show own_Fin _ _ _ _ _ _ _ T7_ (mkF m 28 #[.val (.ref a1), .val (.ref u), .val (.int (2 : Int32)), .val (.int (0 : Int32)), .val (.ref bt)] [(.int r0)])
  refine own_via (fun _ kq => XS.ifYes X7_.here hx rfl (pc0 := 28) (pc' := 37) rfl (hb hby own_d354) rfl ((if0 _ _).trans (teq (hx0.resolve_left fun q => hB q.2.symm).1).1) (by decide) (by decide) kq) ?_
  show own_Fin _ _ _ _ _ _ _ T7_ (mkF m 37 #[.val (.ref a1), .val (.ref u), .val (.int (2 : Int32)), .val (.int (0 : Int32)), .val (.ref bt)] [])
  refine own_via (fun _ kq => XS.iinc X7_.here hx rfl (hb hby own_d358) rfl (l' := #[.val (.ref a1), .val (.ref u), .val (.int (2 : Int32)), .val (.int ((0 : Int32) + (1 : Int32))), .val (.ref bt)]) rfl kq) ?_
  refine own_via (fun _ kq => XS.goto X7_.here hx rfl (pc0 := 40) (pc' := 9) rfl (hb hby own_d359) (by decide) (by decide) kq) ?_
  refine own_via (fun _ kq => XS.iloadN X7_.here hx rfl (hb hby own_d343) rfl kq) ?_
  refine own_via (fun _ kq => XS.iloadN X7_.here hx rfl (hb hby own_d344) rfl kq) ?_
  refine own_via (fun _ kq => XS.icmpNo X7_.here hx rfl (hb hby own_d345) rfl (tlt (by decide)).2.1 kq) ?_
  show own_Fin _ _ _ _ _ _ _ T7_ (mkF m 14 #[.val (.ref a1), .val (.ref u), .val (.int (2 : Int32)), .val (.int ((0 : Int32) + (1 : Int32))), .val (.ref bt)] [])
  refine own_via (fun _ kq => XS.aloadN X7_.here hx rfl (hb hby own_d346) rfl rfl kq) ?_
  refine own_via (fun _ kq => XS.iloadN X7_.here hx rfl (hb hby own_d347) rfl kq) ?_
  show own_Fin _ _ _ _ _ _ _ T7_ (mkF m 16 #[.val (.ref a1), .val (.ref u), .val (.int (2 : Int32)), .val (.int ((0 : Int32) + (1 : Int32))), .val (.ref bt)] [(.int ((0 : Int32) + (1 : Int32))), (.ref u)])
  obtain ⟨c8_, Ar8_, q8_, S8_, M8_, H8_, G8_⟩ := (id r3_)
  have hin8_ : ¬ (((0 : Int32) + (1 : Int32)) < 0 ∨ c8_.slots.size ≤ (((0 : Int32) + (1 : Int32))).toNatClampNeg) := inb_of S8_ ⟨by decide, by decide⟩
  have hat8_ : c8_.slots[(((0 : Int32) + (1 : Int32))).toNatClampNeg]? = some (.ref ct) := H8_.at hin8_ rfl
  refine own_via (fun _ kq => X7_.aaload hx (j := ((0 : Int32) + (1 : Int32))) (v := (.ref ct)) (own_eq hh7_ Ar8_.1) (State.isArrayOf_alike hZ.alike Ar8_.2.1) rfl Ar8_.2.2 hin8_ hat8_ (g := (mkF m 16 #[.val (.ref a1), .val (.ref u), .val (.int (2 : Int32)), .val (.int ((0 : Int32) + (1 : Int32))), .val (.ref bt)] [(.int ((0 : Int32) + (1 : Int32))), (.ref u)])) rfl rfl (hb hby own_d348) _ kq) ?_
  show own_Fin _ _ _ _ _ _ _ T7_ (mkF m 17 #[.val (.ref a1), .val (.ref u), .val (.int (2 : Int32)), .val (.int ((0 : Int32) + (1 : Int32))), .val (.ref bt)] [(.ref ct)])
  refine own_via (fun _ kq => XS.astore X7_.here hx rfl (hb hby own_d349) rfl rfl (l' := #[.val (.ref a1), .val (.ref u), .val (.int (2 : Int32)), .val (.int ((0 : Int32) + (1 : Int32))), .val (.ref ct)]) rfl kq) ?_
  refine own_via (fun _ kq => XS.aload X7_.here hx rfl (hb hby own_d350) rfl rfl kq) ?_
  show own_Fin _ _ _ _ _ _ _ T7_ (mkF m 21 #[.val (.ref a1), .val (.ref u), .val (.int (2 : Int32)), .val (.int ((0 : Int32) + (1 : Int32))), .val (.ref ct)] [(.ref ct)])
  obtain ⟨T9_, X9_, e9_, st9_⟩ := getF X7_ hx hZ hown (host := "") (Or.inl (own_w hw 102 rfl)) Via.refl hh7_ ((Fct.ext O0.2).keep K1_ nin0) (g := (mkF m 21 #[.val (.ref a1), .val (.ref u), .val (.int (2 : Int32)), .val (.int ((0 : Int32) + (1 : Int32))), .val (.ref ct)] [(.ref ct)])) rfl rfl (hb hby own_d351)
  refine own_via (fun _ kq => st9_ _ kq) ?_
  show own_Fin _ _ _ _ _ _ _ T9_ (mkF m 24 #[.val (.ref a1), .val (.ref u), .val (.int (2 : Int32)), .val (.int ((0 : Int32) + (1 : Int32))), .val (.ref ct)] [(.ref sc)])
  refine own_via (fun _ kq => XS.aloadN X9_.here hx rfl (hb hby own_d352) rfl rfl kq) ?_
  show own_Fin _ _ _ _ _ _ _ T9_ (mkF m 25 #[.val (.ref a1), .val (.ref u), .val (.int (2 : Int32)), .val (.int ((0 : Int32) + (1 : Int32))), .val (.ref ct)] [(.ref a1), (.ref sc)])
  obtain ⟨cq10_, kq10_, q10_a, q10_b, q10_c⟩ := isOf hZ e9_ ((Esc.ext O0.2).keep K1_)
  obtain ⟨_, _, ⟨T10_, L10_, k10_, n10_⟩, -, X10_, ⟨Lc10_, hQ10_, l10_, y10_, z10_⟩, st10_⟩ := X9_.virtualBack hx (y := (⟨"java/lang/String", "equals", "(Ljava/lang/Object;)Z"⟩ : MethodName)) (z := (⟨"java/lang/String", "equals", "(Ljava/lang/Object;)Z"⟩ : MethodName)) hown (mvT hZ (own_w hw 104 rfl)) (mvT hZ (own_w hw 72 rfl)) (notFace_of_selects (args := #[]) (mvT hZ (own_w hw 74 rfl))) (mvT hZ (own_w hw 74 rfl)) (mvT hZ (own_w hw 73 rfl)) (by decide) (backOf (W := 0) (own_rm_eqS l Z a0 hw [] sc cz tc ktc (0 : Int32) (18 : Int32) own_v2 own_t2 a1 t kt cd N2 vs cs T1_.heap n0 (Nat.le_trans Z0 K1_.1) (O0.keep K1_ all0) S1 P5 ((Esc.ext O0.2).keep K1_) ((Fcsc.ext O0.2).keep K1_ nin0) ((Fvsc.ext O0.2).keep K1_ nin0) ((Vtc.ext O0.2).keep K1_ nin0) own_lit2 (by decide) own_litr2 (E1.keep K1_) (F1.keep K1_ nin0) (F2.keep K1_ nin0) (Va.keep K1_ nin0) hc hlen hr hnc) hZ (own_w hw 75 rfl) (own_w hw 1 rfl) (by decide) (by decide)) q10_a q10_c (g := (mkF m 25 #[.val (.ref a1), .val (.ref u), .val (.int (2 : Int32)), .val (.int ((0 : Int32) + (1 : Int32))), .val (.ref ct)] [(.ref a1), (.ref sc)])) rfl (by rw [hml]; rfl) (Steps.refl _) (argsL := [(.ref a1)]) (rest := []) (lenOf own_pd18 rfl) rfl (by show 2 * 0 + _ ≤ _; exact Nat.le_of_eq rfl) (hb hby own_d353) (fun _ _ => ⟨rfl, e9_, (by decide : 0 + 1 + 0 + 0 ≤ _), (by decide : 0 + 2 + 0 + 0 ≤ _)⟩)
  dsimp only [Pt.U, Pt.locs, Pt.cells, Pt.slots] at X10_ l10_ y10_ z10_ st10_ hQ10_
  subst l10_ y10_ z10_
  obtain ⟨r1, rfl, Nq10_, hh10_, hx1⟩ := hQ10_
  have N10_ := Fr.app N7_ Nq10_
  refine own_via (fun _ kq => st10_.trans kq) ?_
  show own_Fin _ _ _ _ _ _ _ T10_ (mkF m 28 #[.val (.ref a1), .val (.ref u), .val (.int (2 : Int32)), .val (.int ((0 : Int32) + (1 : Int32))), .val (.ref ct)] [(.int r1)])
  refine own_via (fun _ kq => XS.ifNo X10_.here hx rfl (hb hby own_d354) rfl ((if0 _ _).trans (feq (fun z => (hx1.resolve_left fun q => absurd (q.1.symm.trans z) (by decide)).2 hC.symm)).1) kq) ?_
  show own_Fin _ _ _ _ _ _ _ T10_ (mkF m 31 #[.val (.ref a1), .val (.ref u), .val (.int (2 : Int32)), .val (.int ((0 : Int32) + (1 : Int32))), .val (.ref ct)] [])
  refine own_via (fun _ kq => XS.aload X10_.here hx rfl (hb hby own_d355) rfl rfl kq) ?_
  show own_Fin _ _ _ _ _ _ _ T10_ (mkF m 33 #[.val (.ref a1), .val (.ref u), .val (.int (2 : Int32)), .val (.int ((0 : Int32) + (1 : Int32))), .val (.ref ct)] [(.ref ct)])
  obtain ⟨_, _, ⟨T11_, L11_, k11_, n11_⟩, -, X11_, ⟨Lc11_, hQ11_, l11_, y11_, z11_⟩, st11_⟩ := Jvm.LawKit.callS X10_ hx (y := (⟨"java/util/Optional", "of", "(Ljava/lang/Object;)Ljava/util/Optional;"⟩ : MethodName)) hown (mvT hZ (own_w hw 138 rfl)) (mvT hZ (own_w hw 139 rfl)) (mvT hZ (own_w hw 107 rfl)) (mvT hZ (own_w hw 140 rfl)) (by decide) (backOf (W := 0) (own_rm_optOf l Z a0 hw [] ct T1_.heap n0 (Nat.le_trans Z0 K1_.1) ) hZ (own_w hw 140 rfl) (own_w hw 107 rfl) (by decide) (by decide)) (g := (mkF m 33 #[.val (.ref a1), .val (.ref u), .val (.int (2 : Int32)), .val (.int ((0 : Int32) + (1 : Int32))), .val (.ref ct)] [(.ref ct)])) rfl (by rw [hml]; rfl) (argsL := [(.ref ct)]) (rest := []) (lenOf own_pd19 rfl) rfl (by show 2 * 0 + _ ≤ _; exact Nat.le_of_eq rfl) (hb hby own_d356) (fun _ _ => ⟨rfl, hh10_, (by decide : 0 + 1 + 0 + 0 + 1 ≤ _), (by decide : 0 + 2 + 0 + 0 + 1 ≤ _)⟩)
  dsimp only [Pt.U, Pt.locs, Pt.cells, Pt.slots] at X11_ l11_ y11_ z11_ st11_ hQ11_
  subst l11_ y11_ z11_
  obtain ⟨o, rfl, Nq11_, K11_, r12_, r13_, r14_⟩ := hQ11_
  have N11_ := Fr.app N10_ Nq11_
  refine own_via (fun _ kq => st11_ _ kq) ?_
  show own_Fin _ _ _ _ _ _ _ T11_ (mkF m 36 #[.val (.ref a1), .val (.ref u), .val (.int (2 : Int32)), .val (.int ((0 : Int32) + (1 : Int32))), .val (.ref ct)] [(.ref o)])
  exact own_retA X11_ hx Bd.returns Bd.notSynchronized rfl rfl (hb hby own_d357) rfl ⟨o, rfl, N11_, (((Keep.refl h0 []).trans K1_ all0).trans K11_ all0), r13_, r14_⟩ (by decide) (by decide)
theorem own_d360 : decode prog_26_method_5_code 43 = .ok (.invokestatic 49, 3) := by decide +kernel
theorem own_pd20 : parseMethodDescriptor "()Ljava/util/Optional;" = some ⟨[], some (.object "java/util/Optional")⟩ := by decide +kernel
theorem own_d361 : decode prog_26_method_5_code 46 = .ok (.areturn, 1) := by decide +kernel
theorem own_ef_ofN (m : MethodId) (a1 : Addr) : entryFrame m #[(.ref a1)] 5 = mkF m 0 #[.val (.ref a1), .unset, .unset, .unset, .unset] [] := by (first | (simp [entryFrame, mkF, argsToLocals, Value.category]; done) | rfl)
def own_Q_ofN (Z : State) (a1 : Addr) (cz : Int32) (t : Addr) (kt : ClassId) (cd : Int32) (N2 : Int32) (vs : List Value) (cs : List Int32) (va : Addr) (kv : ClassId) (bt : Addr) (ct : Addr) (sb : Addr) (tb : Addr) (ktb : ClassId) (sc : Addr) (tc : Addr) (ktc : ClassId) (em : Addr) (h0 : Heap) (n0 : Nat) (vq : Option Value) (h : Heap) (Lq : List Loc) : Prop := ∃ (o : Addr), (vq = some (.ref o)) ∧ (Fr n0 Lq) ∧ (Keep h0 h []) ∧ (Exa Z h o "java/util/Optional") ∧ (Fld Z h o "java/util/Optional" "value" "Ljava/lang/Object;" .null)
abbrev own_R_ofN : Room := { frames := 2, cells := 1, slots := 2, locals := 28 }
set_option maxRecDepth 65536 in
set_option maxHeartbeats 40000000 in
theorem own_rm_ofN (l : Launch) (Z : State) (a0 : Array Value) (hw : ∀ d ∈ tables_1, d.before a0 Z = true) (wsq : List Jvm.Cond) (a1 : Addr) (cz : Int32) (t : Addr) (kt : ClassId) (cd : Int32) (N2 : Int32) (vs : List Value) (cs : List Int32) (va : Addr) (kv : ClassId) (bt : Addr) (ct : Addr) (sb : Addr) (tb : Addr) (ktb : ClassId) (sc : Addr) (tc : Addr) (ktc : ClassId) (em : Addr) (h0 : Heap) (n0 : Nat) (Z0 : n0 ≤ h0.size) (O0 : Old Z n0 h0) (S1 : Sta Z Z.heap "java/lang/String" "COMPACT_STRINGS" "Z" (.int cz)) (P5 : ¬ cz = (0 : Int32)) (Sv : Sta Z Z.heap "com/example/lichen/lichen/webhook/EventType" "$VALUES" "[Lcom/example/lichen/lichen/webhook/EventType;" (.ref va)) (Se : Sta Z Z.heap "java/util/Optional" "EMPTY" "Ljava/util/Optional;" (.ref em)) (E1 : Exa Z h0 a1 "java/lang/String") (F1 : Fld Z h0 a1 "java/lang/String" "coder" "B" (.int cd)) (F2 : Fld Z h0 a1 "java/lang/String" "value" "[B" (.ref t)) (Va : Arv Z h0 t kt .byte N2 vs (.int 0)) (hc : own_cod cs cd N2 vs) (hlen : cs.length ≤ 4000) (hr : own_chs cs) (Eva : Exa Z Z.heap va "[Lcom/example/lichen/lichen/webhook/EventType;") (Vva : Arv Z Z.heap va kv (.object "com/example/lichen/lichen/webhook/EventType") (2 : Int32) [.ref bt, .ref ct] .null) (Ebt : Exa Z Z.heap bt "com/example/lichen/lichen/webhook/EventType") (Fbt : Fld Z Z.heap bt "com/example/lichen/lichen/webhook/EventType" "code" "Ljava/lang/String;" (.ref sb)) (Esb : Exa Z Z.heap sb "java/lang/String") (Fcsb : Fld Z Z.heap sb "java/lang/String" "coder" "B" (.int (0 : Int32))) (Fvsb : Fld Z Z.heap sb "java/lang/String" "value" "[B" (.ref tb)) (Vtb : Arv Z Z.heap tb ktb .byte (12 : Int32) own_v1 (.int 0)) (Ect : Exa Z Z.heap ct "com/example/lichen/lichen/webhook/EventType") (Fct : Fld Z Z.heap ct "com/example/lichen/lichen/webhook/EventType" "code" "Ljava/lang/String;" (.ref sc)) (Esc : Exa Z Z.heap sc "java/lang/String") (Fcsc : Fld Z Z.heap sc "java/lang/String" "coder" "B" (.int (0 : Int32))) (Fvsc : Fld Z Z.heap sc "java/lang/String" "value" "[B" (.ref tc)) (Vtc : Arv Z Z.heap tc ktc .byte (18 : Int32) own_v2 (.int 0)) (Eem : Exa Z Z.heap em "java/util/Optional") (Fem : Fld Z Z.heap em "java/util/Optional" "value" "Ljava/lang/Object;" .null) (hnb : sb ≠ a1) (hnc : sc ≠ a1) (hB : ¬ cs = own_t1) (hC : ¬ cs = own_t2) :
    MetFree l (⟨"com/example/lichen/lichen/webhook/EventType", "of", "(Ljava/lang/String;)Ljava/util/Optional;"⟩ : MethodName) (head1 (Jvm.Cond.code (⟨"com/example/lichen/lichen/webhook/EventType", "of", "(Ljava/lang/String;)Ljava/util/Optional;"⟩ : MethodName) prog_26_method_5_code 5 (some (.object "java/util/Optional")) :: wsq) own_R_ofN) (fun aq Uq => aq = #[(.ref a1)] ∧ Z.Warmed39 Uq.vm ∧ Uq.heap = h0) (fun _ _ _ _ _ => True) (fun _ Uq oq Uq' => ∃ vq Lq, oq = .returned vq ∧ own_Q_ofN Z a1 cz t kt cd N2 vs cs va kv bt ct sb tb ktb sc tc ktc em h0 n0 vq Uq'.heap Lq ∧ FrameEnd Uq oq Uq' Lq own_R_ofN.cells own_R_ofN.slots) := by
  refine MetFree.of_bodySF (plainFor_of_name own_pn7) hisR ?_
  intro p e s m args below meth cde s₁ Bd hml0 hP hK
  obtain ⟨rfl, hZ, hh⟩ := hP
  have hx := Bd.exec
  have hby := Bd.bytes
  have hml : cde.maxLocals = 5 := hml0
  have hown : s.vm.findClass "com/example/lichen/lichen/webhook/EventType" = some m.cls := findClass_of_methodNamed Bd.named
  have hnm := (name_of_methodNamed Bd.named Bd.method).1
  have X0 : Stand p l e own_R_ofN s m #[(.ref a1)] below meth cde s₁ [] 0 0 := Stand.of_body Bd
  have e0 : s₁.heap = h0 := by rw [← hh, Bd.state]; rfl
  have N0 := Fr.nil n0
  show own_Fin p e s below (own_Q_ofN Z a1 cz t kt cd N2 vs cs va kv bt ct sb tb ktb sc tc ktc em h0 n0) own_R_ofN.cells own_R_ofN.slots s₁ (entryFrame m #[(.ref a1)] 5)
  rw [own_ef_ofN m a1]
  obtain ⟨_, _, ⟨T1_, L1_, k1_, n1_⟩, -, X1_, ⟨Lc1_, hQ1_, l1_, y1_, z1_⟩, st1_⟩ := Jvm.LawKit.callS X0 hx (y := (⟨"com/example/lichen/lichen/webhook/EventType", "values", "()[Lcom/example/lichen/lichen/webhook/EventType;"⟩ : MethodName)) hown (mvT hZ (own_w hw 85 rfl)) (mvT hZ (own_w hw 86 rfl)) (mvT hZ (own_w hw 83 rfl)) (mvT hZ (own_w hw 87 rfl)) (by decide) (backOf (W := 0) (own_rm_vals l Z a0 hw [] va kv bt ct h0 n0 Z0 O0 Sv Eva Vva) hZ (own_w hw 87 rfl) (own_w hw 83 rfl) (by decide) (by decide)) (g := (mkF m 0 #[.val (.ref a1), .unset, .unset, .unset, .unset] [])) rfl (by rw [hml]; rfl) (argsL := []) (rest := []) (lenOf own_pd17 rfl) rfl (by show 2 * 0 + _ ≤ _; exact Nat.le_of_eq rfl) (hb hby own_d336) (fun _ _ => ⟨rfl, e0, (by decide : 0 + 1 ≤ _), (by decide : 0 + 2 ≤ _)⟩)
  dsimp only [Pt.U, Pt.locs, Pt.cells, Pt.slots] at X1_ l1_ y1_ z1_ st1_ hQ1_
  subst l1_ y1_ z1_
  obtain ⟨u, rfl, Nq1_, K1_, r2_, r3_⟩ := hQ1_
  have N1_ := Fr.app N0 Nq1_
  refine own_via (fun _ kq => st1_ _ kq) ?_
  show own_Fin _ _ _ _ _ _ _ T1_ (mkF m 3 #[.val (.ref a1), .unset, .unset, .unset, .unset] [(.ref u)])
  refine own_via (fun _ kq => XS.astoreN X1_.here hx rfl (hb hby own_d337) rfl rfl (l' := #[.val (.ref a1), .val (.ref u), .unset, .unset, .unset]) rfl kq) ?_
  refine own_via (fun _ kq => XS.aloadN X1_.here hx rfl (hb hby own_d338) rfl rfl kq) ?_
  show own_Fin _ _ _ _ _ _ _ T1_ (mkF m 5 #[.val (.ref a1), .val (.ref u), .unset, .unset, .unset] [(.ref u)])
  obtain ⟨c4_, Ar4_, -, S4_, M4_, -, -⟩ := (id r3_)
  refine own_via (fun _ kq => X1_.arraylength hx (own_eq rfl Ar4_.1) (State.isArrayOf_alike hZ.alike Ar4_.2.1) (g := (mkF m 5 #[.val (.ref a1), .val (.ref u), .unset, .unset, .unset] [(.ref u)])) rfl rfl (hb hby own_d339) _ (by rw [len_of S4_ M4_]; exact kq)) ?_
  show own_Fin _ _ _ _ _ _ _ T1_ (mkF m 6 #[.val (.ref a1), .val (.ref u), .unset, .unset, .unset] [(.int (2 : Int32))])
  refine own_via (fun _ kq => XS.istoreN X1_.here hx rfl (hb hby own_d340) rfl (l' := #[.val (.ref a1), .val (.ref u), .val (.int (2 : Int32)), .unset, .unset]) rfl kq) ?_
  refine own_via (fun _ kq => XS.iconst X1_.here hx rfl (hb hby own_d341) kq) ?_
  refine own_via (fun _ kq => XS.istoreN X1_.here hx rfl (hb hby own_d342) rfl (l' := #[.val (.ref a1), .val (.ref u), .val (.int (2 : Int32)), .val (.int (0 : Int32)), .unset]) rfl kq) ?_
  refine own_via (fun _ kq => XS.iloadN X1_.here hx rfl (hb hby own_d343) rfl kq) ?_
  refine own_via (fun _ kq => XS.iloadN X1_.here hx rfl (hb hby own_d344) rfl kq) ?_
  refine own_via (fun _ kq => XS.icmpNo X1_.here hx rfl (hb hby own_d345) rfl (tlt (by decide)).2.1 kq) ?_
  show own_Fin _ _ _ _ _ _ _ T1_ (mkF m 14 #[.val (.ref a1), .val (.ref u), .val (.int (2 : Int32)), .val (.int (0 : Int32)), .unset] [])
  refine own_via (fun _ kq => XS.aloadN X1_.here hx rfl (hb hby own_d346) rfl rfl kq) ?_
  refine own_via (fun _ kq => XS.iloadN X1_.here hx rfl (hb hby own_d347) rfl kq) ?_
  show own_Fin _ _ _ _ _ _ _ T1_ (mkF m 16 #[.val (.ref a1), .val (.ref u), .val (.int (2 : Int32)), .val (.int (0 : Int32)), .unset] [(.int (0 : Int32)), (.ref u)])
  obtain ⟨c5_, Ar5_, q5_, S5_, M5_, H5_, G5_⟩ := (id r3_)
  have hin5_ : ¬ ((0 : Int32) < 0 ∨ c5_.slots.size ≤ ((0 : Int32)).toNatClampNeg) := inb_of S5_ ⟨by decide, by decide⟩
  have hat5_ : c5_.slots[((0 : Int32)).toNatClampNeg]? = some (.ref bt) := H5_.at hin5_ rfl
  refine own_via (fun _ kq => X1_.aaload hx (j := (0 : Int32)) (v := (.ref bt)) (own_eq rfl Ar5_.1) (State.isArrayOf_alike hZ.alike Ar5_.2.1) rfl Ar5_.2.2 hin5_ hat5_ (g := (mkF m 16 #[.val (.ref a1), .val (.ref u), .val (.int (2 : Int32)), .val (.int (0 : Int32)), .unset] [(.int (0 : Int32)), (.ref u)])) rfl rfl (hb hby own_d348) _ kq) ?_
  show own_Fin _ _ _ _ _ _ _ T1_ (mkF m 17 #[.val (.ref a1), .val (.ref u), .val (.int (2 : Int32)), .val (.int (0 : Int32)), .unset] [(.ref bt)])
  refine own_via (fun _ kq => XS.astore X1_.here hx rfl (hb hby own_d349) rfl rfl (l' := #[.val (.ref a1), .val (.ref u), .val (.int (2 : Int32)), .val (.int (0 : Int32)), .val (.ref bt)]) rfl kq) ?_
  refine own_via (fun _ kq => XS.aload X1_.here hx rfl (hb hby own_d350) rfl rfl kq) ?_
  show own_Fin _ _ _ _ _ _ _ T1_ (mkF m 21 #[.val (.ref a1), .val (.ref u), .val (.int (2 : Int32)), .val (.int (0 : Int32)), .val (.ref bt)] [(.ref bt)])
  obtain ⟨T6_, X6_, e6_, st6_⟩ := getF X1_ hx hZ hown (host := "") (Or.inl (own_w hw 102 rfl)) Via.refl rfl ((Fbt.ext O0.2).keep K1_ nin0) (g := (mkF m 21 #[.val (.ref a1), .val (.ref u), .val (.int (2 : Int32)), .val (.int (0 : Int32)), .val (.ref bt)] [(.ref bt)])) rfl rfl (hb hby own_d351)
  refine own_via (fun _ kq => st6_ _ kq) ?_
  show own_Fin _ _ _ _ _ _ _ T6_ (mkF m 24 #[.val (.ref a1), .val (.ref u), .val (.int (2 : Int32)), .val (.int (0 : Int32)), .val (.ref bt)] [(.ref sb)])
  refine own_via (fun _ kq => XS.aloadN X6_.here hx rfl (hb hby own_d352) rfl rfl kq) ?_
  show own_Fin _ _ _ _ _ _ _ T6_ (mkF m 25 #[.val (.ref a1), .val (.ref u), .val (.int (2 : Int32)), .val (.int (0 : Int32)), .val (.ref bt)] [(.ref a1), (.ref sb)])
  obtain ⟨cq7_, kq7_, q7_a, q7_b, q7_c⟩ := isOf hZ e6_ ((Esb.ext O0.2).keep K1_)
  obtain ⟨_, _, ⟨T7_, L7_, k7_, n7_⟩, -, X7_, ⟨Lc7_, hQ7_, l7_, y7_, z7_⟩, st7_⟩ := X6_.virtualBack hx (y := (⟨"java/lang/String", "equals", "(Ljava/lang/Object;)Z"⟩ : MethodName)) (z := (⟨"java/lang/String", "equals", "(Ljava/lang/Object;)Z"⟩ : MethodName)) hown (mvT hZ (own_w hw 104 rfl)) (mvT hZ (own_w hw 72 rfl)) (notFace_of_selects (args := #[]) (mvT hZ (own_w hw 74 rfl))) (mvT hZ (own_w hw 74 rfl)) (mvT hZ (own_w hw 73 rfl)) (by decide) (backOf (W := 0) (own_rm_eqS l Z a0 hw [] sb cz tb ktb (0 : Int32) (12 : Int32) own_v1 own_t1 a1 t kt cd N2 vs cs T1_.heap n0 (Nat.le_trans Z0 K1_.1) (O0.keep K1_ all0) S1 P5 ((Esb.ext O0.2).keep K1_) ((Fcsb.ext O0.2).keep K1_ nin0) ((Fvsb.ext O0.2).keep K1_ nin0) ((Vtb.ext O0.2).keep K1_ nin0) own_lit1 (by decide) own_litr1 (E1.keep K1_) (F1.keep K1_ nin0) (F2.keep K1_ nin0) (Va.keep K1_ nin0) hc hlen hr hnb) hZ (own_w hw 75 rfl) (own_w hw 1 rfl) (by decide) (by decide)) q7_a q7_c (g := (mkF m 25 #[.val (.ref a1), .val (.ref u), .val (.int (2 : Int32)), .val (.int (0 : Int32)), .val (.ref bt)] [(.ref a1), (.ref sb)])) rfl (by rw [hml]; rfl) (Steps.refl _) (argsL := [(.ref a1)]) (rest := []) (lenOf own_pd18 rfl) rfl (by show 2 * 0 + _ ≤ _; exact Nat.le_of_eq rfl) (hb hby own_d353) (fun _ _ => ⟨rfl, e6_, (by decide : 0 + 1 + 0 ≤ _), (by decide : 0 + 2 + 0 ≤ _)⟩)
  dsimp only [Pt.U, Pt.locs, Pt.cells, Pt.slots] at X7_ l7_ y7_ z7_ st7_ hQ7_
  subst l7_ y7_ z7_
  obtain ⟨r0, rfl, Nq7_, hh7_, hx0⟩ := hQ7_
  have N7_ := Fr.app N1_ Nq7_
  refine own_via (fun _ kq => st7_.trans kq) ?_
  show own_Fin _ _ _ _ _ _ _ T7_ (mkF m 28 #[.val (.ref a1), .val (.ref u), .val (.int (2 : Int32)), .val (.int (0 : Int32)), .val (.ref bt)] [(.int r0)])
  refine own_via (fun _ kq => XS.ifYes X7_.here hx rfl (pc0 := 28) (pc' := 37) rfl (hb hby own_d354) rfl ((if0 _ _).trans (teq (hx0.resolve_left fun q => hB q.2.symm).1).1) (by decide) (by decide) kq) ?_
  show own_Fin _ _ _ _ _ _ _ T7_ (mkF m 37 #[.val (.ref a1), .val (.ref u), .val (.int (2 : Int32)), .val (.int (0 : Int32)), .val (.ref bt)] [])
  refine own_via (fun _ kq => XS.iinc X7_.here hx rfl (hb hby own_d358) rfl (l' := #[.val (.ref a1), .val (.ref u), .val (.int (2 : Int32)), .val (.int ((0 : Int32) + (1 : Int32))), .val (.ref bt)]) rfl kq) ?_
  refine own_via (fun _ kq => XS.goto X7_.here hx rfl (pc0 := 40) (pc' := 9) rfl (hb hby own_d359) (by decide) (by decide) kq) ?_
  refine own_via (fun _ kq => XS.iloadN X7_.here hx rfl (hb hby own_d343) rfl kq) ?_
  refine own_via (fun _ kq => XS.iloadN X7_.here hx rfl (hb hby own_d344) rfl kq) ?_
  refine own_via (fun _ kq => XS.icmpNo X7_.here hx rfl (hb hby own_d345) rfl (tlt (by decide)).2.1 kq) ?_
  show own_Fin _ _ _ _ _ _ _ T7_ (mkF m 14 #[.val (.ref a1), .val (.ref u), .val (.int (2 : Int32)), .val (.int ((0 : Int32) + (1 : Int32))), .val (.ref bt)] [])
  refine own_via (fun _ kq => XS.aloadN X7_.here hx rfl (hb hby own_d346) rfl rfl kq) ?_
  refine own_via (fun _ kq => XS.iloadN X7_.here hx rfl (hb hby own_d347) rfl kq) ?_
  show own_Fin _ _ _ _ _ _ _ T7_ (mkF m 16 #[.val (.ref a1), .val (.ref u), .val (.int (2 : Int32)), .val (.int ((0 : Int32) + (1 : Int32))), .val (.ref bt)] [(.int ((0 : Int32) + (1 : Int32))), (.ref u)])
  obtain ⟨c8_, Ar8_, q8_, S8_, M8_, H8_, G8_⟩ := (id r3_)
  have hin8_ : ¬ (((0 : Int32) + (1 : Int32)) < 0 ∨ c8_.slots.size ≤ (((0 : Int32) + (1 : Int32))).toNatClampNeg) := inb_of S8_ ⟨by decide, by decide⟩
  have hat8_ : c8_.slots[(((0 : Int32) + (1 : Int32))).toNatClampNeg]? = some (.ref ct) := H8_.at hin8_ rfl
  refine own_via (fun _ kq => X7_.aaload hx (j := ((0 : Int32) + (1 : Int32))) (v := (.ref ct)) (own_eq hh7_ Ar8_.1) (State.isArrayOf_alike hZ.alike Ar8_.2.1) rfl Ar8_.2.2 hin8_ hat8_ (g := (mkF m 16 #[.val (.ref a1), .val (.ref u), .val (.int (2 : Int32)), .val (.int ((0 : Int32) + (1 : Int32))), .val (.ref bt)] [(.int ((0 : Int32) + (1 : Int32))), (.ref u)])) rfl rfl (hb hby own_d348) _ kq) ?_
  show own_Fin _ _ _ _ _ _ _ T7_ (mkF m 17 #[.val (.ref a1), .val (.ref u), .val (.int (2 : Int32)), .val (.int ((0 : Int32) + (1 : Int32))), .val (.ref bt)] [(.ref ct)])
  refine own_via (fun _ kq => XS.astore X7_.here hx rfl (hb hby own_d349) rfl rfl (l' := #[.val (.ref a1), .val (.ref u), .val (.int (2 : Int32)), .val (.int ((0 : Int32) + (1 : Int32))), .val (.ref ct)]) rfl kq) ?_
  refine own_via (fun _ kq => XS.aload X7_.here hx rfl (hb hby own_d350) rfl rfl kq) ?_
  show own_Fin _ _ _ _ _ _ _ T7_ (mkF m 21 #[.val (.ref a1), .val (.ref u), .val (.int (2 : Int32)), .val (.int ((0 : Int32) + (1 : Int32))), .val (.ref ct)] [(.ref ct)])
  obtain ⟨T9_, X9_, e9_, st9_⟩ := getF X7_ hx hZ hown (host := "") (Or.inl (own_w hw 102 rfl)) Via.refl hh7_ ((Fct.ext O0.2).keep K1_ nin0) (g := (mkF m 21 #[.val (.ref a1), .val (.ref u), .val (.int (2 : Int32)), .val (.int ((0 : Int32) + (1 : Int32))), .val (.ref ct)] [(.ref ct)])) rfl rfl (hb hby own_d351)
  refine own_via (fun _ kq => st9_ _ kq) ?_
  show own_Fin _ _ _ _ _ _ _ T9_ (mkF m 24 #[.val (.ref a1), .val (.ref u), .val (.int (2 : Int32)), .val (.int ((0 : Int32) + (1 : Int32))), .val (.ref ct)] [(.ref sc)])
  refine own_via (fun _ kq => XS.aloadN X9_.here hx rfl (hb hby own_d352) rfl rfl kq) ?_
  show own_Fin _ _ _ _ _ _ _ T9_ (mkF m 25 #[.val (.ref a1), .val (.ref u), .val (.int (2 : Int32)), .val (.int ((0 : Int32) + (1 : Int32))), .val (.ref ct)] [(.ref a1), (.ref sc)])
  obtain ⟨cq10_, kq10_, q10_a, q10_b, q10_c⟩ := isOf hZ e9_ ((Esc.ext O0.2).keep K1_)
  obtain ⟨_, _, ⟨T10_, L10_, k10_, n10_⟩, -, X10_, ⟨Lc10_, hQ10_, l10_, y10_, z10_⟩, st10_⟩ := X9_.virtualBack hx (y := (⟨"java/lang/String", "equals", "(Ljava/lang/Object;)Z"⟩ : MethodName)) (z := (⟨"java/lang/String", "equals", "(Ljava/lang/Object;)Z"⟩ : MethodName)) hown (mvT hZ (own_w hw 104 rfl)) (mvT hZ (own_w hw 72 rfl)) (notFace_of_selects (args := #[]) (mvT hZ (own_w hw 74 rfl))) (mvT hZ (own_w hw 74 rfl)) (mvT hZ (own_w hw 73 rfl)) (by decide) (backOf (W := 0) (own_rm_eqS l Z a0 hw [] sc cz tc ktc (0 : Int32) (18 : Int32) own_v2 own_t2 a1 t kt cd N2 vs cs T1_.heap n0 (Nat.le_trans Z0 K1_.1) (O0.keep K1_ all0) S1 P5 ((Esc.ext O0.2).keep K1_) ((Fcsc.ext O0.2).keep K1_ nin0) ((Fvsc.ext O0.2).keep K1_ nin0) ((Vtc.ext O0.2).keep K1_ nin0) own_lit2 (by decide) own_litr2 (E1.keep K1_) (F1.keep K1_ nin0) (F2.keep K1_ nin0) (Va.keep K1_ nin0) hc hlen hr hnc) hZ (own_w hw 75 rfl) (own_w hw 1 rfl) (by decide) (by decide)) q10_a q10_c (g := (mkF m 25 #[.val (.ref a1), .val (.ref u), .val (.int (2 : Int32)), .val (.int ((0 : Int32) + (1 : Int32))), .val (.ref ct)] [(.ref a1), (.ref sc)])) rfl (by rw [hml]; rfl) (Steps.refl _) (argsL := [(.ref a1)]) (rest := []) (lenOf own_pd18 rfl) rfl (by show 2 * 0 + _ ≤ _; exact Nat.le_of_eq rfl) (hb hby own_d353) (fun _ _ => ⟨rfl, e9_, (by decide : 0 + 1 + 0 + 0 ≤ _), (by decide : 0 + 2 + 0 + 0 ≤ _)⟩)
  dsimp only [Pt.U, Pt.locs, Pt.cells, Pt.slots] at X10_ l10_ y10_ z10_ st10_ hQ10_
  subst l10_ y10_ z10_
  obtain ⟨r1, rfl, Nq10_, hh10_, hx1⟩ := hQ10_
  have N10_ := Fr.app N7_ Nq10_
  refine own_via (fun _ kq => st10_.trans kq) ?_
  show own_Fin _ _ _ _ _ _ _ T10_ (mkF m 28 #[.val (.ref a1), .val (.ref u), .val (.int (2 : Int32)), .val (.int ((0 : Int32) + (1 : Int32))), .val (.ref ct)] [(.int r1)])
  refine own_via (fun _ kq => XS.ifYes X10_.here hx rfl (pc0 := 28) (pc' := 37) rfl (hb hby own_d354) rfl ((if0 _ _).trans (teq (hx1.resolve_left fun q => hC q.2.symm).1).1) (by decide) (by decide) kq) ?_
  show own_Fin _ _ _ _ _ _ _ T10_ (mkF m 37 #[.val (.ref a1), .val (.ref u), .val (.int (2 : Int32)), .val (.int ((0 : Int32) + (1 : Int32))), .val (.ref ct)] [])
  refine own_via (fun _ kq => XS.iinc X10_.here hx rfl (hb hby own_d358) rfl (l' := #[.val (.ref a1), .val (.ref u), .val (.int (2 : Int32)), .val (.int (((0 : Int32) + (1 : Int32)) + (1 : Int32))), .val (.ref ct)]) rfl kq) ?_
  refine own_via (fun _ kq => XS.goto X10_.here hx rfl (pc0 := 40) (pc' := 9) rfl (hb hby own_d359) (by decide) (by decide) kq) ?_
  refine own_via (fun _ kq => XS.iloadN X10_.here hx rfl (hb hby own_d343) rfl kq) ?_
  refine own_via (fun _ kq => XS.iloadN X10_.here hx rfl (hb hby own_d344) rfl kq) ?_
  refine own_via (fun _ kq => XS.icmpYes X10_.here hx rfl (pc0 := 11) (pc' := 43) rfl (hb hby own_d345) rfl (flt (by decide)).2.1 (by decide) (by decide) kq) ?_
  show own_Fin _ _ _ _ _ _ _ T10_ (mkF m 43 #[.val (.ref a1), .val (.ref u), .val (.int (2 : Int32)), .val (.int (((0 : Int32) + (1 : Int32)) + (1 : Int32))), .val (.ref ct)] [])
  obtain ⟨_, _, ⟨T11_, L11_, k11_, n11_⟩, -, X11_, ⟨Lc11_, hQ11_, l11_, y11_, z11_⟩, st11_⟩ := Jvm.LawKit.callS X10_ hx (y := (⟨"java/util/Optional", "empty", "()Ljava/util/Optional;"⟩ : MethodName)) hown (mvT hZ (own_w hw 105 rfl)) (mvT hZ (own_w hw 106 rfl)) (mvT hZ (own_w hw 107 rfl)) (mvT hZ (own_w hw 108 rfl)) (by decide) (backOf (W := 0) (own_rm_optE l Z a0 hw [] em T1_.heap n0 (Nat.le_trans Z0 K1_.1) (O0.keep K1_ all0) Se) hZ (own_w hw 108 rfl) (own_w hw 107 rfl) (by decide) (by decide)) (g := (mkF m 43 #[.val (.ref a1), .val (.ref u), .val (.int (2 : Int32)), .val (.int (((0 : Int32) + (1 : Int32)) + (1 : Int32))), .val (.ref ct)] [])) rfl (by rw [hml]; rfl) (argsL := []) (rest := []) (lenOf own_pd20 rfl) rfl (by show 2 * 0 + _ ≤ _; exact Nat.le_of_eq rfl) (hb hby own_d360) (fun _ _ => ⟨rfl, hh10_, (by decide : 0 + 1 + 0 + 0 + 0 ≤ _), (by decide : 0 + 2 + 0 + 0 + 0 ≤ _)⟩)
  dsimp only [Pt.U, Pt.locs, Pt.cells, Pt.slots] at X11_ l11_ y11_ z11_ st11_ hQ11_
  subst l11_ y11_ z11_
  obtain ⟨rfl, Nq11_, hh11_⟩ := hQ11_
  have N11_ := Fr.app N10_ Nq11_
  refine own_via (fun _ kq => st11_ _ kq) ?_
  show own_Fin _ _ _ _ _ _ _ T11_ (mkF m 46 #[.val (.ref a1), .val (.ref u), .val (.int (2 : Int32)), .val (.int (((0 : Int32) + (1 : Int32)) + (1 : Int32))), .val (.ref ct)] [(.ref em)])
  exact own_retA X11_ hx Bd.returns Bd.notSynchronized rfl rfl (hb hby own_d361) hh11_ ⟨em, rfl, N11_, ((Keep.refl h0 []).trans K1_ all0), ((Eem.ext O0.2).keep K1_), ((Fem.ext O0.2).keep K1_ nin0)⟩ (by decide) (by decide)
theorem own_pd21 : parseMethodDescriptor "([C)V" = some ⟨[(.array .char)], none⟩ := by decide +kernel
theorem own_pd22 : parseMethodDescriptor "(Ljava/lang/String;)Ljava/util/Optional;" = some ⟨[(.object "java/lang/String")], some (.object "java/util/Optional")⟩ := by decide +kernel
theorem own_pd23 : parseMethodDescriptor "()Ljava/lang/Object;" = some ⟨[], some (.object "java/lang/Object")⟩ := by decide +kernel
theorem own_pd24 : parseMethodDescriptor "(Ljava/lang/String;IICZ)C" = some ⟨[(.object "java/lang/String"), .int, .int, .char, .boolean], some .char⟩ := by decide +kernel
theorem own_ef_law (m : MethodId) (p1 : Int32) (p2 : Int32) (p3 : Int32) (p4 : Int32) (p5 : Int32) : entryFrame m #[(.int p1), (.int p2), (.int p3), (.int p4), (.int p5)] maxLocals = mkF m 0 #[.val (.int p1), .val (.int p2), .val (.int p3), .val (.int p4), .val (.int p5), .unset, .unset, .unset, .unset, .unset, .unset, .unset, .unset, .unset] [] := by (first | (simp [entryFrame, mkF, argsToLocals, Value.category, maxLocals]; done) | rfl)
def own_Q_law (Z : State) (p1 : Int32) (p2 : Int32) (p3 : Int32) (p4 : Int32) (p5 : Int32) (cz : Int32) (fm : Value) (va : Addr) (kv : ClassId) (bt : Addr) (ct : Addr) (sb : Addr) (tb : Addr) (ktb : ClassId) (sc : Addr) (tc : Addr) (ktc : ClassId) (em : Addr) (h0 : Heap) (n0 : Nat) (vq : Option Value) (h : Heap) (Lq : List Loc) : Prop := (vq = some (.int (1 : Int32))) ∧ (Fr n0 Lq)
set_option maxRecDepth 65536 in
set_option maxHeartbeats 40000000 in
theorem own_rm_law (l : Launch) (Z : State) (a0 : Array Value) (hw : ∀ d ∈ tables_1, d.before a0 Z = true) (wsq : List Jvm.Cond) (p1 : Int32) (p2 : Int32) (p3 : Int32) (p4 : Int32) (p5 : Int32) (cz : Int32) (fm : Value) (va : Addr) (kv : ClassId) (bt : Addr) (ct : Addr) (sb : Addr) (tb : Addr) (ktb : ClassId) (sc : Addr) (tc : Addr) (ktc : ClassId) (em : Addr) (h0 : Heap) (n0 : Nat) (Z0 : n0 ≤ h0.size) (O0 : Old Z n0 h0) (S1 : Sta Z Z.heap "java/lang/String" "COMPACT_STRINGS" "Z" (.int cz)) (P5 : ¬ cz = (0 : Int32)) (S2 : Sta Z Z.heap "jdk/internal/util/Preconditions" "SIOOBE_FORMATTER" "Ljava/util/function/BiFunction;" fm) (r_fm : fm.isRef = true) (S3 : Sta Z Z.heap "java/lang/StringUTF16" "$assertionsDisabled" "Z" (.int (1 : Int32))) (S4 : Sta Z Z.heap "java/lang/StringUTF16" "HI_BYTE_SHIFT" "I" (.int (0 : Int32))) (S5 : Sta Z Z.heap "java/lang/StringUTF16" "LO_BYTE_SHIFT" "I" (.int (8 : Int32))) (Sv : Sta Z Z.heap "com/example/lichen/lichen/webhook/EventType" "$VALUES" "[Lcom/example/lichen/lichen/webhook/EventType;" (.ref va)) (Se : Sta Z Z.heap "java/util/Optional" "EMPTY" "Ljava/util/Optional;" (.ref em)) (Sb : Sta Z Z.heap "com/example/lichen/lichen/webhook/EventType" "BATCH_SIGNED" "Lcom/example/lichen/lichen/webhook/EventType;" (.ref bt)) (Sc : Sta Z Z.heap "com/example/lichen/lichen/webhook/EventType" "CREDENTIAL_REVOKED" "Lcom/example/lichen/lichen/webhook/EventType;" (.ref ct)) (Eva : Exa Z Z.heap va "[Lcom/example/lichen/lichen/webhook/EventType;") (Vva : Arv Z Z.heap va kv (.object "com/example/lichen/lichen/webhook/EventType") (2 : Int32) [.ref bt, .ref ct] .null) (Ebt : Exa Z Z.heap bt "com/example/lichen/lichen/webhook/EventType") (Fbt : Fld Z Z.heap bt "com/example/lichen/lichen/webhook/EventType" "code" "Ljava/lang/String;" (.ref sb)) (Esb : Exa Z Z.heap sb "java/lang/String") (Fcsb : Fld Z Z.heap sb "java/lang/String" "coder" "B" (.int (0 : Int32))) (Fvsb : Fld Z Z.heap sb "java/lang/String" "value" "[B" (.ref tb)) (Vtb : Arv Z Z.heap tb ktb .byte (12 : Int32) own_v1 (.int 0)) (Ect : Exa Z Z.heap ct "com/example/lichen/lichen/webhook/EventType") (Fct : Fld Z Z.heap ct "com/example/lichen/lichen/webhook/EventType" "code" "Ljava/lang/String;" (.ref sc)) (Esc : Exa Z Z.heap sc "java/lang/String") (Fcsc : Fld Z Z.heap sc "java/lang/String" "coder" "B" (.int (0 : Int32))) (Fvsc : Fld Z Z.heap sc "java/lang/String" "value" "[B" (.ref tc)) (Vtc : Arv Z Z.heap tc ktc .byte (18 : Int32) own_v2 (.int 0)) (Eem : Exa Z Z.heap em "java/util/Optional") (Fem : Fld Z Z.heap em "java/util/Optional" "value" "Ljava/lang/Object;" .null) :
    MetFree l x (head1 (Jvm.Cond.code x code maxLocals ret :: wsq) room_1) (fun aq Uq => aq = #[(.int p1), (.int p2), (.int p3), (.int p4), (.int p5)] ∧ Z.Warmed39 Uq.vm ∧ Uq.heap = h0 ∧ CHv Z own_EL Uq.vm h0) (fun _ _ _ _ _ => True) (fun _ Uq oq Uq' => ∃ vq Lq, oq = .returned vq ∧ own_Q_law Z p1 p2 p3 p4 p5 cz fm va kv bt ct sb tb ktb sc tc ktc em h0 n0 vq Uq'.heap Lq ∧ CHr Z own_EL Uq.vm Uq.heap Uq'.vm Uq'.heap ∧ ReturnedEndW Uq oq Uq' Lq room_1.cells room_1.slots) := by
  refine MetFree.of_bodySF (plainFor_of_name own_pn4) hisR ?_
  intro p e s m args below meth cde s₁ Bd hml0 hP hK
  obtain ⟨rfl, hZ, hh, H0⟩ := hP
  have hx := Bd.exec
  have hby := Bd.bytes
  have hml : cde.maxLocals = 14 := hml0
  have hown : s.vm.findClass "com/example/lichen/lichen/webhook/EventTypeOfPinLaw" = some m.cls := findClass_of_methodNamed Bd.named
  have hnm := (name_of_methodNamed Bd.named Bd.method).1
  have X0 : Stand p l e room_1 (s.setVm s.vm) m #[(.int p1), (.int p2), (.int p3), (.int p4), (.int p5)] below meth cde s₁ [] 0 0 := Stand.of_body Bd
  have e0 : s₁.heap = h0 := by rw [← hh, Bd.state]; rfl
  have N0 := Fr.nil n0
  have hS0 : s.Since s.vm h0.size := (State.WarmedH.refl s).since _
  have hk0 : h0.size ≤ h0.size := Nat.le_refl _
  have C0 : CHr Z own_EL s.vm h0 s.vm h0 := CHr.refl H0
  show own_FinH p e s below Z own_EL (own_Q_law Z p1 p2 p3 p4 p5 cz fm va kv bt ct sb tb ktb sc tc ktc em h0 n0) room_1.cells room_1.slots s₁ (entryFrame m #[(.int p1), (.int p2), (.int p3), (.int p4), (.int p5)] maxLocals)
  rw [own_ef_law m p1 p2 p3 p4 p5]
  refine own_viaH (fun _ kq => XS.iloadN X0.here hx rfl (hb hby at_0) rfl kq) ?_
  refine own_viaH (fun _ kq => XS.iconst X0.here hx rfl (hb hby at_1) kq) ?_
  refine own_viaH (fun _ kq => XS.iand X0.here hx rfl (hb hby at_2) rfl kq) ?_
  rcases Classical.em ((p1 &&& (1 : Int32)) = (0 : Int32)) with h0_ | h0_
  · refine own_viaH (fun _ kq => XS.ifNo X0.here hx rfl (hb hby at_3) rfl ((if0 _ _).trans (teq h0_).2) kq) ?_
    show own_FinH _ _ _ _ _ _ _ _ _ s₁ (mkF m 6 #[.val (.int p1), .val (.int p2), .val (.int p3), .val (.int p4), .val (.int p5), .unset, .unset, .unset, .unset, .unset, .unset, .unset, .unset, .unset] [])
    obtain ⟨a1_, T1_, h1_, k1_, b1_, kb1_, X1_, e1_, E1_, hS1_, hk1_, hZ1_, hown1_, rE1_, rC1_, rV1_, rA1_, -, -, Cq1_, -, Sx1_, st1_⟩ := ldcCH X0 hx hZ hown (own_w hw 0 rfl) (own_atoms hw) e0 hS0 hk0 (own_ew hw) (List.mem_of_getElem? (i := 0) rfl) H0 (vs := [(.int (98 : Int32)), (.int (97 : Int32)), (.int (116 : Int32)), (.int (99 : Int32)), (.int (104 : Int32)), (.int (46 : Int32)), (.int (115 : Int32)), (.int (105 : Int32)), (.int (103 : Int32)), (.int (110 : Int32)), (.int (101 : Int32)), (.int (100 : Int32))]) (z := (12 : Int32)) ⟨by decide, by decide⟩ (by decide) (by decide) (g := (mkF m 6 #[.val (.int p1), .val (.int p2), .val (.int p3), .val (.int p4), .val (.int p5), .unset, .unset, .unset, .unset, .unset, .unset, .unset, .unset, .unset] [])) rfl (hb hby at_6) (n := 48) (by decide) (by decide) (by decide) (by decide)
    refine own_viaH (fun _ kq => st1_ _ kq) ?_
    show own_FinH _ _ _ _ _ _ _ _ _ T1_ (mkF m 8 #[.val (.int p1), .val (.int p2), .val (.int p3), .val (.int p4), .val (.int p5), .unset, .unset, .unset, .unset, .unset, .unset, .unset, .unset, .unset] [(.ref a1_)])
    refine own_viaH (fun _ kq => XS.goto X1_.here hx rfl (pc0 := 8) (pc' := 13) rfl (hb hby at_8) (by decide) (by decide) kq) ?_
    refine own_viaH (fun _ kq => XS.astore X1_.here hx rfl (hb hby at_13) rfl rfl (l' := #[.val (.int p1), .val (.int p2), .val (.int p3), .val (.int p4), .val (.int p5), .val (.ref a1_), .unset, .unset, .unset, .unset, .unset, .unset, .unset, .unset]) rfl kq) ?_
    refine own_viaH (fun _ kq => XS.iloadN X1_.here hx rfl (hb hby at_15) rfl kq) ?_
    show own_FinH _ _ _ _ _ _ _ _ _ T1_ (mkF m 16 #[.val (.int p1), .val (.int p2), .val (.int p3), .val (.int p4), .val (.int p5), .val (.ref a1_), .unset, .unset, .unset, .unset, .unset, .unset, .unset, .unset] [(.int p2)])
    refine own_viaH (fun _ kq => X1_.ldcInt hx hown1_ (mvT hZ1_ (own_w hw 8 rfl)) (g := (mkF m 16 #[.val (.int p1), .val (.int p2), .val (.int p3), .val (.int p4), .val (.int p5), .val (.ref a1_), .unset, .unset, .unset, .unset, .unset, .unset, .unset, .unset] [(.int p2)])) rfl (hb hby at_16) _ kq) ?_
    show own_FinH _ _ _ _ _ _ _ _ _ T1_ (mkF m 18 #[.val (.int p1), .val (.int p2), .val (.int p3), .val (.int p4), .val (.int p5), .val (.ref a1_), .unset, .unset, .unset, .unset, .unset, .unset, .unset, .unset] [(.int (2147483647 : Int32)), (.int p2)])
    refine own_viaH (fun _ kq => XS.iand X1_.here hx rfl (hb hby at_18) rfl kq) ?_
    refine own_viaH (fun _ kq => XS.bipush X1_.here hx rfl (hb hby at_19) kq) ?_
    show own_FinH _ _ _ _ _ _ _ _ _ T1_ (mkF m 21 #[.val (.int p1), .val (.int p2), .val (.int p3), .val (.int p4), .val (.int p5), .val (.ref a1_), .unset, .unset, .unset, .unset, .unset, .unset, .unset, .unset] [(.int (20 : Int32)), (.int (p2 &&& (2147483647 : Int32)))])
    refine own_viaH (fun _ kq => iremM (g := (mkF m 21 #[.val (.int p1), .val (.int p2), .val (.int p3), .val (.int p4), .val (.int p5), .val (.ref a1_), .unset, .unset, .unset, .unset, .unset, .unset, .unset, .unset] [(.int (20 : Int32)), (.int (p2 &&& (2147483647 : Int32)))])) X1_ hx rfl (hb hby at_21) rfl (by decide) kq) ?_
    show own_FinH _ _ _ _ _ _ _ _ _ T1_ (mkF m 22 #[.val (.int p1), .val (.int p2), .val (.int p3), .val (.int p4), .val (.int p5), .val (.ref a1_), .unset, .unset, .unset, .unset, .unset, .unset, .unset, .unset] [(.int ((p2 &&& (2147483647 : Int32)) % (20 : Int32)))])
    refine own_viaH (fun _ kq => XS.istore X1_.here hx rfl (hb hby at_22) rfl (l' := #[.val (.int p1), .val (.int p2), .val (.int p3), .val (.int p4), .val (.int p5), .val (.ref a1_), .val (.int ((p2 &&& (2147483647 : Int32)) % (20 : Int32))), .unset, .unset, .unset, .unset, .unset, .unset, .unset]) rfl kq) ?_
    refine own_viaH (fun _ kq => XS.iloadN X1_.here hx rfl (hb hby at_24) rfl kq) ?_
    show own_FinH _ _ _ _ _ _ _ _ _ T1_ (mkF m 25 #[.val (.int p1), .val (.int p2), .val (.int p3), .val (.int p4), .val (.int p5), .val (.ref a1_), .val (.int ((p2 &&& (2147483647 : Int32)) % (20 : Int32))), .unset, .unset, .unset, .unset, .unset, .unset, .unset] [(.int p3)])
    refine own_viaH (fun _ kq => X1_.ldcInt hx hown1_ (mvT hZ1_ (own_w hw 8 rfl)) (g := (mkF m 25 #[.val (.int p1), .val (.int p2), .val (.int p3), .val (.int p4), .val (.int p5), .val (.ref a1_), .val (.int ((p2 &&& (2147483647 : Int32)) % (20 : Int32))), .unset, .unset, .unset, .unset, .unset, .unset, .unset] [(.int p3)])) rfl (hb hby at_25) _ kq) ?_
    show own_FinH _ _ _ _ _ _ _ _ _ T1_ (mkF m 27 #[.val (.int p1), .val (.int p2), .val (.int p3), .val (.int p4), .val (.int p5), .val (.ref a1_), .val (.int ((p2 &&& (2147483647 : Int32)) % (20 : Int32))), .unset, .unset, .unset, .unset, .unset, .unset, .unset] [(.int (2147483647 : Int32)), (.int p3)])
    refine own_viaH (fun _ kq => XS.iand X1_.here hx rfl (hb hby at_27) rfl kq) ?_
    refine own_viaH (fun _ kq => XS.bipush X1_.here hx rfl (hb hby at_28) kq) ?_
    show own_FinH _ _ _ _ _ _ _ _ _ T1_ (mkF m 30 #[.val (.int p1), .val (.int p2), .val (.int p3), .val (.int p4), .val (.int p5), .val (.ref a1_), .val (.int ((p2 &&& (2147483647 : Int32)) % (20 : Int32))), .unset, .unset, .unset, .unset, .unset, .unset, .unset] [(.int (20 : Int32)), (.int (p3 &&& (2147483647 : Int32)))])
    refine own_viaH (fun _ kq => iremM (g := (mkF m 30 #[.val (.int p1), .val (.int p2), .val (.int p3), .val (.int p4), .val (.int p5), .val (.ref a1_), .val (.int ((p2 &&& (2147483647 : Int32)) % (20 : Int32))), .unset, .unset, .unset, .unset, .unset, .unset, .unset] [(.int (20 : Int32)), (.int (p3 &&& (2147483647 : Int32)))])) X1_ hx rfl (hb hby at_30) rfl (by decide) kq) ?_
    show own_FinH _ _ _ _ _ _ _ _ _ T1_ (mkF m 31 #[.val (.int p1), .val (.int p2), .val (.int p3), .val (.int p4), .val (.int p5), .val (.ref a1_), .val (.int ((p2 &&& (2147483647 : Int32)) % (20 : Int32))), .unset, .unset, .unset, .unset, .unset, .unset, .unset] [(.int ((p3 &&& (2147483647 : Int32)) % (20 : Int32)))])
    refine own_viaH (fun _ kq => XS.istore X1_.here hx rfl (hb hby at_31) rfl (l' := #[.val (.int p1), .val (.int p2), .val (.int p3), .val (.int p4), .val (.int p5), .val (.ref a1_), .val (.int ((p2 &&& (2147483647 : Int32)) % (20 : Int32))), .val (.int ((p3 &&& (2147483647 : Int32)) % (20 : Int32))), .unset, .unset, .unset, .unset, .unset, .unset]) rfl kq) ?_
    refine own_viaH (fun _ kq => XS.iloadN X1_.here hx rfl (hb hby at_33) rfl kq) ?_
    show own_FinH _ _ _ _ _ _ _ _ _ T1_ (mkF m 34 #[.val (.int p1), .val (.int p2), .val (.int p3), .val (.int p4), .val (.int p5), .val (.ref a1_), .val (.int ((p2 &&& (2147483647 : Int32)) % (20 : Int32))), .val (.int ((p3 &&& (2147483647 : Int32)) % (20 : Int32))), .unset, .unset, .unset, .unset, .unset, .unset] [(.int p4)])
    refine own_viaH (fun _ kq => X1_.ldcInt hx hown1_ (mvT hZ1_ (own_w hw 9 rfl)) (g := (mkF m 34 #[.val (.int p1), .val (.int p2), .val (.int p3), .val (.int p4), .val (.int p5), .val (.ref a1_), .val (.int ((p2 &&& (2147483647 : Int32)) % (20 : Int32))), .val (.int ((p3 &&& (2147483647 : Int32)) % (20 : Int32))), .unset, .unset, .unset, .unset, .unset, .unset] [(.int p4)])) rfl (hb hby at_34) _ kq) ?_
    show own_FinH _ _ _ _ _ _ _ _ _ T1_ (mkF m 36 #[.val (.int p1), .val (.int p2), .val (.int p3), .val (.int p4), .val (.int p5), .val (.ref a1_), .val (.int ((p2 &&& (2147483647 : Int32)) % (20 : Int32))), .val (.int ((p3 &&& (2147483647 : Int32)) % (20 : Int32))), .unset, .unset, .unset, .unset, .unset, .unset] [(.int (65535 : Int32)), (.int p4)])
    refine own_viaH (fun _ kq => XS.iand X1_.here hx rfl (hb hby at_36) rfl kq) ?_
    refine own_viaH (fun _ kq => XS.i2c X1_.here hx rfl (hb hby at_37) rfl kq) ?_
    refine own_viaH (fun _ kq => XS.istore X1_.here hx rfl (hb hby at_38) rfl (l' := #[.val (.int p1), .val (.int p2), .val (.int p3), .val (.int p4), .val (.int p5), .val (.ref a1_), .val (.int ((p2 &&& (2147483647 : Int32)) % (20 : Int32))), .val (.int ((p3 &&& (2147483647 : Int32)) % (20 : Int32))), .val (.int ((p4 &&& (65535 : Int32)).toUInt32.toUInt16.toUInt32.toInt32)), .unset, .unset, .unset, .unset, .unset]) rfl kq) ?_
    refine own_viaH (fun _ kq => XS.iload X1_.here hx rfl (hb hby at_40) rfl kq) ?_
    refine own_viaH (fun _ kq => XS.iconst X1_.here hx rfl (hb hby at_42) kq) ?_
    refine own_viaH (fun _ kq => XS.iand X1_.here hx rfl (hb hby at_43) rfl kq) ?_
    have s52 : ∀ (fl : Int32), own_FinH p e s below Z own_EL (own_Q_law Z p1 p2 p3 p4 p5 cz fm va kv bt ct sb tb ktb sc tc ktc em h0 n0) room_1.cells room_1.slots T1_ (mkF m 52 #[.val (.int p1), .val (.int p2), .val (.int p3), .val (.int p4), .val (.int p5), .val (.ref a1_), .val (.int ((p2 &&& (2147483647 : Int32)) % (20 : Int32))), .val (.int ((p3 &&& (2147483647 : Int32)) % (20 : Int32))), .val (.int ((p4 &&& (65535 : Int32)).toUInt32.toUInt16.toUInt32.toInt32)), .unset, .unset, .unset, .unset, .unset] [(.int fl)]) := by
     intro fl
     refine own_viaH (fun _ kq => XS.istore X1_.here hx rfl (hb hby at_52) rfl (l' := #[.val (.int p1), .val (.int p2), .val (.int p3), .val (.int p4), .val (.int p5), .val (.ref a1_), .val (.int ((p2 &&& (2147483647 : Int32)) % (20 : Int32))), .val (.int ((p3 &&& (2147483647 : Int32)) % (20 : Int32))), .val (.int ((p4 &&& (65535 : Int32)).toUInt32.toUInt16.toUInt32.toInt32)), .val (.int fl), .unset, .unset, .unset, .unset]) rfl kq) ?_
     obtain ⟨nn, hnn⟩ : ∃ z, z = ((p2 &&& (2147483647 : Int32)) % (20 : Int32)) := ⟨_, rfl⟩
     obtain ⟨cc, hcc_⟩ : ∃ z, z = ((p4 &&& (65535 : Int32)).toUInt32.toUInt16.toUInt32.toInt32) := ⟨_, rfl⟩
     have hcc : own_chr cc := by rw [hcc_]; exact own_i2c_chr _
     obtain ⟨n, hN, hn19⟩ : ∃ n : Nat, nn = Int32.ofNat n ∧ n ≤ 19 := by rw [hnn]; exact own_n20 p2
     obtain ⟨po, hpo⟩ : ∃ z, z = ((p3 &&& (2147483647 : Int32)) % (20 : Int32)) := ⟨_, rfl⟩
     have hn4 : n ≤ 4000 := Nat.le_trans hn19 (by decide)
     have hn10 : n ≤ 10000 := Nat.le_trans hn19 (by decide)
     rw [← hnn, ← hcc_, ← hpo]
     show own_FinH _ _ _ _ _ _ _ _ _ T1_ (mkF m 54 #[.val (.int p1), .val (.int p2), .val (.int p3), .val (.int p4), .val (.int p5), .val (.ref a1_), .val (.int nn), .val (.int po), .val (.int cc), .val (.int fl), .unset, .unset, .unset, .unset] [])
     refine own_viaH (fun _ kq => XS.iload X1_.here hx rfl (hb hby at_54) rfl kq) ?_
     show own_FinH _ _ _ _ _ _ _ _ _ T1_ (mkF m 56 #[.val (.int p1), .val (.int p2), .val (.int p3), .val (.int p4), .val (.int p5), .val (.ref a1_), .val (.int nn), .val (.int po), .val (.int cc), .val (.int fl), .unset, .unset, .unset, .unset] [(.int nn)])
     obtain ⟨T2_, h2_, k2_, X2_, e2_, E2_, A2_, st2_⟩ := newP X1_ hx hZ1_ (own_w hw 10 rfl) e1_ (g := (mkF m 56 #[.val (.int p1), .val (.int p2), .val (.int p3), .val (.int p4), .val (.int p5), .val (.ref a1_), .val (.int nn), .val (.int po), .val (.int cc), .val (.int fl), .unset, .unset, .unset, .unset] [(.int nn)])) rfl (hb hby at_56) rfl (own_nneg hN hn10) (cap := 19) (by rw [own_clamp hN hn10]; exact hn19) (by decide) (by decide) (by decide)
     obtain ⟨b2_, g2_⟩ : ∃ z, z = h1_.size := ⟨_, rfl⟩
     rw [← g2_] at A2_ st2_
     have V2_ : Arv Z h2_ b2_ k2_ .char nn (List.replicate n (.int (0 : Int32))) (.int (0 : Int32)) := (Arv.new A2_ (own_nneg hN hn10)).pad (pad_rep [] (.int (0 : Int32)) n)
     refine own_viaH (fun _ kq => st2_ _ kq) ?_
     show own_FinH _ _ _ _ _ _ _ _ _ T2_ (mkF m 58 #[.val (.int p1), .val (.int p2), .val (.int p3), .val (.int p4), .val (.int p5), .val (.ref a1_), .val (.int nn), .val (.int po), .val (.int cc), .val (.int fl), .unset, .unset, .unset, .unset] [(.ref b2_)])
     refine own_viaH (fun _ kq => XS.astore X2_.here hx rfl (hb hby at_58) rfl rfl (l' := #[.val (.int p1), .val (.int p2), .val (.int p3), .val (.int p4), .val (.int p5), .val (.ref a1_), .val (.int nn), .val (.int po), .val (.int cc), .val (.int fl), .val (.ref b2_), .unset, .unset, .unset]) rfl kq) ?_
     have Vr : Arv Z h2_ b2_ k2_ .char nn ((List.replicate n (0 : Int32)).map Value.int) (.int 0) := by rw [List.map_replicate]; exact V2_
     have q3_ : a1_ ≠ b2_ := Nat.ne_of_lt (Nat.lt_of_lt_of_le rE1_.lt (Nat.le_of_eq g2_.symm))
     have q4_ : b1_ ≠ b2_ := Nat.ne_of_lt (Nat.lt_of_lt_of_le rA1_.lt (Nat.le_of_eq g2_.symm))
     have g5_ : n0 ≤ b2_ := Nat.le_trans (Nat.le_trans Z0 E1_.1) (Nat.le_of_eq g2_.symm)
     have s516 : ∀ (xs : List Int32) (Tl : State) (locl : List Loc) (Xl : Stand p l e room_1 (s.setVm T1_.vm) m #[(.int p1), (.int p2), (.int p3), (.int p4), (.int p5)] below meth cde Tl locl (0 + 2 + 1) (0 + (48 + 4) + 19)) (Nl : Fr n0 locl) (hl : Heap) (el : Tl.heap = hl) (hkl : h2_.size ≤ hl.size) (Cl : CHr Z own_EL s.vm h0 T1_.vm hl) (Ol : Old Z n0 hl) (Vl : Arv Z hl b2_ k2_ .char nn (xs.map Value.int) (.int 0)) (hxl : xs.length = n) (hxs : own_chs xs), own_FinH p e s below Z own_EL (own_Q_law Z p1 p2 p3 p4 p5 cz fm va kv bt ct sb tb ktb sc tc ktc em h0 n0) room_1.cells room_1.slots Tl (mkF m 516 #[.val (.int p1), .val (.int p2), .val (.int p3), .val (.int p4), .val (.int p5), .val (.ref a1_), .val (.int nn), .val (.int po), .val (.int cc), .val (.int fl), .val (.ref b2_), .unset, .unset, .unset] []) := by
      intro xs Tl locl Xl Nl hl el hkl Cl Ol Vl hxl hxs
      have Zl : n0 ≤ hl.size := Nat.le_trans Z0 Cl.2.1
      rcases Nat.eq_zero_or_pos n with hz | hp
      · have exs_ : xs = [] := List.eq_nil_of_length_eq_zero (hxl.trans hz)
        have Vz : Arv Z hl b2_ k2_ .char (0 : Int32) [] (.int 0) := by
          have v := Vl
          rw [exs_, hN, hz] at v
          exact v
        obtain ⟨T6_, h6_, X6_, e6_, E6_, A6_, D6_, -, st6_⟩ := newO Xl hx hZ1_ hown1_ (own_w hw 50 rfl) (own_w hw 2 rfl) (own_w hw 1 rfl) el (g := (mkF m 516 #[.val (.int p1), .val (.int p2), .val (.int p3), .val (.int p4), .val (.int p5), .val (.ref a1_), .val (.int nn), .val (.int po), .val (.int cc), .val (.int fl), .val (.ref b2_), .unset, .unset, .unset] [])) rfl (hb hby at_516) (by decide) (by decide)
        obtain ⟨b6_, g6_⟩ : ∃ z, z = hl.size := ⟨_, rfl⟩
        rw [← g6_] at A6_ D6_ st6_
        have F7_ : Fld Z h6_ b6_ "java/lang/String" "value" "[B" .null := D6_ (Or.inr (own_w hw 4 rfl)) (ty := (.array .byte)) (by decide)
        have F8_ : Fld Z h6_ b6_ "java/lang/String" "coder" "B" (.int (0 : Int32)) := D6_ (Or.inr (own_w hw 5 rfl)) (ty := .byte) (by decide)
        refine own_viaH (fun _ kq => st6_ _ kq) ?_
        show own_FinH _ _ _ _ _ _ _ _ _ T6_ (mkF m 519 #[.val (.int p1), .val (.int p2), .val (.int p3), .val (.int p4), .val (.int p5), .val (.ref a1_), .val (.int nn), .val (.int po), .val (.int cc), .val (.int fl), .val (.ref b2_), .unset, .unset, .unset] [(.ref b6_)])
        refine own_viaH (fun _ kq => XS.dup X6_.here hx rfl (hb hby at_519) rfl rfl kq) ?_
        refine own_viaH (fun _ kq => XS.aload X6_.here hx rfl (hb hby at_520) rfl rfl kq) ?_
        show own_FinH _ _ _ _ _ _ _ _ _ T6_ (mkF m 522 #[.val (.int p1), .val (.int p2), .val (.int p3), .val (.int p4), .val (.int p5), .val (.ref a1_), .val (.int nn), .val (.int po), .val (.int cc), .val (.int fl), .val (.ref b2_), .unset, .unset, .unset] [(.ref b2_), (.ref b6_), (.ref b6_)])
        have g10_ : n0 ≤ b6_ := Nat.le_trans Zl (Nat.le_of_eq g6_.symm)
        have C11_ := Cl.trans (CHr.ext E6_ Cl.1)
        have H11_ := C11_.1
        obtain ⟨_, _, ⟨T9_, L9_, k9_, n9_⟩, -, Y9_, hSq9_, hgq9_, ⟨Lc9_, hQ9_, l9_, y9_, z9_, Cq9_⟩, st9_⟩ := X6_.specialBackS hx (y := (⟨"java/lang/String", "<init>", "([C)V"⟩ : MethodName)) rfl hown1_ (mvT hZ1_ (own_w hw 51 rfl)) (mvT hZ1_ (own_w hw 52 rfl)) (mvT hZ1_ (own_w hw 53 rfl)) (by decide) (backOfSH (s := s) (vm0 := T1_.vm) (W := 1) (own_rm_sInit1 l Z a0 hw [] b6_ b2_ k2_ (.int (0 : Int32)) h6_ n0 (Nat.le_trans Zl E6_.1) A6_ F7_ F8_ (Vz.ext E6_) g10_) hZ1_ (own_w hw 53 rfl) (own_w hw 1 rfl) (by decide) (by decide) (own_ew hw) H11_) (g := (mkF m 522 #[.val (.int p1), .val (.int p2), .val (.int p3), .val (.int p4), .val (.int p5), .val (.ref a1_), .val (.int nn), .val (.int po), .val (.int cc), .val (.int fl), .val (.ref b2_), .unset, .unset, .unset] [(.ref b2_), (.ref b6_), (.ref b6_)])) rfl (by rw [hml]; rfl) (Steps.refl _) (a := b6_) (argsL := [(.ref b2_)]) (rest := [(.ref b6_)]) (lenOf own_pd21 rfl) rfl (by show 2 * 0 + _ ≤ _; exact Nat.le_of_eq rfl) (hb hby at_522) (fun _ _ => ⟨rfl, e6_, (by decide : (0 + 2 + 1) + 1 + 4 ≤ _), (by decide : (0 + (48 + 4) + 19) + 4 + 8 ≤ _)⟩)
        dsimp only [Pt.U, Pt.locs, Pt.cells, Pt.slots] at Y9_ l9_ y9_ z9_ st9_ hQ9_ hSq9_ hgq9_ Cq9_
        subst l9_ y9_ z9_
        obtain ⟨X9_, hS9_, hZ9_, hown9_⟩ := rebS hS1_ (by rw [e6_]; exact (Nat.le_trans (Nat.le_trans (Nat.le_trans hk1_ E2_.1) hkl) E6_.1)) Y9_ hSq9_ hgq9_ hZ1_ hown1_
        obtain ⟨ti, kti, rfl, Nq9_, K9_, r12_, r13_, r14_, r15_⟩ := hQ9_
        have N9_ := Fr.app Nl Nq9_
        refine own_viaH (fun _ kq => st9_.trans kq) ?_
        show own_FinH _ _ _ _ _ _ _ _ _ T9_ (mkF m 525 #[.val (.int p1), .val (.int p2), .val (.int p3), .val (.int p4), .val (.int p5), .val (.ref a1_), .val (.int nn), .val (.int po), .val (.int cc), .val (.int fl), .val (.ref b2_), .unset, .unset, .unset] [(.ref b6_)])
        refine own_viaH (fun _ kq => XS.astore X9_.here hx rfl (hb hby at_525) rfl rfl (l' := #[.val (.int p1), .val (.int p2), .val (.int p3), .val (.int p4), .val (.int p5), .val (.ref a1_), .val (.int nn), .val (.int po), .val (.int cc), .val (.int fl), .val (.ref b2_), .val (.ref b6_), .unset, .unset]) rfl kq) ?_
        refine own_viaH (fun _ kq => XS.aconstNull X9_.here hx rfl (hb hby at_527) kq) ?_
        refine own_viaH (fun _ kq => XS.astore X9_.here hx rfl (hb hby at_528) rfl rfl (l' := #[.val (.int p1), .val (.int p2), .val (.int p3), .val (.int p4), .val (.int p5), .val (.ref a1_), .val (.int nn), .val (.int po), .val (.int cc), .val (.int fl), .val (.ref b2_), .val (.ref b6_), .val .null, .unset]) rfl kq) ?_
        refine own_viaH (fun _ kq => XS.aload X9_.here hx rfl (hb hby at_530) rfl rfl kq) ?_
        show own_FinH _ _ _ _ _ _ _ _ _ T9_ (mkF m 532 #[.val (.int p1), .val (.int p2), .val (.int p3), .val (.int p4), .val (.int p5), .val (.ref a1_), .val (.int nn), .val (.int po), .val (.int cc), .val (.int fl), .val (.ref b2_), .val (.ref b6_), .val .null, .unset] [(.ref b6_)])
        have C17_ := C11_.trans Cq9_
        have H17_ := C17_.1
        obtain ⟨a16_, T16_, h16_, k16_, b16_, kb16_, X16_, e16_, E16_, hS16_, hk16_, hZ16_, hown16_, rE16_, rC16_, rV16_, rA16_, -, -, Cq16_, -, Sx16_, st16_⟩ := ldcCH X9_ hx hZ9_ hown9_ (own_w hw 0 rfl) (own_atoms hw) rfl hS9_ (Nat.le_refl _) (own_ew hw) (List.mem_of_getElem? (i := 0) rfl) H17_ (vs := [(.int (98 : Int32)), (.int (97 : Int32)), (.int (116 : Int32)), (.int (99 : Int32)), (.int (104 : Int32)), (.int (46 : Int32)), (.int (115 : Int32)), (.int (105 : Int32)), (.int (103 : Int32)), (.int (110 : Int32)), (.int (101 : Int32)), (.int (100 : Int32))]) (z := (12 : Int32)) ⟨by decide, by decide⟩ (by decide) (by decide) (g := (mkF m 532 #[.val (.int p1), .val (.int p2), .val (.int p3), .val (.int p4), .val (.int p5), .val (.ref a1_), .val (.int nn), .val (.int po), .val (.int cc), .val (.int fl), .val (.ref b2_), .val (.ref b6_), .val .null, .unset] [(.ref b6_)])) rfl (hb hby at_532) (n := 48) (by decide) (by decide) (by decide) (by decide)
        refine own_viaH (fun _ kq => st16_ _ kq) ?_
        show own_FinH _ _ _ _ _ _ _ _ _ T16_ (mkF m 534 #[.val (.int p1), .val (.int p2), .val (.int p3), .val (.int p4), .val (.int p5), .val (.ref a1_), .val (.int nn), .val (.int po), .val (.int cc), .val (.int fl), .val (.ref b2_), .val (.ref b6_), .val .null, .unset] [(.ref a16_), (.ref b6_)])
        have sf19_ : Safe Z own_EL T1_.vm hl b6_ := Safe.new (Nat.le_of_eq g6_.symm)
        have sf20_ : Safe Z own_EL T1_.vm h6_ b6_ := Safe.ext E6_ Cl.1 sf19_
        have sf21_ : Safe Z own_EL T9_.vm T9_.heap b6_ := Cq9_.safe (A6_).lt sf20_
        have sf22_ : Safe Z own_EL T16_.vm h16_ b6_ := Cq16_.safe (r12_).lt sf21_
        have q18_ : b6_ ≠ a16_ := (Sx16_ _ sf22_).1
        obtain ⟨cq23_, kq23_, q23_a, q23_b, q23_c⟩ := isOf hZ16_ e16_ (r12_.ext E16_)
        obtain ⟨_, _, ⟨T23_, L23_, k23_, n23_⟩, -, X23_, ⟨Lc23_, hQ23_, l23_, y23_, z23_⟩, st23_⟩ := X16_.virtualBack hx (y := (⟨"java/lang/String", "equals", "(Ljava/lang/Object;)Z"⟩ : MethodName)) (z := (⟨"java/lang/String", "equals", "(Ljava/lang/Object;)Z"⟩ : MethodName)) hown16_ (mvT hZ16_ (own_w hw 71 rfl)) (mvT hZ16_ (own_w hw 72 rfl)) (notFace_of_selects (args := #[]) (mvT hZ16_ (own_w hw 74 rfl))) (mvT hZ16_ (own_w hw 74 rfl)) (mvT hZ16_ (own_w hw 73 rfl)) (by decide) (backOf (W := 0) (own_rm_eqS l Z a0 hw [] b6_ cz ti kti (0 : Int32) (0 : Int32) [] ([] : List Int32) a16_ b16_ kb16_ (0 : Int32) (12 : Int32) [(.int (98 : Int32)), (.int (97 : Int32)), (.int (116 : Int32)), (.int (99 : Int32)), (.int (104 : Int32)), (.int (46 : Int32)), (.int (115 : Int32)), (.int (105 : Int32)), (.int (103 : Int32)), (.int (110 : Int32)), (.int (101 : Int32)), (.int (100 : Int32))] own_t1 h16_ n0 (Nat.le_trans Zl (Nat.le_trans (Nat.le_trans E6_.1 K9_.1) E16_.1)) (((Ol.ext E6_).keep K9_ (allS g10_ all0)).ext E16_) S1 P5 (r12_.ext E16_) (r13_.ext E16_) (r14_.ext E16_) (r15_.ext E16_) own_cod_nil (by simp) own_chs_nil rE16_ rC16_ rV16_ rA16_ own_lit1 (by decide) own_litr1 q18_) hZ16_ (own_w hw 75 rfl) (own_w hw 1 rfl) (by decide) (by decide)) q23_a q23_c (g := (mkF m 534 #[.val (.int p1), .val (.int p2), .val (.int p3), .val (.int p4), .val (.int p5), .val (.ref a1_), .val (.int nn), .val (.int po), .val (.int cc), .val (.int fl), .val (.ref b2_), .val (.ref b6_), .val .null, .unset] [(.ref a16_), (.ref b6_)])) rfl (by rw [hml]; rfl) (Steps.refl _) (argsL := [(.ref a16_)]) (rest := []) (lenOf own_pd18 rfl) rfl (by show 2 * 0 + _ ≤ _; exact Nat.le_of_eq rfl) (hb hby at_534) (fun _ _ => ⟨rfl, e16_, (by decide : (0 + 2 + 1) + 1 + 4 + 2 + 0 ≤ _), (by decide : (0 + (48 + 4) + 19) + 4 + 8 + (48 + 4) + 0 ≤ _)⟩)
        dsimp only [Pt.U, Pt.locs, Pt.cells, Pt.slots] at X23_ l23_ y23_ z23_ st23_ hQ23_
        subst l23_ y23_ z23_
        obtain ⟨re1, rfl, Nq23_, hh23_, hre1⟩ := hQ23_
        have N23_ := Fr.app N9_ Nq23_
        refine own_viaH (fun _ kq => st23_.trans kq) ?_
        show own_FinH _ _ _ _ _ _ _ _ _ T23_ (mkF m 537 #[.val (.int p1), .val (.int p2), .val (.int p3), .val (.int p4), .val (.int p5), .val (.ref a1_), .val (.int nn), .val (.int po), .val (.int cc), .val (.int fl), .val (.ref b2_), .val (.ref b6_), .val .null, .unset] [(.int re1)])
        rcases Classical.em (re1 = (0 : Int32)) with hs1 | hs1
        · refine own_viaH (fun _ kq => XS.ifYes X23_.here hx rfl (pc0 := 537) (pc' := 548) rfl (hb hby at_537) rfl ((if0 _ _).trans (teq hs1).1) (by decide) (by decide) kq) ?_
          show own_FinH _ _ _ _ _ _ _ _ _ T23_ (mkF m 548 #[.val (.int p1), .val (.int p2), .val (.int p3), .val (.int p4), .val (.int p5), .val (.ref a1_), .val (.int nn), .val (.int po), .val (.int cc), .val (.int fl), .val (.ref b2_), .val (.ref b6_), .val .null, .unset] [])
          refine own_viaH (fun _ kq => XS.aload X23_.here hx rfl (hb hby at_548) rfl rfl kq) ?_
          show own_FinH _ _ _ _ _ _ _ _ _ T23_ (mkF m 550 #[.val (.int p1), .val (.int p2), .val (.int p3), .val (.int p4), .val (.int p5), .val (.ref a1_), .val (.int nn), .val (.int po), .val (.int cc), .val (.int fl), .val (.ref b2_), .val (.ref b6_), .val .null, .unset] [(.ref b6_)])
          have C35_ := C17_.trans Cq16_
          have H35_ := C35_.1
          obtain ⟨a34_, T34_, h34_, k34_, b34_, kb34_, X34_, e34_, E34_, hS34_, hk34_, hZ34_, hown34_, rE34_, rC34_, rV34_, rA34_, -, -, Cq34_, -, Sx34_, st34_⟩ := ldcCH X23_ hx hZ16_ hown16_ (own_w hw 80 rfl) (own_atoms hw) hh23_ hS16_ hk16_ (own_ew hw) (List.mem_of_getElem? (i := 1) rfl) H35_ (vs := [(.int (99 : Int32)), (.int (114 : Int32)), (.int (101 : Int32)), (.int (100 : Int32)), (.int (101 : Int32)), (.int (110 : Int32)), (.int (116 : Int32)), (.int (105 : Int32)), (.int (97 : Int32)), (.int (108 : Int32)), (.int (46 : Int32)), (.int (114 : Int32)), (.int (101 : Int32)), (.int (118 : Int32)), (.int (111 : Int32)), (.int (107 : Int32)), (.int (101 : Int32)), (.int (100 : Int32))]) (z := (18 : Int32)) ⟨by decide, by decide⟩ (by decide) (by decide) (g := (mkF m 550 #[.val (.int p1), .val (.int p2), .val (.int p3), .val (.int p4), .val (.int p5), .val (.ref a1_), .val (.int nn), .val (.int po), .val (.int cc), .val (.int fl), .val (.ref b2_), .val (.ref b6_), .val .null, .unset] [(.ref b6_)])) rfl (hb hby at_550) (n := 72) (by decide) (by decide) (by decide) (by decide)
          refine own_viaH (fun _ kq => st34_ _ kq) ?_
          show own_FinH _ _ _ _ _ _ _ _ _ T34_ (mkF m 552 #[.val (.int p1), .val (.int p2), .val (.int p3), .val (.int p4), .val (.int p5), .val (.ref a1_), .val (.int nn), .val (.int po), .val (.int cc), .val (.int fl), .val (.ref b2_), .val (.ref b6_), .val .null, .unset] [(.ref a34_), (.ref b6_)])
          have sf37_ : Safe Z own_EL T1_.vm h6_ b6_ := Safe.ext E6_ Cl.1 sf19_
          have sf38_ : Safe Z own_EL T9_.vm T9_.heap b6_ := Cq9_.safe (A6_).lt sf37_
          have sf39_ : Safe Z own_EL T16_.vm h16_ b6_ := Cq16_.safe (r12_).lt sf38_
          have sf40_ : Safe Z own_EL T34_.vm h34_ b6_ := Cq34_.safe ((r12_.ext E16_)).lt sf39_
          have q36_ : b6_ ≠ a34_ := (Sx34_ _ sf40_).1
          have f42_ := ((((Ol.ext E6_).keep K9_ (allS g10_ all0)).ext E16_).ext E34_)
          obtain ⟨cq41_, kq41_, q41_a, q41_b, q41_c⟩ := isOf hZ34_ e34_ ((r12_.ext E16_).ext E34_)
          obtain ⟨_, _, ⟨T41_, L41_, k41_, n41_⟩, -, X41_, ⟨Lc41_, hQ41_, l41_, y41_, z41_⟩, st41_⟩ := X34_.virtualBack hx (y := (⟨"java/lang/String", "equals", "(Ljava/lang/Object;)Z"⟩ : MethodName)) (z := (⟨"java/lang/String", "equals", "(Ljava/lang/Object;)Z"⟩ : MethodName)) hown34_ (mvT hZ34_ (own_w hw 71 rfl)) (mvT hZ34_ (own_w hw 72 rfl)) (notFace_of_selects (args := #[]) (mvT hZ34_ (own_w hw 74 rfl))) (mvT hZ34_ (own_w hw 74 rfl)) (mvT hZ34_ (own_w hw 73 rfl)) (by decide) (backOf (W := 0) (own_rm_eqS l Z a0 hw [] b6_ cz ti kti (0 : Int32) (0 : Int32) [] ([] : List Int32) a34_ b34_ kb34_ (0 : Int32) (18 : Int32) [(.int (99 : Int32)), (.int (114 : Int32)), (.int (101 : Int32)), (.int (100 : Int32)), (.int (101 : Int32)), (.int (110 : Int32)), (.int (116 : Int32)), (.int (105 : Int32)), (.int (97 : Int32)), (.int (108 : Int32)), (.int (46 : Int32)), (.int (114 : Int32)), (.int (101 : Int32)), (.int (118 : Int32)), (.int (111 : Int32)), (.int (107 : Int32)), (.int (101 : Int32)), (.int (100 : Int32))] own_t2 h34_ n0 (Nat.le_trans Zl (Nat.le_trans (Nat.le_trans (Nat.le_trans E6_.1 K9_.1) E16_.1) E34_.1)) f42_ S1 P5 ((r12_.ext E16_).ext E34_) ((r13_.ext E16_).ext E34_) ((r14_.ext E16_).ext E34_) ((r15_.ext E16_).ext E34_) own_cod_nil (by simp) own_chs_nil rE34_ rC34_ rV34_ rA34_ own_lit2 (by decide) own_litr2 q36_) hZ34_ (own_w hw 75 rfl) (own_w hw 1 rfl) (by decide) (by decide)) q41_a q41_c (g := (mkF m 552 #[.val (.int p1), .val (.int p2), .val (.int p3), .val (.int p4), .val (.int p5), .val (.ref a1_), .val (.int nn), .val (.int po), .val (.int cc), .val (.int fl), .val (.ref b2_), .val (.ref b6_), .val .null, .unset] [(.ref a34_), (.ref b6_)])) rfl (by rw [hml]; rfl) (Steps.refl _) (argsL := [(.ref a34_)]) (rest := []) (lenOf own_pd18 rfl) rfl (by show 2 * 0 + _ ≤ _; exact Nat.le_of_eq rfl) (hb hby at_552) (fun _ _ => ⟨rfl, e34_, (by decide : (0 + 2 + 1) + 1 + 4 + 2 + 0 + 2 + 0 ≤ _), (by decide : (0 + (48 + 4) + 19) + 4 + 8 + (48 + 4) + 0 + (72 + 4) + 0 ≤ _)⟩)
          dsimp only [Pt.U, Pt.locs, Pt.cells, Pt.slots] at X41_ l41_ y41_ z41_ st41_ hQ41_
          subst l41_ y41_ z41_
          obtain ⟨re2, rfl, Nq41_, hh41_, hre2⟩ := hQ41_
          have N41_ := Fr.app N23_ Nq41_
          refine own_viaH (fun _ kq => st41_.trans kq) ?_
          show own_FinH _ _ _ _ _ _ _ _ _ T41_ (mkF m 555 #[.val (.int p1), .val (.int p2), .val (.int p3), .val (.int p4), .val (.int p5), .val (.ref a1_), .val (.int nn), .val (.int po), .val (.int cc), .val (.int fl), .val (.ref b2_), .val (.ref b6_), .val .null, .unset] [(.int re2)])
          rcases Classical.em (re2 = (0 : Int32)) with hs2 | hs2
          · refine own_viaH (fun _ kq => XS.ifYes X41_.here hx rfl (pc0 := 555) (pc' := 563) rfl (hb hby at_555) rfl ((if0 _ _).trans (teq hs2).1) (by decide) (by decide) kq) ?_
            show own_FinH _ _ _ _ _ _ _ _ _ T41_ (mkF m 563 #[.val (.int p1), .val (.int p2), .val (.int p3), .val (.int p4), .val (.int p5), .val (.ref a1_), .val (.int nn), .val (.int po), .val (.int cc), .val (.int fl), .val (.ref b2_), .val (.ref b6_), .val .null, .unset] [])
            refine own_viaH (fun _ kq => XS.aload X41_.here hx rfl (hb hby at_563) rfl rfl kq) ?_
            show own_FinH _ _ _ _ _ _ _ _ _ T41_ (mkF m 565 #[.val (.int p1), .val (.int p2), .val (.int p3), .val (.int p4), .val (.int p5), .val (.ref a1_), .val (.int nn), .val (.int po), .val (.int cc), .val (.int fl), .val (.ref b2_), .val (.ref b6_), .val .null, .unset] [(.ref b6_)])
            have q53_ : sb ≠ b6_ := Nat.ne_of_lt (Nat.lt_of_lt_of_le (Esb.ext Ol.2).lt (Nat.le_of_eq g6_.symm))
            have q54_ : sc ≠ b6_ := Nat.ne_of_lt (Nat.lt_of_lt_of_le (Esc.ext Ol.2).lt (Nat.le_of_eq g6_.symm))
            obtain ⟨_, _, ⟨T55_, L55_, k55_, n55_⟩, -, X55_, ⟨Lc55_, hQ55_, l55_, y55_, z55_⟩, st55_⟩ := Jvm.LawKit.callS X41_ hx (y := (⟨"com/example/lichen/lichen/webhook/EventType", "of", "(Ljava/lang/String;)Ljava/util/Optional;"⟩ : MethodName)) hown34_ (mvT hZ34_ (own_w hw 81 rfl)) (mvT hZ34_ (own_w hw 82 rfl)) (mvT hZ34_ (own_w hw 83 rfl)) (mvT hZ34_ (own_w hw 84 rfl)) (by decide) (backOf (W := 0) (own_rm_ofN l Z a0 hw [] b6_ cz ti kti (0 : Int32) (0 : Int32) [] ([] : List Int32) va kv bt ct sb tb ktb sc tc ktc em h34_ n0 (Nat.le_trans Zl (Nat.le_trans (Nat.le_trans (Nat.le_trans E6_.1 K9_.1) E16_.1) E34_.1)) f42_ S1 P5 Sv Se ((r12_.ext E16_).ext E34_) ((r13_.ext E16_).ext E34_) ((r14_.ext E16_).ext E34_) ((r15_.ext E16_).ext E34_) own_cod_nil (by simp) own_chs_nil Eva Vva Ebt Fbt Esb Fcsb Fvsb Vtb Ect Fct Esc Fcsc Fvsc Vtc Eem Fem q53_ q54_ (hre1.resolve_left fun q => absurd (q.1.symm.trans hs1) (by decide)).2 (hre2.resolve_left fun q => absurd (q.1.symm.trans hs2) (by decide)).2) hZ34_ (own_w hw 84 rfl) (own_w hw 83 rfl) (by decide) (by decide)) (g := (mkF m 565 #[.val (.int p1), .val (.int p2), .val (.int p3), .val (.int p4), .val (.int p5), .val (.ref a1_), .val (.int nn), .val (.int po), .val (.int cc), .val (.int fl), .val (.ref b2_), .val (.ref b6_), .val .null, .unset] [(.ref b6_)])) rfl (by rw [hml]; rfl) (argsL := [(.ref b6_)]) (rest := []) (lenOf own_pd22 rfl) rfl (by show 2 * 0 + _ ≤ _; exact Nat.le_of_eq rfl) (hb hby at_565) (fun _ _ => ⟨rfl, hh41_, (by decide : (0 + 2 + 1) + 1 + 4 + 2 + 0 + 2 + 0 + 1 ≤ _), (by decide : (0 + (48 + 4) + 19) + 4 + 8 + (48 + 4) + 0 + (72 + 4) + 0 + 2 ≤ _)⟩)
            dsimp only [Pt.U, Pt.locs, Pt.cells, Pt.slots] at X55_ l55_ y55_ z55_ st55_ hQ55_
            subst l55_ y55_ z55_
            obtain ⟨oo, rfl, Nq55_, K55_, r56_, r57_⟩ := hQ55_
            have N55_ := Fr.app N41_ Nq55_
            refine own_viaH (fun _ kq => st55_ _ kq) ?_
            show own_FinH _ _ _ _ _ _ _ _ _ T55_ (mkF m 568 #[.val (.int p1), .val (.int p2), .val (.int p3), .val (.int p4), .val (.int p5), .val (.ref a1_), .val (.int nn), .val (.int po), .val (.int cc), .val (.int fl), .val (.ref b2_), .val (.ref b6_), .val .null, .unset] [(.ref oo)])
            refine own_viaH (fun _ kq => XS.astore X55_.here hx rfl (hb hby at_568) rfl rfl (l' := #[.val (.int p1), .val (.int p2), .val (.int p3), .val (.int p4), .val (.int p5), .val (.ref a1_), .val (.int nn), .val (.int po), .val (.int cc), .val (.int fl), .val (.ref b2_), .val (.ref b6_), .val .null, .val (.ref oo)]) rfl kq) ?_
            refine own_viaH (fun _ kq => XS.aload X55_.here hx rfl (hb hby at_570) rfl rfl kq) ?_
            refine own_viaH (fun _ kq => XS.ifnonnullNo X55_.here hx rfl (hb hby at_572) rfl kq) ?_
            show own_FinH _ _ _ _ _ _ _ _ _ T55_ (mkF m 575 #[.val (.int p1), .val (.int p2), .val (.int p3), .val (.int p4), .val (.int p5), .val (.ref a1_), .val (.int nn), .val (.int po), .val (.int cc), .val (.int fl), .val (.ref b2_), .val (.ref b6_), .val .null, .val (.ref oo)] [])
            refine own_viaH (fun _ kq => XS.aload X55_.here hx rfl (hb hby at_575) rfl rfl kq) ?_
            show own_FinH _ _ _ _ _ _ _ _ _ T55_ (mkF m 577 #[.val (.int p1), .val (.int p2), .val (.int p3), .val (.int p4), .val (.int p5), .val (.ref a1_), .val (.int nn), .val (.int po), .val (.int cc), .val (.int fl), .val (.ref b2_), .val (.ref b6_), .val .null, .val (.ref oo)] [(.ref oo)])
            obtain ⟨cq58_, kq58_, q58_a, q58_b, q58_c⟩ := isOf hZ34_ rfl r56_
            obtain ⟨_, _, ⟨T58_, L58_, k58_, n58_⟩, -, X58_, ⟨Lc58_, hQ58_, l58_, y58_, z58_⟩, st58_⟩ := X55_.virtualBack hx (y := (⟨"java/util/Optional", "isPresent", "()Z"⟩ : MethodName)) (z := (⟨"java/util/Optional", "isPresent", "()Z"⟩ : MethodName)) hown34_ (mvT hZ34_ (own_w hw 110 rfl)) (mvT hZ34_ (own_w hw 111 rfl)) (notFace_of_selects (args := #[]) (mvT hZ34_ (own_w hw 113 rfl))) (mvT hZ34_ (own_w hw 113 rfl)) (mvT hZ34_ (own_w hw 112 rfl)) (by decide) (backOf (W := 0) (own_rm_isP0 l Z a0 hw [] oo T55_.heap n0 (Nat.le_trans Zl (Nat.le_trans (Nat.le_trans (Nat.le_trans (Nat.le_trans E6_.1 K9_.1) E16_.1) E34_.1) K55_.1)) r57_) hZ34_ (own_w hw 114 rfl) (own_w hw 107 rfl) (by decide) (by decide)) q58_a q58_c (g := (mkF m 577 #[.val (.int p1), .val (.int p2), .val (.int p3), .val (.int p4), .val (.int p5), .val (.ref a1_), .val (.int nn), .val (.int po), .val (.int cc), .val (.int fl), .val (.ref b2_), .val (.ref b6_), .val .null, .val (.ref oo)] [(.ref oo)])) rfl (by rw [hml]; rfl) (Steps.refl _) (argsL := []) (rest := []) (lenOf own_pd11 rfl) rfl (by show 2 * 0 + _ ≤ _; exact Nat.le_of_eq rfl) (hb hby at_577) (fun _ _ => ⟨rfl, rfl, (by decide : (0 + 2 + 1) + 1 + 4 + 2 + 0 + 2 + 0 + 1 + 0 ≤ _), (by decide : (0 + (48 + 4) + 19) + 4 + 8 + (48 + 4) + 0 + (72 + 4) + 0 + 2 + 0 ≤ _)⟩)
            dsimp only [Pt.U, Pt.locs, Pt.cells, Pt.slots] at X58_ l58_ y58_ z58_ st58_ hQ58_
            subst l58_ y58_ z58_
            obtain ⟨rfl, Nq58_, hh58_⟩ := hQ58_
            have N58_ := Fr.app N55_ Nq58_
            refine own_viaH (fun _ kq => st58_.trans kq) ?_
            show own_FinH _ _ _ _ _ _ _ _ _ T58_ (mkF m 580 #[.val (.int p1), .val (.int p2), .val (.int p3), .val (.int p4), .val (.int p5), .val (.ref a1_), .val (.int nn), .val (.int po), .val (.int cc), .val (.int fl), .val (.ref b2_), .val (.ref b6_), .val .null, .val (.ref oo)] [(.int (0 : Int32))])
            refine own_viaH (fun _ kq => XS.ifNo X58_.here hx rfl (hb hby at_580) rfl ((if0 _ _).trans (teq rfl).2) kq) ?_
            show own_FinH _ _ _ _ _ _ _ _ _ T58_ (mkF m 583 #[.val (.int p1), .val (.int p2), .val (.int p3), .val (.int p4), .val (.int p5), .val (.ref a1_), .val (.int nn), .val (.int po), .val (.int cc), .val (.int fl), .val (.ref b2_), .val (.ref b6_), .val .null, .val (.ref oo)] [])
            refine own_viaH (fun _ kq => XS.iconst X58_.here hx rfl (hb hby at_583) kq) ?_
            refine own_viaH (fun _ kq => XS.goto X58_.here hx rfl (pc0 := 584) (pc' := 588) rfl (hb hby at_584) (by decide) (by decide) kq) ?_
            show own_FinH _ _ _ _ _ _ _ _ _ T58_ (mkF m 588 #[.val (.int p1), .val (.int p2), .val (.int p3), .val (.int p4), .val (.int p5), .val (.ref a1_), .val (.int nn), .val (.int po), .val (.int cc), .val (.int fl), .val (.ref b2_), .val (.ref b6_), .val .null, .val (.ref oo)] [(.int (1 : Int32))])
            have C59_ := C35_.trans Cq34_
            have H59_ := C59_.1
            have C60_ := C59_.trans (CHr.keep K55_ sf0 H59_)
            have H60_ := C60_.1
            exact own_retNH X58_ hx (t := .boolean) Bd.returns Bd.notSynchronized (own_ew hw) hZ34_ hS34_ (Nat.le_trans hk34_ K55_.1) hh C60_ (by simp) (hb hby at_588) hh58_ rfl ⟨rfl, N58_⟩ (by decide) (by decide)
          · refine own_viaH (fun _ kq => XS.ifNo X41_.here hx rfl (hb hby at_555) rfl ((if0 _ _).trans (feq hs2).1) kq) ?_
            show own_FinH _ _ _ _ _ _ _ _ _ T41_ (mkF m 558 #[.val (.int p1), .val (.int p2), .val (.int p3), .val (.int p4), .val (.int p5), .val (.ref a1_), .val (.int nn), .val (.int po), .val (.int cc), .val (.int fl), .val (.ref b2_), .val (.ref b6_), .val .null, .unset] [])
            obtain ⟨T43_, X43_, e43_, st43_⟩ := getS2 X41_ hx hZ34_ hown34_ (host := "") (Or.inl (own_w hw 157 rfl)) Via.refl hh41_ (Sc.ext f42_.2) (g := (mkF m 558 #[.val (.int p1), .val (.int p2), .val (.int p3), .val (.int p4), .val (.int p5), .val (.ref a1_), .val (.int nn), .val (.int po), .val (.int cc), .val (.int fl), .val (.ref b2_), .val (.ref b6_), .val .null, .unset] [])) rfl (hb hby at_558)
            refine own_viaH (fun _ kq => st43_ _ kq) ?_
            show own_FinH _ _ _ _ _ _ _ _ _ T43_ (mkF m 561 #[.val (.int p1), .val (.int p2), .val (.int p3), .val (.int p4), .val (.int p5), .val (.ref a1_), .val (.int nn), .val (.int po), .val (.int cc), .val (.int fl), .val (.ref b2_), .val (.ref b6_), .val .null, .unset] [(.ref ct)])
            refine own_viaH (fun _ kq => XS.astore X43_.here hx rfl (hb hby at_561) rfl rfl (l' := #[.val (.int p1), .val (.int p2), .val (.int p3), .val (.int p4), .val (.int p5), .val (.ref a1_), .val (.int nn), .val (.int po), .val (.int cc), .val (.int fl), .val (.ref b2_), .val (.ref b6_), .val (.ref ct), .unset]) rfl kq) ?_
            refine own_viaH (fun _ kq => XS.aload X43_.here hx rfl (hb hby at_563) rfl rfl kq) ?_
            show own_FinH _ _ _ _ _ _ _ _ _ T43_ (mkF m 565 #[.val (.int p1), .val (.int p2), .val (.int p3), .val (.int p4), .val (.int p5), .val (.ref a1_), .val (.int nn), .val (.int po), .val (.int cc), .val (.int fl), .val (.ref b2_), .val (.ref b6_), .val (.ref ct), .unset] [(.ref b6_)])
            have q44_ : sb ≠ b6_ := Nat.ne_of_lt (Nat.lt_of_lt_of_le (Esb.ext Ol.2).lt (Nat.le_of_eq g6_.symm))
            have q45_ : sc ≠ b6_ := Nat.ne_of_lt (Nat.lt_of_lt_of_le (Esc.ext Ol.2).lt (Nat.le_of_eq g6_.symm))
            obtain ⟨_, _, ⟨T46_, L46_, k46_, n46_⟩, -, X46_, ⟨Lc46_, hQ46_, l46_, y46_, z46_⟩, st46_⟩ := Jvm.LawKit.callS X43_ hx (y := (⟨"com/example/lichen/lichen/webhook/EventType", "of", "(Ljava/lang/String;)Ljava/util/Optional;"⟩ : MethodName)) hown34_ (mvT hZ34_ (own_w hw 81 rfl)) (mvT hZ34_ (own_w hw 82 rfl)) (mvT hZ34_ (own_w hw 83 rfl)) (mvT hZ34_ (own_w hw 84 rfl)) (by decide) (backOf (W := 0) (own_rm_ofC l Z a0 hw [] b6_ cz ti kti (0 : Int32) (0 : Int32) [] ([] : List Int32) va kv bt ct sb tb ktb sc tc ktc em h34_ n0 (Nat.le_trans Zl (Nat.le_trans (Nat.le_trans (Nat.le_trans E6_.1 K9_.1) E16_.1) E34_.1)) f42_ S1 P5 Sv Se ((r12_.ext E16_).ext E34_) ((r13_.ext E16_).ext E34_) ((r14_.ext E16_).ext E34_) ((r15_.ext E16_).ext E34_) own_cod_nil (by simp) own_chs_nil Eva Vva Ebt Fbt Esb Fcsb Fvsb Vtb Ect Fct Esc Fcsc Fvsc Vtc Eem Fem q44_ q45_ (hre1.resolve_left fun q => absurd (q.1.symm.trans hs1) (by decide)).2 (hre2.resolve_right fun q => hs2 q.1).2) hZ34_ (own_w hw 84 rfl) (own_w hw 83 rfl) (by decide) (by decide)) (g := (mkF m 565 #[.val (.int p1), .val (.int p2), .val (.int p3), .val (.int p4), .val (.int p5), .val (.ref a1_), .val (.int nn), .val (.int po), .val (.int cc), .val (.int fl), .val (.ref b2_), .val (.ref b6_), .val (.ref ct), .unset] [(.ref b6_)])) rfl (by rw [hml]; rfl) (argsL := [(.ref b6_)]) (rest := []) (lenOf own_pd22 rfl) rfl (by show 2 * 0 + _ ≤ _; exact Nat.le_of_eq rfl) (hb hby at_565) (fun _ _ => ⟨rfl, e43_, (by decide : (0 + 2 + 1) + 1 + 4 + 2 + 0 + 2 + 0 + 2 ≤ _), (by decide : (0 + (48 + 4) + 19) + 4 + 8 + (48 + 4) + 0 + (72 + 4) + 0 + 3 ≤ _)⟩)
            dsimp only [Pt.U, Pt.locs, Pt.cells, Pt.slots] at X46_ l46_ y46_ z46_ st46_ hQ46_
            subst l46_ y46_ z46_
            obtain ⟨oo, rfl, Nq46_, K46_, r47_, r48_⟩ := hQ46_
            have N46_ := Fr.app N41_ Nq46_
            refine own_viaH (fun _ kq => st46_ _ kq) ?_
            show own_FinH _ _ _ _ _ _ _ _ _ T46_ (mkF m 568 #[.val (.int p1), .val (.int p2), .val (.int p3), .val (.int p4), .val (.int p5), .val (.ref a1_), .val (.int nn), .val (.int po), .val (.int cc), .val (.int fl), .val (.ref b2_), .val (.ref b6_), .val (.ref ct), .unset] [(.ref oo)])
            refine own_viaH (fun _ kq => XS.astore X46_.here hx rfl (hb hby at_568) rfl rfl (l' := #[.val (.int p1), .val (.int p2), .val (.int p3), .val (.int p4), .val (.int p5), .val (.ref a1_), .val (.int nn), .val (.int po), .val (.int cc), .val (.int fl), .val (.ref b2_), .val (.ref b6_), .val (.ref ct), .val (.ref oo)]) rfl kq) ?_
            refine own_viaH (fun _ kq => XS.aload X46_.here hx rfl (hb hby at_570) rfl rfl kq) ?_
            refine own_viaH (fun _ kq => XS.ifnonnullYes X46_.here hx rfl (pc0 := 572) (pc' := 589) rfl (hb hby at_572) rfl (by decide) (by decide) kq) ?_
            show own_FinH _ _ _ _ _ _ _ _ _ T46_ (mkF m 589 #[.val (.int p1), .val (.int p2), .val (.int p3), .val (.int p4), .val (.int p5), .val (.ref a1_), .val (.int nn), .val (.int po), .val (.int cc), .val (.int fl), .val (.ref b2_), .val (.ref b6_), .val (.ref ct), .val (.ref oo)] [])
            refine own_viaH (fun _ kq => XS.aload X46_.here hx rfl (hb hby at_589) rfl rfl kq) ?_
            show own_FinH _ _ _ _ _ _ _ _ _ T46_ (mkF m 591 #[.val (.int p1), .val (.int p2), .val (.int p3), .val (.int p4), .val (.int p5), .val (.ref a1_), .val (.int nn), .val (.int po), .val (.int cc), .val (.int fl), .val (.ref b2_), .val (.ref b6_), .val (.ref ct), .val (.ref oo)] [(.ref oo)])
            obtain ⟨cq49_, kq49_, q49_a, q49_b, q49_c⟩ := isOf hZ34_ rfl r47_
            obtain ⟨_, _, ⟨T49_, L49_, k49_, n49_⟩, -, X49_, ⟨Lc49_, hQ49_, l49_, y49_, z49_⟩, st49_⟩ := X46_.virtualBack hx (y := (⟨"java/util/Optional", "isPresent", "()Z"⟩ : MethodName)) (z := (⟨"java/util/Optional", "isPresent", "()Z"⟩ : MethodName)) hown34_ (mvT hZ34_ (own_w hw 110 rfl)) (mvT hZ34_ (own_w hw 111 rfl)) (notFace_of_selects (args := #[]) (mvT hZ34_ (own_w hw 113 rfl))) (mvT hZ34_ (own_w hw 113 rfl)) (mvT hZ34_ (own_w hw 112 rfl)) (by decide) (backOf (W := 0) (own_rm_isP1 l Z a0 hw [] oo ct T46_.heap n0 (Nat.le_trans Zl (Nat.le_trans (Nat.le_trans (Nat.le_trans (Nat.le_trans E6_.1 K9_.1) E16_.1) E34_.1) K46_.1)) r48_) hZ34_ (own_w hw 114 rfl) (own_w hw 107 rfl) (by decide) (by decide)) q49_a q49_c (g := (mkF m 591 #[.val (.int p1), .val (.int p2), .val (.int p3), .val (.int p4), .val (.int p5), .val (.ref a1_), .val (.int nn), .val (.int po), .val (.int cc), .val (.int fl), .val (.ref b2_), .val (.ref b6_), .val (.ref ct), .val (.ref oo)] [(.ref oo)])) rfl (by rw [hml]; rfl) (Steps.refl _) (argsL := []) (rest := []) (lenOf own_pd11 rfl) rfl (by show 2 * 0 + _ ≤ _; exact Nat.le_of_eq rfl) (hb hby at_591) (fun _ _ => ⟨rfl, rfl, (by decide : (0 + 2 + 1) + 1 + 4 + 2 + 0 + 2 + 0 + 2 + 0 ≤ _), (by decide : (0 + (48 + 4) + 19) + 4 + 8 + (48 + 4) + 0 + (72 + 4) + 0 + 3 + 0 ≤ _)⟩)
            dsimp only [Pt.U, Pt.locs, Pt.cells, Pt.slots] at X49_ l49_ y49_ z49_ st49_ hQ49_
            subst l49_ y49_ z49_
            obtain ⟨rfl, Nq49_, hh49_⟩ := hQ49_
            have N49_ := Fr.app N46_ Nq49_
            refine own_viaH (fun _ kq => st49_.trans kq) ?_
            show own_FinH _ _ _ _ _ _ _ _ _ T49_ (mkF m 594 #[.val (.int p1), .val (.int p2), .val (.int p3), .val (.int p4), .val (.int p5), .val (.ref a1_), .val (.int nn), .val (.int po), .val (.int cc), .val (.int fl), .val (.ref b2_), .val (.ref b6_), .val (.ref ct), .val (.ref oo)] [(.int (1 : Int32))])
            refine own_viaH (fun _ kq => XS.ifNo X49_.here hx rfl (hb hby at_594) rfl ((if0 _ _).trans (feq (by decide)).1) kq) ?_
            show own_FinH _ _ _ _ _ _ _ _ _ T49_ (mkF m 597 #[.val (.int p1), .val (.int p2), .val (.int p3), .val (.int p4), .val (.int p5), .val (.ref a1_), .val (.int nn), .val (.int po), .val (.int cc), .val (.int fl), .val (.ref b2_), .val (.ref b6_), .val (.ref ct), .val (.ref oo)] [])
            refine own_viaH (fun _ kq => XS.aload X49_.here hx rfl (hb hby at_597) rfl rfl kq) ?_
            show own_FinH _ _ _ _ _ _ _ _ _ T49_ (mkF m 599 #[.val (.int p1), .val (.int p2), .val (.int p3), .val (.int p4), .val (.int p5), .val (.ref a1_), .val (.int nn), .val (.int po), .val (.int cc), .val (.int fl), .val (.ref b2_), .val (.ref b6_), .val (.ref ct), .val (.ref oo)] [(.ref oo)])
            obtain ⟨cq50_, kq50_, q50_a, q50_b, q50_c⟩ := isOf hZ34_ hh49_ r47_
            obtain ⟨_, _, ⟨T50_, L50_, k50_, n50_⟩, -, X50_, ⟨Lc50_, hQ50_, l50_, y50_, z50_⟩, st50_⟩ := X49_.virtualBack hx (y := (⟨"java/util/Optional", "get", "()Ljava/lang/Object;"⟩ : MethodName)) (z := (⟨"java/util/Optional", "get", "()Ljava/lang/Object;"⟩ : MethodName)) hown34_ (mvT hZ34_ (own_w hw 152 rfl)) (mvT hZ34_ (own_w hw 153 rfl)) (notFace_of_selects (args := #[]) (mvT hZ34_ (own_w hw 155 rfl))) (mvT hZ34_ (own_w hw 155 rfl)) (mvT hZ34_ (own_w hw 154 rfl)) (by decide) (backOf (W := 0) (own_rm_optG l Z a0 hw [] oo ct T46_.heap n0 (Nat.le_trans Zl (Nat.le_trans (Nat.le_trans (Nat.le_trans (Nat.le_trans E6_.1 K9_.1) E16_.1) E34_.1) K46_.1)) r48_) hZ34_ (own_w hw 156 rfl) (own_w hw 107 rfl) (by decide) (by decide)) q50_a q50_c (g := (mkF m 599 #[.val (.int p1), .val (.int p2), .val (.int p3), .val (.int p4), .val (.int p5), .val (.ref a1_), .val (.int nn), .val (.int po), .val (.int cc), .val (.int fl), .val (.ref b2_), .val (.ref b6_), .val (.ref ct), .val (.ref oo)] [(.ref oo)])) rfl (by rw [hml]; rfl) (Steps.refl _) (argsL := []) (rest := []) (lenOf own_pd23 rfl) rfl (by show 2 * 0 + _ ≤ _; exact Nat.le_of_eq rfl) (hb hby at_599) (fun _ _ => ⟨rfl, hh49_, (by decide : (0 + 2 + 1) + 1 + 4 + 2 + 0 + 2 + 0 + 2 + 0 + 0 ≤ _), (by decide : (0 + (48 + 4) + 19) + 4 + 8 + (48 + 4) + 0 + (72 + 4) + 0 + 3 + 0 + 0 ≤ _)⟩)
            dsimp only [Pt.U, Pt.locs, Pt.cells, Pt.slots] at X50_ l50_ y50_ z50_ st50_ hQ50_
            subst l50_ y50_ z50_
            obtain ⟨rfl, Nq50_, hh50_⟩ := hQ50_
            have N50_ := Fr.app N49_ Nq50_
            refine own_viaH (fun _ kq => st50_.trans kq) ?_
            show own_FinH _ _ _ _ _ _ _ _ _ T50_ (mkF m 602 #[.val (.int p1), .val (.int p2), .val (.int p3), .val (.int p4), .val (.int p5), .val (.ref a1_), .val (.int nn), .val (.int po), .val (.int cc), .val (.int fl), .val (.ref b2_), .val (.ref b6_), .val (.ref ct), .val (.ref oo)] [(.ref ct)])
            refine own_viaH (fun _ kq => XS.aload X50_.here hx rfl (hb hby at_602) rfl rfl kq) ?_
            show own_FinH _ _ _ _ _ _ _ _ _ T50_ (mkF m 604 #[.val (.int p1), .val (.int p2), .val (.int p3), .val (.int p4), .val (.int p5), .val (.ref a1_), .val (.int nn), .val (.int po), .val (.int cc), .val (.int fl), .val (.ref b2_), .val (.ref b6_), .val (.ref ct), .val (.ref oo)] [(.ref ct), (.ref ct)])
            refine own_viaH (fun _ kq => Jvm.RoadKit.acmp (g := (mkF m 604 #[.val (.int p1), .val (.int p2), .val (.int p3), .val (.int p4), .val (.int p5), .val (.ref a1_), .val (.int nn), .val (.int po), .val (.int cc), .val (.int fl), .val (.ref b2_), .val (.ref b6_), .val (.ref ct), .val (.ref oo)] [(.ref ct), (.ref ct)])) X50_ hx rfl rfl rfl (pc0 := 604) (pc' := 607) (same := true) rfl (hb hby at_604) rfl (decide_eq_true rfl) (by decide) (by decide) kq) ?_
            show own_FinH _ _ _ _ _ _ _ _ _ T50_ (mkF m 607 #[.val (.int p1), .val (.int p2), .val (.int p3), .val (.int p4), .val (.int p5), .val (.ref a1_), .val (.int nn), .val (.int po), .val (.int cc), .val (.int fl), .val (.ref b2_), .val (.ref b6_), .val (.ref ct), .val (.ref oo)] [])
            refine own_viaH (fun _ kq => XS.iconst X50_.here hx rfl (hb hby at_607) kq) ?_
            refine own_viaH (fun _ kq => XS.goto X50_.here hx rfl (pc0 := 608) (pc' := 612) rfl (hb hby at_608) (by decide) (by decide) kq) ?_
            show own_FinH _ _ _ _ _ _ _ _ _ T50_ (mkF m 612 #[.val (.int p1), .val (.int p2), .val (.int p3), .val (.int p4), .val (.int p5), .val (.ref a1_), .val (.int nn), .val (.int po), .val (.int cc), .val (.int fl), .val (.ref b2_), .val (.ref b6_), .val (.ref ct), .val (.ref oo)] [(.int (1 : Int32))])
            have C51_ := C35_.trans Cq34_
            have H51_ := C51_.1
            have C52_ := C51_.trans (CHr.keep K46_ sf0 H51_)
            have H52_ := C52_.1
            exact own_retNH X50_ hx (t := .boolean) Bd.returns Bd.notSynchronized (own_ew hw) hZ34_ hS34_ (Nat.le_trans hk34_ K46_.1) hh C52_ (by simp) (hb hby at_612) hh50_ rfl ⟨rfl, N50_⟩ (by decide) (by decide)
        · refine own_viaH (fun _ kq => XS.ifNo X23_.here hx rfl (hb hby at_537) rfl ((if0 _ _).trans (feq hs1).1) kq) ?_
          show own_FinH _ _ _ _ _ _ _ _ _ T23_ (mkF m 540 #[.val (.int p1), .val (.int p2), .val (.int p3), .val (.int p4), .val (.int p5), .val (.ref a1_), .val (.int nn), .val (.int po), .val (.int cc), .val (.int fl), .val (.ref b2_), .val (.ref b6_), .val .null, .unset] [])
          obtain ⟨T24_, X24_, e24_, st24_⟩ := getS2 X23_ hx hZ16_ hown16_ (host := "") (Or.inl (own_w hw 137 rfl)) Via.refl hh23_ (Sb.ext (((Ol.ext E6_).keep K9_ (allS g10_ all0)).ext E16_).2) (g := (mkF m 540 #[.val (.int p1), .val (.int p2), .val (.int p3), .val (.int p4), .val (.int p5), .val (.ref a1_), .val (.int nn), .val (.int po), .val (.int cc), .val (.int fl), .val (.ref b2_), .val (.ref b6_), .val .null, .unset] [])) rfl (hb hby at_540)
          refine own_viaH (fun _ kq => st24_ _ kq) ?_
          show own_FinH _ _ _ _ _ _ _ _ _ T24_ (mkF m 543 #[.val (.int p1), .val (.int p2), .val (.int p3), .val (.int p4), .val (.int p5), .val (.ref a1_), .val (.int nn), .val (.int po), .val (.int cc), .val (.int fl), .val (.ref b2_), .val (.ref b6_), .val .null, .unset] [(.ref bt)])
          refine own_viaH (fun _ kq => XS.astore X24_.here hx rfl (hb hby at_543) rfl rfl (l' := #[.val (.int p1), .val (.int p2), .val (.int p3), .val (.int p4), .val (.int p5), .val (.ref a1_), .val (.int nn), .val (.int po), .val (.int cc), .val (.int fl), .val (.ref b2_), .val (.ref b6_), .val (.ref bt), .unset]) rfl kq) ?_
          refine own_viaH (fun _ kq => XS.goto X24_.here hx rfl (pc0 := 545) (pc' := 563) rfl (hb hby at_545) (by decide) (by decide) kq) ?_
          refine own_viaH (fun _ kq => XS.aload X24_.here hx rfl (hb hby at_563) rfl rfl kq) ?_
          show own_FinH _ _ _ _ _ _ _ _ _ T24_ (mkF m 565 #[.val (.int p1), .val (.int p2), .val (.int p3), .val (.int p4), .val (.int p5), .val (.ref a1_), .val (.int nn), .val (.int po), .val (.int cc), .val (.int fl), .val (.ref b2_), .val (.ref b6_), .val (.ref bt), .unset] [(.ref b6_)])
          have q25_ : sb ≠ b6_ := Nat.ne_of_lt (Nat.lt_of_lt_of_le (Esb.ext Ol.2).lt (Nat.le_of_eq g6_.symm))
          have q26_ : sc ≠ b6_ := Nat.ne_of_lt (Nat.lt_of_lt_of_le (Esc.ext Ol.2).lt (Nat.le_of_eq g6_.symm))
          obtain ⟨_, _, ⟨T27_, L27_, k27_, n27_⟩, -, X27_, ⟨Lc27_, hQ27_, l27_, y27_, z27_⟩, st27_⟩ := Jvm.LawKit.callS X24_ hx (y := (⟨"com/example/lichen/lichen/webhook/EventType", "of", "(Ljava/lang/String;)Ljava/util/Optional;"⟩ : MethodName)) hown16_ (mvT hZ16_ (own_w hw 81 rfl)) (mvT hZ16_ (own_w hw 82 rfl)) (mvT hZ16_ (own_w hw 83 rfl)) (mvT hZ16_ (own_w hw 84 rfl)) (by decide) (backOf (W := 0) (own_rm_ofB l Z a0 hw [] b6_ cz ti kti (0 : Int32) (0 : Int32) [] ([] : List Int32) va kv bt ct sb tb ktb sc tc ktc em h16_ n0 (Nat.le_trans Zl (Nat.le_trans (Nat.le_trans E6_.1 K9_.1) E16_.1)) (((Ol.ext E6_).keep K9_ (allS g10_ all0)).ext E16_) S1 P5 Sv Se (r12_.ext E16_) (r13_.ext E16_) (r14_.ext E16_) (r15_.ext E16_) own_cod_nil (by simp) own_chs_nil Eva Vva Ebt Fbt Esb Fcsb Fvsb Vtb Ect Fct Esc Fcsc Fvsc Vtc Eem Fem q25_ q26_ (hre1.resolve_right fun q => hs1 q.1).2) hZ16_ (own_w hw 84 rfl) (own_w hw 83 rfl) (by decide) (by decide)) (g := (mkF m 565 #[.val (.int p1), .val (.int p2), .val (.int p3), .val (.int p4), .val (.int p5), .val (.ref a1_), .val (.int nn), .val (.int po), .val (.int cc), .val (.int fl), .val (.ref b2_), .val (.ref b6_), .val (.ref bt), .unset] [(.ref b6_)])) rfl (by rw [hml]; rfl) (argsL := [(.ref b6_)]) (rest := []) (lenOf own_pd22 rfl) rfl (by show 2 * 0 + _ ≤ _; exact Nat.le_of_eq rfl) (hb hby at_565) (fun _ _ => ⟨rfl, e24_, (by decide : (0 + 2 + 1) + 1 + 4 + 2 + 0 + 2 ≤ _), (by decide : (0 + (48 + 4) + 19) + 4 + 8 + (48 + 4) + 0 + 3 ≤ _)⟩)
          dsimp only [Pt.U, Pt.locs, Pt.cells, Pt.slots] at X27_ l27_ y27_ z27_ st27_ hQ27_
          subst l27_ y27_ z27_
          obtain ⟨oo, rfl, Nq27_, K27_, r28_, r29_⟩ := hQ27_
          have N27_ := Fr.app N23_ Nq27_
          refine own_viaH (fun _ kq => st27_ _ kq) ?_
          show own_FinH _ _ _ _ _ _ _ _ _ T27_ (mkF m 568 #[.val (.int p1), .val (.int p2), .val (.int p3), .val (.int p4), .val (.int p5), .val (.ref a1_), .val (.int nn), .val (.int po), .val (.int cc), .val (.int fl), .val (.ref b2_), .val (.ref b6_), .val (.ref bt), .unset] [(.ref oo)])
          refine own_viaH (fun _ kq => XS.astore X27_.here hx rfl (hb hby at_568) rfl rfl (l' := #[.val (.int p1), .val (.int p2), .val (.int p3), .val (.int p4), .val (.int p5), .val (.ref a1_), .val (.int nn), .val (.int po), .val (.int cc), .val (.int fl), .val (.ref b2_), .val (.ref b6_), .val (.ref bt), .val (.ref oo)]) rfl kq) ?_
          refine own_viaH (fun _ kq => XS.aload X27_.here hx rfl (hb hby at_570) rfl rfl kq) ?_
          refine own_viaH (fun _ kq => XS.ifnonnullYes X27_.here hx rfl (pc0 := 572) (pc' := 589) rfl (hb hby at_572) rfl (by decide) (by decide) kq) ?_
          show own_FinH _ _ _ _ _ _ _ _ _ T27_ (mkF m 589 #[.val (.int p1), .val (.int p2), .val (.int p3), .val (.int p4), .val (.int p5), .val (.ref a1_), .val (.int nn), .val (.int po), .val (.int cc), .val (.int fl), .val (.ref b2_), .val (.ref b6_), .val (.ref bt), .val (.ref oo)] [])
          refine own_viaH (fun _ kq => XS.aload X27_.here hx rfl (hb hby at_589) rfl rfl kq) ?_
          show own_FinH _ _ _ _ _ _ _ _ _ T27_ (mkF m 591 #[.val (.int p1), .val (.int p2), .val (.int p3), .val (.int p4), .val (.int p5), .val (.ref a1_), .val (.int nn), .val (.int po), .val (.int cc), .val (.int fl), .val (.ref b2_), .val (.ref b6_), .val (.ref bt), .val (.ref oo)] [(.ref oo)])
          obtain ⟨cq30_, kq30_, q30_a, q30_b, q30_c⟩ := isOf hZ16_ rfl r28_
          obtain ⟨_, _, ⟨T30_, L30_, k30_, n30_⟩, -, X30_, ⟨Lc30_, hQ30_, l30_, y30_, z30_⟩, st30_⟩ := X27_.virtualBack hx (y := (⟨"java/util/Optional", "isPresent", "()Z"⟩ : MethodName)) (z := (⟨"java/util/Optional", "isPresent", "()Z"⟩ : MethodName)) hown16_ (mvT hZ16_ (own_w hw 110 rfl)) (mvT hZ16_ (own_w hw 111 rfl)) (notFace_of_selects (args := #[]) (mvT hZ16_ (own_w hw 113 rfl))) (mvT hZ16_ (own_w hw 113 rfl)) (mvT hZ16_ (own_w hw 112 rfl)) (by decide) (backOf (W := 0) (own_rm_isP1 l Z a0 hw [] oo bt T27_.heap n0 (Nat.le_trans Zl (Nat.le_trans (Nat.le_trans (Nat.le_trans E6_.1 K9_.1) E16_.1) K27_.1)) r29_) hZ16_ (own_w hw 114 rfl) (own_w hw 107 rfl) (by decide) (by decide)) q30_a q30_c (g := (mkF m 591 #[.val (.int p1), .val (.int p2), .val (.int p3), .val (.int p4), .val (.int p5), .val (.ref a1_), .val (.int nn), .val (.int po), .val (.int cc), .val (.int fl), .val (.ref b2_), .val (.ref b6_), .val (.ref bt), .val (.ref oo)] [(.ref oo)])) rfl (by rw [hml]; rfl) (Steps.refl _) (argsL := []) (rest := []) (lenOf own_pd11 rfl) rfl (by show 2 * 0 + _ ≤ _; exact Nat.le_of_eq rfl) (hb hby at_591) (fun _ _ => ⟨rfl, rfl, (by decide : (0 + 2 + 1) + 1 + 4 + 2 + 0 + 2 + 0 ≤ _), (by decide : (0 + (48 + 4) + 19) + 4 + 8 + (48 + 4) + 0 + 3 + 0 ≤ _)⟩)
          dsimp only [Pt.U, Pt.locs, Pt.cells, Pt.slots] at X30_ l30_ y30_ z30_ st30_ hQ30_
          subst l30_ y30_ z30_
          obtain ⟨rfl, Nq30_, hh30_⟩ := hQ30_
          have N30_ := Fr.app N27_ Nq30_
          refine own_viaH (fun _ kq => st30_.trans kq) ?_
          show own_FinH _ _ _ _ _ _ _ _ _ T30_ (mkF m 594 #[.val (.int p1), .val (.int p2), .val (.int p3), .val (.int p4), .val (.int p5), .val (.ref a1_), .val (.int nn), .val (.int po), .val (.int cc), .val (.int fl), .val (.ref b2_), .val (.ref b6_), .val (.ref bt), .val (.ref oo)] [(.int (1 : Int32))])
          refine own_viaH (fun _ kq => XS.ifNo X30_.here hx rfl (hb hby at_594) rfl ((if0 _ _).trans (feq (by decide)).1) kq) ?_
          show own_FinH _ _ _ _ _ _ _ _ _ T30_ (mkF m 597 #[.val (.int p1), .val (.int p2), .val (.int p3), .val (.int p4), .val (.int p5), .val (.ref a1_), .val (.int nn), .val (.int po), .val (.int cc), .val (.int fl), .val (.ref b2_), .val (.ref b6_), .val (.ref bt), .val (.ref oo)] [])
          refine own_viaH (fun _ kq => XS.aload X30_.here hx rfl (hb hby at_597) rfl rfl kq) ?_
          show own_FinH _ _ _ _ _ _ _ _ _ T30_ (mkF m 599 #[.val (.int p1), .val (.int p2), .val (.int p3), .val (.int p4), .val (.int p5), .val (.ref a1_), .val (.int nn), .val (.int po), .val (.int cc), .val (.int fl), .val (.ref b2_), .val (.ref b6_), .val (.ref bt), .val (.ref oo)] [(.ref oo)])
          obtain ⟨cq31_, kq31_, q31_a, q31_b, q31_c⟩ := isOf hZ16_ hh30_ r28_
          obtain ⟨_, _, ⟨T31_, L31_, k31_, n31_⟩, -, X31_, ⟨Lc31_, hQ31_, l31_, y31_, z31_⟩, st31_⟩ := X30_.virtualBack hx (y := (⟨"java/util/Optional", "get", "()Ljava/lang/Object;"⟩ : MethodName)) (z := (⟨"java/util/Optional", "get", "()Ljava/lang/Object;"⟩ : MethodName)) hown16_ (mvT hZ16_ (own_w hw 152 rfl)) (mvT hZ16_ (own_w hw 153 rfl)) (notFace_of_selects (args := #[]) (mvT hZ16_ (own_w hw 155 rfl))) (mvT hZ16_ (own_w hw 155 rfl)) (mvT hZ16_ (own_w hw 154 rfl)) (by decide) (backOf (W := 0) (own_rm_optG l Z a0 hw [] oo bt T27_.heap n0 (Nat.le_trans Zl (Nat.le_trans (Nat.le_trans (Nat.le_trans E6_.1 K9_.1) E16_.1) K27_.1)) r29_) hZ16_ (own_w hw 156 rfl) (own_w hw 107 rfl) (by decide) (by decide)) q31_a q31_c (g := (mkF m 599 #[.val (.int p1), .val (.int p2), .val (.int p3), .val (.int p4), .val (.int p5), .val (.ref a1_), .val (.int nn), .val (.int po), .val (.int cc), .val (.int fl), .val (.ref b2_), .val (.ref b6_), .val (.ref bt), .val (.ref oo)] [(.ref oo)])) rfl (by rw [hml]; rfl) (Steps.refl _) (argsL := []) (rest := []) (lenOf own_pd23 rfl) rfl (by show 2 * 0 + _ ≤ _; exact Nat.le_of_eq rfl) (hb hby at_599) (fun _ _ => ⟨rfl, hh30_, (by decide : (0 + 2 + 1) + 1 + 4 + 2 + 0 + 2 + 0 + 0 ≤ _), (by decide : (0 + (48 + 4) + 19) + 4 + 8 + (48 + 4) + 0 + 3 + 0 + 0 ≤ _)⟩)
          dsimp only [Pt.U, Pt.locs, Pt.cells, Pt.slots] at X31_ l31_ y31_ z31_ st31_ hQ31_
          subst l31_ y31_ z31_
          obtain ⟨rfl, Nq31_, hh31_⟩ := hQ31_
          have N31_ := Fr.app N30_ Nq31_
          refine own_viaH (fun _ kq => st31_.trans kq) ?_
          show own_FinH _ _ _ _ _ _ _ _ _ T31_ (mkF m 602 #[.val (.int p1), .val (.int p2), .val (.int p3), .val (.int p4), .val (.int p5), .val (.ref a1_), .val (.int nn), .val (.int po), .val (.int cc), .val (.int fl), .val (.ref b2_), .val (.ref b6_), .val (.ref bt), .val (.ref oo)] [(.ref bt)])
          refine own_viaH (fun _ kq => XS.aload X31_.here hx rfl (hb hby at_602) rfl rfl kq) ?_
          show own_FinH _ _ _ _ _ _ _ _ _ T31_ (mkF m 604 #[.val (.int p1), .val (.int p2), .val (.int p3), .val (.int p4), .val (.int p5), .val (.ref a1_), .val (.int nn), .val (.int po), .val (.int cc), .val (.int fl), .val (.ref b2_), .val (.ref b6_), .val (.ref bt), .val (.ref oo)] [(.ref bt), (.ref bt)])
          refine own_viaH (fun _ kq => Jvm.RoadKit.acmp (g := (mkF m 604 #[.val (.int p1), .val (.int p2), .val (.int p3), .val (.int p4), .val (.int p5), .val (.ref a1_), .val (.int nn), .val (.int po), .val (.int cc), .val (.int fl), .val (.ref b2_), .val (.ref b6_), .val (.ref bt), .val (.ref oo)] [(.ref bt), (.ref bt)])) X31_ hx rfl rfl rfl (pc0 := 604) (pc' := 607) (same := true) rfl (hb hby at_604) rfl (decide_eq_true rfl) (by decide) (by decide) kq) ?_
          show own_FinH _ _ _ _ _ _ _ _ _ T31_ (mkF m 607 #[.val (.int p1), .val (.int p2), .val (.int p3), .val (.int p4), .val (.int p5), .val (.ref a1_), .val (.int nn), .val (.int po), .val (.int cc), .val (.int fl), .val (.ref b2_), .val (.ref b6_), .val (.ref bt), .val (.ref oo)] [])
          refine own_viaH (fun _ kq => XS.iconst X31_.here hx rfl (hb hby at_607) kq) ?_
          refine own_viaH (fun _ kq => XS.goto X31_.here hx rfl (pc0 := 608) (pc' := 612) rfl (hb hby at_608) (by decide) (by decide) kq) ?_
          show own_FinH _ _ _ _ _ _ _ _ _ T31_ (mkF m 612 #[.val (.int p1), .val (.int p2), .val (.int p3), .val (.int p4), .val (.int p5), .val (.ref a1_), .val (.int nn), .val (.int po), .val (.int cc), .val (.int fl), .val (.ref b2_), .val (.ref b6_), .val (.ref bt), .val (.ref oo)] [(.int (1 : Int32))])
          have C32_ := C17_.trans Cq16_
          have H32_ := C32_.1
          have C33_ := C32_.trans (CHr.keep K27_ sf0 H32_)
          have H33_ := C33_.1
          exact own_retNH X31_ hx (t := .boolean) Bd.returns Bd.notSynchronized (own_ew hw) hZ16_ hS16_ (Nat.le_trans hk16_ K27_.1) hh C33_ (by simp) (hb hby at_612) hh31_ rfl ⟨rfl, N31_⟩ (by decide) (by decide)
      · obtain ⟨T61_, h61_, X61_, e61_, E61_, A61_, D61_, -, st61_⟩ := newO Xl hx hZ1_ hown1_ (own_w hw 50 rfl) (own_w hw 2 rfl) (own_w hw 1 rfl) el (g := (mkF m 516 #[.val (.int p1), .val (.int p2), .val (.int p3), .val (.int p4), .val (.int p5), .val (.ref a1_), .val (.int nn), .val (.int po), .val (.int cc), .val (.int fl), .val (.ref b2_), .unset, .unset, .unset] [])) rfl (hb hby at_516) (by decide) (by decide)
        obtain ⟨b61_, g61_⟩ : ∃ z, z = hl.size := ⟨_, rfl⟩
        rw [← g61_] at A61_ D61_ st61_
        have F62_ : Fld Z h61_ b61_ "java/lang/String" "value" "[B" .null := D61_ (Or.inr (own_w hw 4 rfl)) (ty := (.array .byte)) (by decide)
        have F63_ : Fld Z h61_ b61_ "java/lang/String" "coder" "B" (.int (0 : Int32)) := D61_ (Or.inr (own_w hw 5 rfl)) (ty := .byte) (by decide)
        refine own_viaH (fun _ kq => st61_ _ kq) ?_
        show own_FinH _ _ _ _ _ _ _ _ _ T61_ (mkF m 519 #[.val (.int p1), .val (.int p2), .val (.int p3), .val (.int p4), .val (.int p5), .val (.ref a1_), .val (.int nn), .val (.int po), .val (.int cc), .val (.int fl), .val (.ref b2_), .unset, .unset, .unset] [(.ref b61_)])
        refine own_viaH (fun _ kq => XS.dup X61_.here hx rfl (hb hby at_519) rfl rfl kq) ?_
        refine own_viaH (fun _ kq => XS.aload X61_.here hx rfl (hb hby at_520) rfl rfl kq) ?_
        show own_FinH _ _ _ _ _ _ _ _ _ T61_ (mkF m 522 #[.val (.int p1), .val (.int p2), .val (.int p3), .val (.int p4), .val (.int p5), .val (.ref a1_), .val (.int nn), .val (.int po), .val (.int cc), .val (.int fl), .val (.ref b2_), .unset, .unset, .unset] [(.ref b2_), (.ref b61_), (.ref b61_)])
        have g65_ : n0 ≤ b61_ := Nat.le_trans Zl (Nat.le_of_eq g61_.symm)
        obtain ⟨_, _, ⟨T64_, L64_, k64_, n64_⟩, -, X64_, ⟨Lc64_, hQ64_, l64_, y64_, z64_⟩, st64_⟩ := X61_.specialBack hx (y := (⟨"java/lang/String", "<init>", "([C)V"⟩ : MethodName)) rfl hown1_ (mvT hZ1_ (own_w hw 51 rfl)) (mvT hZ1_ (own_w hw 52 rfl)) (mvT hZ1_ (own_w hw 53 rfl)) (by decide) (backOf (W := 1) (own_rm_sInitC l Z a0 hw [] b61_ cz .null (.int (0 : Int32)) b2_ k2_ nn xs h61_ n0 (Nat.le_trans Zl E61_.1) (Ol.ext E61_) S1 P5 S3 S4 S5 A61_ F62_ F63_ g65_ (Vl.ext E61_) (by rw [hxl]; exact hN) (by rw [hxl]; exact hn19) (by rw [hxl]; exact hp) hxs) hZ1_ (own_w hw 53 rfl) (own_w hw 1 rfl) (by decide) (by decide)) (g := (mkF m 522 #[.val (.int p1), .val (.int p2), .val (.int p3), .val (.int p4), .val (.int p5), .val (.ref a1_), .val (.int nn), .val (.int po), .val (.int cc), .val (.int fl), .val (.ref b2_), .unset, .unset, .unset] [(.ref b2_), (.ref b61_), (.ref b61_)])) rfl (by rw [hml]; rfl) (Steps.refl _) (a := b61_) (argsL := [(.ref b2_)]) (rest := [(.ref b61_)]) (lenOf own_pd21 rfl) rfl (by show 2 * 0 + _ ≤ _; exact Nat.le_of_eq rfl) (hb hby at_522) (fun _ _ => ⟨rfl, e61_, (by decide : (0 + 2 + 1) + 1 + 2 ≤ _), (by decide : (0 + (48 + 4) + 19) + 4 + 57 ≤ _)⟩)
        dsimp only [Pt.U, Pt.locs, Pt.cells, Pt.slots] at X64_ l64_ y64_ z64_ st64_ hQ64_
        subst l64_ y64_ z64_
        obtain ⟨ti, kti, cdi, Ni, vsi, rfl, Nq64_, K64_, r66_, r67_, r68_, r69_, r70_, hci⟩ := hQ64_
        have N64_ := Fr.app Nl Nq64_
        refine own_viaH (fun _ kq => st64_.trans kq) ?_
        show own_FinH _ _ _ _ _ _ _ _ _ T64_ (mkF m 525 #[.val (.int p1), .val (.int p2), .val (.int p3), .val (.int p4), .val (.int p5), .val (.ref a1_), .val (.int nn), .val (.int po), .val (.int cc), .val (.int fl), .val (.ref b2_), .unset, .unset, .unset] [(.ref b61_)])
        refine own_viaH (fun _ kq => XS.astore X64_.here hx rfl (hb hby at_525) rfl rfl (l' := #[.val (.int p1), .val (.int p2), .val (.int p3), .val (.int p4), .val (.int p5), .val (.ref a1_), .val (.int nn), .val (.int po), .val (.int cc), .val (.int fl), .val (.ref b2_), .val (.ref b61_), .unset, .unset]) rfl kq) ?_
        refine own_viaH (fun _ kq => XS.aconstNull X64_.here hx rfl (hb hby at_527) kq) ?_
        refine own_viaH (fun _ kq => XS.astore X64_.here hx rfl (hb hby at_528) rfl rfl (l' := #[.val (.int p1), .val (.int p2), .val (.int p3), .val (.int p4), .val (.int p5), .val (.ref a1_), .val (.int nn), .val (.int po), .val (.int cc), .val (.int fl), .val (.ref b2_), .val (.ref b61_), .val .null, .unset]) rfl kq) ?_
        refine own_viaH (fun _ kq => XS.aload X64_.here hx rfl (hb hby at_530) rfl rfl kq) ?_
        show own_FinH _ _ _ _ _ _ _ _ _ T64_ (mkF m 532 #[.val (.int p1), .val (.int p2), .val (.int p3), .val (.int p4), .val (.int p5), .val (.ref a1_), .val (.int nn), .val (.int po), .val (.int cc), .val (.int fl), .val (.ref b2_), .val (.ref b61_), .val .null, .unset] [(.ref b61_)])
        have C72_ := Cl.trans (CHr.ext E61_ Cl.1)
        have H72_ := C72_.1
        have sf74_ : Safe Z own_EL T1_.vm hl b61_ := Safe.new (Nat.le_of_eq g61_.symm)
        have sf75_ : Safe Z own_EL T1_.vm h61_ b61_ := Safe.ext E61_ Cl.1 sf74_
        have C73_ := C72_.trans (CHr.keep K64_ (sfS sf75_ sf0) H72_)
        have H73_ := C73_.1
        obtain ⟨a71_, T71_, h71_, k71_, b71_, kb71_, X71_, e71_, E71_, hS71_, hk71_, hZ71_, hown71_, rE71_, rC71_, rV71_, rA71_, -, -, Cq71_, -, Sx71_, st71_⟩ := ldcCH X64_ hx hZ1_ hown1_ (own_w hw 0 rfl) (own_atoms hw) rfl hS1_ (Nat.le_trans (Nat.le_trans (Nat.le_trans hk1_ E2_.1) hkl) (Nat.le_trans E61_.1 K64_.1)) (own_ew hw) (List.mem_of_getElem? (i := 0) rfl) H73_ (vs := [(.int (98 : Int32)), (.int (97 : Int32)), (.int (116 : Int32)), (.int (99 : Int32)), (.int (104 : Int32)), (.int (46 : Int32)), (.int (115 : Int32)), (.int (105 : Int32)), (.int (103 : Int32)), (.int (110 : Int32)), (.int (101 : Int32)), (.int (100 : Int32))]) (z := (12 : Int32)) ⟨by decide, by decide⟩ (by decide) (by decide) (g := (mkF m 532 #[.val (.int p1), .val (.int p2), .val (.int p3), .val (.int p4), .val (.int p5), .val (.ref a1_), .val (.int nn), .val (.int po), .val (.int cc), .val (.int fl), .val (.ref b2_), .val (.ref b61_), .val .null, .unset] [(.ref b61_)])) rfl (hb hby at_532) (n := 48) (by decide) (by decide) (by decide) (by decide)
        refine own_viaH (fun _ kq => st71_ _ kq) ?_
        show own_FinH _ _ _ _ _ _ _ _ _ T71_ (mkF m 534 #[.val (.int p1), .val (.int p2), .val (.int p3), .val (.int p4), .val (.int p5), .val (.ref a1_), .val (.int nn), .val (.int po), .val (.int cc), .val (.int fl), .val (.ref b2_), .val (.ref b61_), .val .null, .unset] [(.ref a71_), (.ref b61_)])
        have sf77_ : Safe Z own_EL T1_.vm h61_ b61_ := Safe.ext E61_ Cl.1 sf74_
        have sf78_ : Safe Z own_EL T1_.vm T64_.heap b61_ := Safe.keep K64_ (sfS sf77_ sf0) H72_ sf77_
        have sf79_ : Safe Z own_EL T71_.vm h71_ b61_ := Cq71_.safe (r66_).lt sf78_
        have q76_ : b61_ ≠ a71_ := (Sx71_ _ sf79_).1
        obtain ⟨cq80_, kq80_, q80_a, q80_b, q80_c⟩ := isOf hZ71_ e71_ (r66_.ext E71_)
        obtain ⟨_, _, ⟨T80_, L80_, k80_, n80_⟩, -, X80_, ⟨Lc80_, hQ80_, l80_, y80_, z80_⟩, st80_⟩ := X71_.virtualBack hx (y := (⟨"java/lang/String", "equals", "(Ljava/lang/Object;)Z"⟩ : MethodName)) (z := (⟨"java/lang/String", "equals", "(Ljava/lang/Object;)Z"⟩ : MethodName)) hown71_ (mvT hZ71_ (own_w hw 71 rfl)) (mvT hZ71_ (own_w hw 72 rfl)) (notFace_of_selects (args := #[]) (mvT hZ71_ (own_w hw 74 rfl))) (mvT hZ71_ (own_w hw 74 rfl)) (mvT hZ71_ (own_w hw 73 rfl)) (by decide) (backOf (W := 0) (own_rm_eqS l Z a0 hw [] b61_ cz ti kti cdi Ni vsi xs a71_ b71_ kb71_ (0 : Int32) (12 : Int32) [(.int (98 : Int32)), (.int (97 : Int32)), (.int (116 : Int32)), (.int (99 : Int32)), (.int (104 : Int32)), (.int (46 : Int32)), (.int (115 : Int32)), (.int (105 : Int32)), (.int (103 : Int32)), (.int (110 : Int32)), (.int (101 : Int32)), (.int (100 : Int32))] own_t1 h71_ n0 (Nat.le_trans Zl (Nat.le_trans (Nat.le_trans E61_.1 K64_.1) E71_.1)) (((Ol.ext E61_).keep K64_ (allS g65_ all0)).ext E71_) S1 P5 (r66_.ext E71_) (r67_.ext E71_) (r68_.ext E71_) (r70_.ext E71_) hci (by rw [hxl]; exact hn4) hxs rE71_ rC71_ rV71_ rA71_ own_lit1 (by decide) own_litr1 q76_) hZ71_ (own_w hw 75 rfl) (own_w hw 1 rfl) (by decide) (by decide)) q80_a q80_c (g := (mkF m 534 #[.val (.int p1), .val (.int p2), .val (.int p3), .val (.int p4), .val (.int p5), .val (.ref a1_), .val (.int nn), .val (.int po), .val (.int cc), .val (.int fl), .val (.ref b2_), .val (.ref b61_), .val .null, .unset] [(.ref a71_), (.ref b61_)])) rfl (by rw [hml]; rfl) (Steps.refl _) (argsL := [(.ref a71_)]) (rest := []) (lenOf own_pd18 rfl) rfl (by show 2 * 0 + _ ≤ _; exact Nat.le_of_eq rfl) (hb hby at_534) (fun _ _ => ⟨rfl, e71_, (by decide : (0 + 2 + 1) + 1 + 2 + 2 + 0 ≤ _), (by decide : (0 + (48 + 4) + 19) + 4 + 57 + (48 + 4) + 0 ≤ _)⟩)
        dsimp only [Pt.U, Pt.locs, Pt.cells, Pt.slots] at X80_ l80_ y80_ z80_ st80_ hQ80_
        subst l80_ y80_ z80_
        obtain ⟨re1, rfl, Nq80_, hh80_, hre1⟩ := hQ80_
        have N80_ := Fr.app N64_ Nq80_
        refine own_viaH (fun _ kq => st80_.trans kq) ?_
        show own_FinH _ _ _ _ _ _ _ _ _ T80_ (mkF m 537 #[.val (.int p1), .val (.int p2), .val (.int p3), .val (.int p4), .val (.int p5), .val (.ref a1_), .val (.int nn), .val (.int po), .val (.int cc), .val (.int fl), .val (.ref b2_), .val (.ref b61_), .val .null, .unset] [(.int re1)])
        rcases Classical.em (re1 = (0 : Int32)) with hs1 | hs1
        · refine own_viaH (fun _ kq => XS.ifYes X80_.here hx rfl (pc0 := 537) (pc' := 548) rfl (hb hby at_537) rfl ((if0 _ _).trans (teq hs1).1) (by decide) (by decide) kq) ?_
          show own_FinH _ _ _ _ _ _ _ _ _ T80_ (mkF m 548 #[.val (.int p1), .val (.int p2), .val (.int p3), .val (.int p4), .val (.int p5), .val (.ref a1_), .val (.int nn), .val (.int po), .val (.int cc), .val (.int fl), .val (.ref b2_), .val (.ref b61_), .val .null, .unset] [])
          refine own_viaH (fun _ kq => XS.aload X80_.here hx rfl (hb hby at_548) rfl rfl kq) ?_
          show own_FinH _ _ _ _ _ _ _ _ _ T80_ (mkF m 550 #[.val (.int p1), .val (.int p2), .val (.int p3), .val (.int p4), .val (.int p5), .val (.ref a1_), .val (.int nn), .val (.int po), .val (.int cc), .val (.int fl), .val (.ref b2_), .val (.ref b61_), .val .null, .unset] [(.ref b61_)])
          have C92_ := C73_.trans Cq71_
          have H92_ := C92_.1
          obtain ⟨a91_, T91_, h91_, k91_, b91_, kb91_, X91_, e91_, E91_, hS91_, hk91_, hZ91_, hown91_, rE91_, rC91_, rV91_, rA91_, -, -, Cq91_, -, Sx91_, st91_⟩ := ldcCH X80_ hx hZ71_ hown71_ (own_w hw 80 rfl) (own_atoms hw) hh80_ hS71_ hk71_ (own_ew hw) (List.mem_of_getElem? (i := 1) rfl) H92_ (vs := [(.int (99 : Int32)), (.int (114 : Int32)), (.int (101 : Int32)), (.int (100 : Int32)), (.int (101 : Int32)), (.int (110 : Int32)), (.int (116 : Int32)), (.int (105 : Int32)), (.int (97 : Int32)), (.int (108 : Int32)), (.int (46 : Int32)), (.int (114 : Int32)), (.int (101 : Int32)), (.int (118 : Int32)), (.int (111 : Int32)), (.int (107 : Int32)), (.int (101 : Int32)), (.int (100 : Int32))]) (z := (18 : Int32)) ⟨by decide, by decide⟩ (by decide) (by decide) (g := (mkF m 550 #[.val (.int p1), .val (.int p2), .val (.int p3), .val (.int p4), .val (.int p5), .val (.ref a1_), .val (.int nn), .val (.int po), .val (.int cc), .val (.int fl), .val (.ref b2_), .val (.ref b61_), .val .null, .unset] [(.ref b61_)])) rfl (hb hby at_550) (n := 72) (by decide) (by decide) (by decide) (by decide)
          refine own_viaH (fun _ kq => st91_ _ kq) ?_
          show own_FinH _ _ _ _ _ _ _ _ _ T91_ (mkF m 552 #[.val (.int p1), .val (.int p2), .val (.int p3), .val (.int p4), .val (.int p5), .val (.ref a1_), .val (.int nn), .val (.int po), .val (.int cc), .val (.int fl), .val (.ref b2_), .val (.ref b61_), .val .null, .unset] [(.ref a91_), (.ref b61_)])
          have sf94_ : Safe Z own_EL T1_.vm h61_ b61_ := Safe.ext E61_ Cl.1 sf74_
          have sf95_ : Safe Z own_EL T1_.vm T64_.heap b61_ := Safe.keep K64_ (sfS sf94_ sf0) H72_ sf94_
          have sf96_ : Safe Z own_EL T71_.vm h71_ b61_ := Cq71_.safe (r66_).lt sf95_
          have sf97_ : Safe Z own_EL T91_.vm h91_ b61_ := Cq91_.safe ((r66_.ext E71_)).lt sf96_
          have q93_ : b61_ ≠ a91_ := (Sx91_ _ sf97_).1
          have f99_ := ((((Ol.ext E61_).keep K64_ (allS g65_ all0)).ext E71_).ext E91_)
          obtain ⟨cq98_, kq98_, q98_a, q98_b, q98_c⟩ := isOf hZ91_ e91_ ((r66_.ext E71_).ext E91_)
          obtain ⟨_, _, ⟨T98_, L98_, k98_, n98_⟩, -, X98_, ⟨Lc98_, hQ98_, l98_, y98_, z98_⟩, st98_⟩ := X91_.virtualBack hx (y := (⟨"java/lang/String", "equals", "(Ljava/lang/Object;)Z"⟩ : MethodName)) (z := (⟨"java/lang/String", "equals", "(Ljava/lang/Object;)Z"⟩ : MethodName)) hown91_ (mvT hZ91_ (own_w hw 71 rfl)) (mvT hZ91_ (own_w hw 72 rfl)) (notFace_of_selects (args := #[]) (mvT hZ91_ (own_w hw 74 rfl))) (mvT hZ91_ (own_w hw 74 rfl)) (mvT hZ91_ (own_w hw 73 rfl)) (by decide) (backOf (W := 0) (own_rm_eqS l Z a0 hw [] b61_ cz ti kti cdi Ni vsi xs a91_ b91_ kb91_ (0 : Int32) (18 : Int32) [(.int (99 : Int32)), (.int (114 : Int32)), (.int (101 : Int32)), (.int (100 : Int32)), (.int (101 : Int32)), (.int (110 : Int32)), (.int (116 : Int32)), (.int (105 : Int32)), (.int (97 : Int32)), (.int (108 : Int32)), (.int (46 : Int32)), (.int (114 : Int32)), (.int (101 : Int32)), (.int (118 : Int32)), (.int (111 : Int32)), (.int (107 : Int32)), (.int (101 : Int32)), (.int (100 : Int32))] own_t2 h91_ n0 (Nat.le_trans Zl (Nat.le_trans (Nat.le_trans (Nat.le_trans E61_.1 K64_.1) E71_.1) E91_.1)) f99_ S1 P5 ((r66_.ext E71_).ext E91_) ((r67_.ext E71_).ext E91_) ((r68_.ext E71_).ext E91_) ((r70_.ext E71_).ext E91_) hci (by rw [hxl]; exact hn4) hxs rE91_ rC91_ rV91_ rA91_ own_lit2 (by decide) own_litr2 q93_) hZ91_ (own_w hw 75 rfl) (own_w hw 1 rfl) (by decide) (by decide)) q98_a q98_c (g := (mkF m 552 #[.val (.int p1), .val (.int p2), .val (.int p3), .val (.int p4), .val (.int p5), .val (.ref a1_), .val (.int nn), .val (.int po), .val (.int cc), .val (.int fl), .val (.ref b2_), .val (.ref b61_), .val .null, .unset] [(.ref a91_), (.ref b61_)])) rfl (by rw [hml]; rfl) (Steps.refl _) (argsL := [(.ref a91_)]) (rest := []) (lenOf own_pd18 rfl) rfl (by show 2 * 0 + _ ≤ _; exact Nat.le_of_eq rfl) (hb hby at_552) (fun _ _ => ⟨rfl, e91_, (by decide : (0 + 2 + 1) + 1 + 2 + 2 + 0 + 2 + 0 ≤ _), (by decide : (0 + (48 + 4) + 19) + 4 + 57 + (48 + 4) + 0 + (72 + 4) + 0 ≤ _)⟩)
          dsimp only [Pt.U, Pt.locs, Pt.cells, Pt.slots] at X98_ l98_ y98_ z98_ st98_ hQ98_
          subst l98_ y98_ z98_
          obtain ⟨re2, rfl, Nq98_, hh98_, hre2⟩ := hQ98_
          have N98_ := Fr.app N80_ Nq98_
          refine own_viaH (fun _ kq => st98_.trans kq) ?_
          show own_FinH _ _ _ _ _ _ _ _ _ T98_ (mkF m 555 #[.val (.int p1), .val (.int p2), .val (.int p3), .val (.int p4), .val (.int p5), .val (.ref a1_), .val (.int nn), .val (.int po), .val (.int cc), .val (.int fl), .val (.ref b2_), .val (.ref b61_), .val .null, .unset] [(.int re2)])
          rcases Classical.em (re2 = (0 : Int32)) with hs2 | hs2
          · refine own_viaH (fun _ kq => XS.ifYes X98_.here hx rfl (pc0 := 555) (pc' := 563) rfl (hb hby at_555) rfl ((if0 _ _).trans (teq hs2).1) (by decide) (by decide) kq) ?_
            show own_FinH _ _ _ _ _ _ _ _ _ T98_ (mkF m 563 #[.val (.int p1), .val (.int p2), .val (.int p3), .val (.int p4), .val (.int p5), .val (.ref a1_), .val (.int nn), .val (.int po), .val (.int cc), .val (.int fl), .val (.ref b2_), .val (.ref b61_), .val .null, .unset] [])
            refine own_viaH (fun _ kq => XS.aload X98_.here hx rfl (hb hby at_563) rfl rfl kq) ?_
            show own_FinH _ _ _ _ _ _ _ _ _ T98_ (mkF m 565 #[.val (.int p1), .val (.int p2), .val (.int p3), .val (.int p4), .val (.int p5), .val (.ref a1_), .val (.int nn), .val (.int po), .val (.int cc), .val (.int fl), .val (.ref b2_), .val (.ref b61_), .val .null, .unset] [(.ref b61_)])
            have q110_ : sb ≠ b61_ := Nat.ne_of_lt (Nat.lt_of_lt_of_le (Esb.ext Ol.2).lt (Nat.le_of_eq g61_.symm))
            have q111_ : sc ≠ b61_ := Nat.ne_of_lt (Nat.lt_of_lt_of_le (Esc.ext Ol.2).lt (Nat.le_of_eq g61_.symm))
            obtain ⟨_, _, ⟨T112_, L112_, k112_, n112_⟩, -, X112_, ⟨Lc112_, hQ112_, l112_, y112_, z112_⟩, st112_⟩ := Jvm.LawKit.callS X98_ hx (y := (⟨"com/example/lichen/lichen/webhook/EventType", "of", "(Ljava/lang/String;)Ljava/util/Optional;"⟩ : MethodName)) hown91_ (mvT hZ91_ (own_w hw 81 rfl)) (mvT hZ91_ (own_w hw 82 rfl)) (mvT hZ91_ (own_w hw 83 rfl)) (mvT hZ91_ (own_w hw 84 rfl)) (by decide) (backOf (W := 0) (own_rm_ofN l Z a0 hw [] b61_ cz ti kti cdi Ni vsi xs va kv bt ct sb tb ktb sc tc ktc em h91_ n0 (Nat.le_trans Zl (Nat.le_trans (Nat.le_trans (Nat.le_trans E61_.1 K64_.1) E71_.1) E91_.1)) f99_ S1 P5 Sv Se ((r66_.ext E71_).ext E91_) ((r67_.ext E71_).ext E91_) ((r68_.ext E71_).ext E91_) ((r70_.ext E71_).ext E91_) hci (by rw [hxl]; exact hn4) hxs Eva Vva Ebt Fbt Esb Fcsb Fvsb Vtb Ect Fct Esc Fcsc Fvsc Vtc Eem Fem q110_ q111_ (hre1.resolve_left fun q => absurd (q.1.symm.trans hs1) (by decide)).2 (hre2.resolve_left fun q => absurd (q.1.symm.trans hs2) (by decide)).2) hZ91_ (own_w hw 84 rfl) (own_w hw 83 rfl) (by decide) (by decide)) (g := (mkF m 565 #[.val (.int p1), .val (.int p2), .val (.int p3), .val (.int p4), .val (.int p5), .val (.ref a1_), .val (.int nn), .val (.int po), .val (.int cc), .val (.int fl), .val (.ref b2_), .val (.ref b61_), .val .null, .unset] [(.ref b61_)])) rfl (by rw [hml]; rfl) (argsL := [(.ref b61_)]) (rest := []) (lenOf own_pd22 rfl) rfl (by show 2 * 0 + _ ≤ _; exact Nat.le_of_eq rfl) (hb hby at_565) (fun _ _ => ⟨rfl, hh98_, (by decide : (0 + 2 + 1) + 1 + 2 + 2 + 0 + 2 + 0 + 1 ≤ _), (by decide : (0 + (48 + 4) + 19) + 4 + 57 + (48 + 4) + 0 + (72 + 4) + 0 + 2 ≤ _)⟩)
            dsimp only [Pt.U, Pt.locs, Pt.cells, Pt.slots] at X112_ l112_ y112_ z112_ st112_ hQ112_
            subst l112_ y112_ z112_
            obtain ⟨oo, rfl, Nq112_, K112_, r113_, r114_⟩ := hQ112_
            have N112_ := Fr.app N98_ Nq112_
            refine own_viaH (fun _ kq => st112_ _ kq) ?_
            show own_FinH _ _ _ _ _ _ _ _ _ T112_ (mkF m 568 #[.val (.int p1), .val (.int p2), .val (.int p3), .val (.int p4), .val (.int p5), .val (.ref a1_), .val (.int nn), .val (.int po), .val (.int cc), .val (.int fl), .val (.ref b2_), .val (.ref b61_), .val .null, .unset] [(.ref oo)])
            refine own_viaH (fun _ kq => XS.astore X112_.here hx rfl (hb hby at_568) rfl rfl (l' := #[.val (.int p1), .val (.int p2), .val (.int p3), .val (.int p4), .val (.int p5), .val (.ref a1_), .val (.int nn), .val (.int po), .val (.int cc), .val (.int fl), .val (.ref b2_), .val (.ref b61_), .val .null, .val (.ref oo)]) rfl kq) ?_
            refine own_viaH (fun _ kq => XS.aload X112_.here hx rfl (hb hby at_570) rfl rfl kq) ?_
            refine own_viaH (fun _ kq => XS.ifnonnullNo X112_.here hx rfl (hb hby at_572) rfl kq) ?_
            show own_FinH _ _ _ _ _ _ _ _ _ T112_ (mkF m 575 #[.val (.int p1), .val (.int p2), .val (.int p3), .val (.int p4), .val (.int p5), .val (.ref a1_), .val (.int nn), .val (.int po), .val (.int cc), .val (.int fl), .val (.ref b2_), .val (.ref b61_), .val .null, .val (.ref oo)] [])
            refine own_viaH (fun _ kq => XS.aload X112_.here hx rfl (hb hby at_575) rfl rfl kq) ?_
            show own_FinH _ _ _ _ _ _ _ _ _ T112_ (mkF m 577 #[.val (.int p1), .val (.int p2), .val (.int p3), .val (.int p4), .val (.int p5), .val (.ref a1_), .val (.int nn), .val (.int po), .val (.int cc), .val (.int fl), .val (.ref b2_), .val (.ref b61_), .val .null, .val (.ref oo)] [(.ref oo)])
            obtain ⟨cq115_, kq115_, q115_a, q115_b, q115_c⟩ := isOf hZ91_ rfl r113_
            obtain ⟨_, _, ⟨T115_, L115_, k115_, n115_⟩, -, X115_, ⟨Lc115_, hQ115_, l115_, y115_, z115_⟩, st115_⟩ := X112_.virtualBack hx (y := (⟨"java/util/Optional", "isPresent", "()Z"⟩ : MethodName)) (z := (⟨"java/util/Optional", "isPresent", "()Z"⟩ : MethodName)) hown91_ (mvT hZ91_ (own_w hw 110 rfl)) (mvT hZ91_ (own_w hw 111 rfl)) (notFace_of_selects (args := #[]) (mvT hZ91_ (own_w hw 113 rfl))) (mvT hZ91_ (own_w hw 113 rfl)) (mvT hZ91_ (own_w hw 112 rfl)) (by decide) (backOf (W := 0) (own_rm_isP0 l Z a0 hw [] oo T112_.heap n0 (Nat.le_trans Zl (Nat.le_trans (Nat.le_trans (Nat.le_trans (Nat.le_trans E61_.1 K64_.1) E71_.1) E91_.1) K112_.1)) r114_) hZ91_ (own_w hw 114 rfl) (own_w hw 107 rfl) (by decide) (by decide)) q115_a q115_c (g := (mkF m 577 #[.val (.int p1), .val (.int p2), .val (.int p3), .val (.int p4), .val (.int p5), .val (.ref a1_), .val (.int nn), .val (.int po), .val (.int cc), .val (.int fl), .val (.ref b2_), .val (.ref b61_), .val .null, .val (.ref oo)] [(.ref oo)])) rfl (by rw [hml]; rfl) (Steps.refl _) (argsL := []) (rest := []) (lenOf own_pd11 rfl) rfl (by show 2 * 0 + _ ≤ _; exact Nat.le_of_eq rfl) (hb hby at_577) (fun _ _ => ⟨rfl, rfl, (by decide : (0 + 2 + 1) + 1 + 2 + 2 + 0 + 2 + 0 + 1 + 0 ≤ _), (by decide : (0 + (48 + 4) + 19) + 4 + 57 + (48 + 4) + 0 + (72 + 4) + 0 + 2 + 0 ≤ _)⟩)
            dsimp only [Pt.U, Pt.locs, Pt.cells, Pt.slots] at X115_ l115_ y115_ z115_ st115_ hQ115_
            subst l115_ y115_ z115_
            obtain ⟨rfl, Nq115_, hh115_⟩ := hQ115_
            have N115_ := Fr.app N112_ Nq115_
            refine own_viaH (fun _ kq => st115_.trans kq) ?_
            show own_FinH _ _ _ _ _ _ _ _ _ T115_ (mkF m 580 #[.val (.int p1), .val (.int p2), .val (.int p3), .val (.int p4), .val (.int p5), .val (.ref a1_), .val (.int nn), .val (.int po), .val (.int cc), .val (.int fl), .val (.ref b2_), .val (.ref b61_), .val .null, .val (.ref oo)] [(.int (0 : Int32))])
            refine own_viaH (fun _ kq => XS.ifNo X115_.here hx rfl (hb hby at_580) rfl ((if0 _ _).trans (teq rfl).2) kq) ?_
            show own_FinH _ _ _ _ _ _ _ _ _ T115_ (mkF m 583 #[.val (.int p1), .val (.int p2), .val (.int p3), .val (.int p4), .val (.int p5), .val (.ref a1_), .val (.int nn), .val (.int po), .val (.int cc), .val (.int fl), .val (.ref b2_), .val (.ref b61_), .val .null, .val (.ref oo)] [])
            refine own_viaH (fun _ kq => XS.iconst X115_.here hx rfl (hb hby at_583) kq) ?_
            refine own_viaH (fun _ kq => XS.goto X115_.here hx rfl (pc0 := 584) (pc' := 588) rfl (hb hby at_584) (by decide) (by decide) kq) ?_
            show own_FinH _ _ _ _ _ _ _ _ _ T115_ (mkF m 588 #[.val (.int p1), .val (.int p2), .val (.int p3), .val (.int p4), .val (.int p5), .val (.ref a1_), .val (.int nn), .val (.int po), .val (.int cc), .val (.int fl), .val (.ref b2_), .val (.ref b61_), .val .null, .val (.ref oo)] [(.int (1 : Int32))])
            have C116_ := C92_.trans Cq91_
            have H116_ := C116_.1
            have C117_ := C116_.trans (CHr.keep K112_ sf0 H116_)
            have H117_ := C117_.1
            exact own_retNH X115_ hx (t := .boolean) Bd.returns Bd.notSynchronized (own_ew hw) hZ91_ hS91_ (Nat.le_trans hk91_ K112_.1) hh C117_ (by simp) (hb hby at_588) hh115_ rfl ⟨rfl, N115_⟩ (by decide) (by decide)
          · refine own_viaH (fun _ kq => XS.ifNo X98_.here hx rfl (hb hby at_555) rfl ((if0 _ _).trans (feq hs2).1) kq) ?_
            show own_FinH _ _ _ _ _ _ _ _ _ T98_ (mkF m 558 #[.val (.int p1), .val (.int p2), .val (.int p3), .val (.int p4), .val (.int p5), .val (.ref a1_), .val (.int nn), .val (.int po), .val (.int cc), .val (.int fl), .val (.ref b2_), .val (.ref b61_), .val .null, .unset] [])
            obtain ⟨T100_, X100_, e100_, st100_⟩ := getS2 X98_ hx hZ91_ hown91_ (host := "") (Or.inl (own_w hw 157 rfl)) Via.refl hh98_ (Sc.ext f99_.2) (g := (mkF m 558 #[.val (.int p1), .val (.int p2), .val (.int p3), .val (.int p4), .val (.int p5), .val (.ref a1_), .val (.int nn), .val (.int po), .val (.int cc), .val (.int fl), .val (.ref b2_), .val (.ref b61_), .val .null, .unset] [])) rfl (hb hby at_558)
            refine own_viaH (fun _ kq => st100_ _ kq) ?_
            show own_FinH _ _ _ _ _ _ _ _ _ T100_ (mkF m 561 #[.val (.int p1), .val (.int p2), .val (.int p3), .val (.int p4), .val (.int p5), .val (.ref a1_), .val (.int nn), .val (.int po), .val (.int cc), .val (.int fl), .val (.ref b2_), .val (.ref b61_), .val .null, .unset] [(.ref ct)])
            refine own_viaH (fun _ kq => XS.astore X100_.here hx rfl (hb hby at_561) rfl rfl (l' := #[.val (.int p1), .val (.int p2), .val (.int p3), .val (.int p4), .val (.int p5), .val (.ref a1_), .val (.int nn), .val (.int po), .val (.int cc), .val (.int fl), .val (.ref b2_), .val (.ref b61_), .val (.ref ct), .unset]) rfl kq) ?_
            refine own_viaH (fun _ kq => XS.aload X100_.here hx rfl (hb hby at_563) rfl rfl kq) ?_
            show own_FinH _ _ _ _ _ _ _ _ _ T100_ (mkF m 565 #[.val (.int p1), .val (.int p2), .val (.int p3), .val (.int p4), .val (.int p5), .val (.ref a1_), .val (.int nn), .val (.int po), .val (.int cc), .val (.int fl), .val (.ref b2_), .val (.ref b61_), .val (.ref ct), .unset] [(.ref b61_)])
            have q101_ : sb ≠ b61_ := Nat.ne_of_lt (Nat.lt_of_lt_of_le (Esb.ext Ol.2).lt (Nat.le_of_eq g61_.symm))
            have q102_ : sc ≠ b61_ := Nat.ne_of_lt (Nat.lt_of_lt_of_le (Esc.ext Ol.2).lt (Nat.le_of_eq g61_.symm))
            obtain ⟨_, _, ⟨T103_, L103_, k103_, n103_⟩, -, X103_, ⟨Lc103_, hQ103_, l103_, y103_, z103_⟩, st103_⟩ := Jvm.LawKit.callS X100_ hx (y := (⟨"com/example/lichen/lichen/webhook/EventType", "of", "(Ljava/lang/String;)Ljava/util/Optional;"⟩ : MethodName)) hown91_ (mvT hZ91_ (own_w hw 81 rfl)) (mvT hZ91_ (own_w hw 82 rfl)) (mvT hZ91_ (own_w hw 83 rfl)) (mvT hZ91_ (own_w hw 84 rfl)) (by decide) (backOf (W := 0) (own_rm_ofC l Z a0 hw [] b61_ cz ti kti cdi Ni vsi xs va kv bt ct sb tb ktb sc tc ktc em h91_ n0 (Nat.le_trans Zl (Nat.le_trans (Nat.le_trans (Nat.le_trans E61_.1 K64_.1) E71_.1) E91_.1)) f99_ S1 P5 Sv Se ((r66_.ext E71_).ext E91_) ((r67_.ext E71_).ext E91_) ((r68_.ext E71_).ext E91_) ((r70_.ext E71_).ext E91_) hci (by rw [hxl]; exact hn4) hxs Eva Vva Ebt Fbt Esb Fcsb Fvsb Vtb Ect Fct Esc Fcsc Fvsc Vtc Eem Fem q101_ q102_ (hre1.resolve_left fun q => absurd (q.1.symm.trans hs1) (by decide)).2 (hre2.resolve_right fun q => hs2 q.1).2) hZ91_ (own_w hw 84 rfl) (own_w hw 83 rfl) (by decide) (by decide)) (g := (mkF m 565 #[.val (.int p1), .val (.int p2), .val (.int p3), .val (.int p4), .val (.int p5), .val (.ref a1_), .val (.int nn), .val (.int po), .val (.int cc), .val (.int fl), .val (.ref b2_), .val (.ref b61_), .val (.ref ct), .unset] [(.ref b61_)])) rfl (by rw [hml]; rfl) (argsL := [(.ref b61_)]) (rest := []) (lenOf own_pd22 rfl) rfl (by show 2 * 0 + _ ≤ _; exact Nat.le_of_eq rfl) (hb hby at_565) (fun _ _ => ⟨rfl, e100_, (by decide : (0 + 2 + 1) + 1 + 2 + 2 + 0 + 2 + 0 + 2 ≤ _), (by decide : (0 + (48 + 4) + 19) + 4 + 57 + (48 + 4) + 0 + (72 + 4) + 0 + 3 ≤ _)⟩)
            dsimp only [Pt.U, Pt.locs, Pt.cells, Pt.slots] at X103_ l103_ y103_ z103_ st103_ hQ103_
            subst l103_ y103_ z103_
            obtain ⟨oo, rfl, Nq103_, K103_, r104_, r105_⟩ := hQ103_
            have N103_ := Fr.app N98_ Nq103_
            refine own_viaH (fun _ kq => st103_ _ kq) ?_
            show own_FinH _ _ _ _ _ _ _ _ _ T103_ (mkF m 568 #[.val (.int p1), .val (.int p2), .val (.int p3), .val (.int p4), .val (.int p5), .val (.ref a1_), .val (.int nn), .val (.int po), .val (.int cc), .val (.int fl), .val (.ref b2_), .val (.ref b61_), .val (.ref ct), .unset] [(.ref oo)])
            refine own_viaH (fun _ kq => XS.astore X103_.here hx rfl (hb hby at_568) rfl rfl (l' := #[.val (.int p1), .val (.int p2), .val (.int p3), .val (.int p4), .val (.int p5), .val (.ref a1_), .val (.int nn), .val (.int po), .val (.int cc), .val (.int fl), .val (.ref b2_), .val (.ref b61_), .val (.ref ct), .val (.ref oo)]) rfl kq) ?_
            refine own_viaH (fun _ kq => XS.aload X103_.here hx rfl (hb hby at_570) rfl rfl kq) ?_
            refine own_viaH (fun _ kq => XS.ifnonnullYes X103_.here hx rfl (pc0 := 572) (pc' := 589) rfl (hb hby at_572) rfl (by decide) (by decide) kq) ?_
            show own_FinH _ _ _ _ _ _ _ _ _ T103_ (mkF m 589 #[.val (.int p1), .val (.int p2), .val (.int p3), .val (.int p4), .val (.int p5), .val (.ref a1_), .val (.int nn), .val (.int po), .val (.int cc), .val (.int fl), .val (.ref b2_), .val (.ref b61_), .val (.ref ct), .val (.ref oo)] [])
            refine own_viaH (fun _ kq => XS.aload X103_.here hx rfl (hb hby at_589) rfl rfl kq) ?_
            show own_FinH _ _ _ _ _ _ _ _ _ T103_ (mkF m 591 #[.val (.int p1), .val (.int p2), .val (.int p3), .val (.int p4), .val (.int p5), .val (.ref a1_), .val (.int nn), .val (.int po), .val (.int cc), .val (.int fl), .val (.ref b2_), .val (.ref b61_), .val (.ref ct), .val (.ref oo)] [(.ref oo)])
            obtain ⟨cq106_, kq106_, q106_a, q106_b, q106_c⟩ := isOf hZ91_ rfl r104_
            obtain ⟨_, _, ⟨T106_, L106_, k106_, n106_⟩, -, X106_, ⟨Lc106_, hQ106_, l106_, y106_, z106_⟩, st106_⟩ := X103_.virtualBack hx (y := (⟨"java/util/Optional", "isPresent", "()Z"⟩ : MethodName)) (z := (⟨"java/util/Optional", "isPresent", "()Z"⟩ : MethodName)) hown91_ (mvT hZ91_ (own_w hw 110 rfl)) (mvT hZ91_ (own_w hw 111 rfl)) (notFace_of_selects (args := #[]) (mvT hZ91_ (own_w hw 113 rfl))) (mvT hZ91_ (own_w hw 113 rfl)) (mvT hZ91_ (own_w hw 112 rfl)) (by decide) (backOf (W := 0) (own_rm_isP1 l Z a0 hw [] oo ct T103_.heap n0 (Nat.le_trans Zl (Nat.le_trans (Nat.le_trans (Nat.le_trans (Nat.le_trans E61_.1 K64_.1) E71_.1) E91_.1) K103_.1)) r105_) hZ91_ (own_w hw 114 rfl) (own_w hw 107 rfl) (by decide) (by decide)) q106_a q106_c (g := (mkF m 591 #[.val (.int p1), .val (.int p2), .val (.int p3), .val (.int p4), .val (.int p5), .val (.ref a1_), .val (.int nn), .val (.int po), .val (.int cc), .val (.int fl), .val (.ref b2_), .val (.ref b61_), .val (.ref ct), .val (.ref oo)] [(.ref oo)])) rfl (by rw [hml]; rfl) (Steps.refl _) (argsL := []) (rest := []) (lenOf own_pd11 rfl) rfl (by show 2 * 0 + _ ≤ _; exact Nat.le_of_eq rfl) (hb hby at_591) (fun _ _ => ⟨rfl, rfl, (by decide : (0 + 2 + 1) + 1 + 2 + 2 + 0 + 2 + 0 + 2 + 0 ≤ _), (by decide : (0 + (48 + 4) + 19) + 4 + 57 + (48 + 4) + 0 + (72 + 4) + 0 + 3 + 0 ≤ _)⟩)
            dsimp only [Pt.U, Pt.locs, Pt.cells, Pt.slots] at X106_ l106_ y106_ z106_ st106_ hQ106_
            subst l106_ y106_ z106_
            obtain ⟨rfl, Nq106_, hh106_⟩ := hQ106_
            have N106_ := Fr.app N103_ Nq106_
            refine own_viaH (fun _ kq => st106_.trans kq) ?_
            show own_FinH _ _ _ _ _ _ _ _ _ T106_ (mkF m 594 #[.val (.int p1), .val (.int p2), .val (.int p3), .val (.int p4), .val (.int p5), .val (.ref a1_), .val (.int nn), .val (.int po), .val (.int cc), .val (.int fl), .val (.ref b2_), .val (.ref b61_), .val (.ref ct), .val (.ref oo)] [(.int (1 : Int32))])
            refine own_viaH (fun _ kq => XS.ifNo X106_.here hx rfl (hb hby at_594) rfl ((if0 _ _).trans (feq (by decide)).1) kq) ?_
            show own_FinH _ _ _ _ _ _ _ _ _ T106_ (mkF m 597 #[.val (.int p1), .val (.int p2), .val (.int p3), .val (.int p4), .val (.int p5), .val (.ref a1_), .val (.int nn), .val (.int po), .val (.int cc), .val (.int fl), .val (.ref b2_), .val (.ref b61_), .val (.ref ct), .val (.ref oo)] [])
            refine own_viaH (fun _ kq => XS.aload X106_.here hx rfl (hb hby at_597) rfl rfl kq) ?_
            show own_FinH _ _ _ _ _ _ _ _ _ T106_ (mkF m 599 #[.val (.int p1), .val (.int p2), .val (.int p3), .val (.int p4), .val (.int p5), .val (.ref a1_), .val (.int nn), .val (.int po), .val (.int cc), .val (.int fl), .val (.ref b2_), .val (.ref b61_), .val (.ref ct), .val (.ref oo)] [(.ref oo)])
            obtain ⟨cq107_, kq107_, q107_a, q107_b, q107_c⟩ := isOf hZ91_ hh106_ r104_
            obtain ⟨_, _, ⟨T107_, L107_, k107_, n107_⟩, -, X107_, ⟨Lc107_, hQ107_, l107_, y107_, z107_⟩, st107_⟩ := X106_.virtualBack hx (y := (⟨"java/util/Optional", "get", "()Ljava/lang/Object;"⟩ : MethodName)) (z := (⟨"java/util/Optional", "get", "()Ljava/lang/Object;"⟩ : MethodName)) hown91_ (mvT hZ91_ (own_w hw 152 rfl)) (mvT hZ91_ (own_w hw 153 rfl)) (notFace_of_selects (args := #[]) (mvT hZ91_ (own_w hw 155 rfl))) (mvT hZ91_ (own_w hw 155 rfl)) (mvT hZ91_ (own_w hw 154 rfl)) (by decide) (backOf (W := 0) (own_rm_optG l Z a0 hw [] oo ct T103_.heap n0 (Nat.le_trans Zl (Nat.le_trans (Nat.le_trans (Nat.le_trans (Nat.le_trans E61_.1 K64_.1) E71_.1) E91_.1) K103_.1)) r105_) hZ91_ (own_w hw 156 rfl) (own_w hw 107 rfl) (by decide) (by decide)) q107_a q107_c (g := (mkF m 599 #[.val (.int p1), .val (.int p2), .val (.int p3), .val (.int p4), .val (.int p5), .val (.ref a1_), .val (.int nn), .val (.int po), .val (.int cc), .val (.int fl), .val (.ref b2_), .val (.ref b61_), .val (.ref ct), .val (.ref oo)] [(.ref oo)])) rfl (by rw [hml]; rfl) (Steps.refl _) (argsL := []) (rest := []) (lenOf own_pd23 rfl) rfl (by show 2 * 0 + _ ≤ _; exact Nat.le_of_eq rfl) (hb hby at_599) (fun _ _ => ⟨rfl, hh106_, (by decide : (0 + 2 + 1) + 1 + 2 + 2 + 0 + 2 + 0 + 2 + 0 + 0 ≤ _), (by decide : (0 + (48 + 4) + 19) + 4 + 57 + (48 + 4) + 0 + (72 + 4) + 0 + 3 + 0 + 0 ≤ _)⟩)
            dsimp only [Pt.U, Pt.locs, Pt.cells, Pt.slots] at X107_ l107_ y107_ z107_ st107_ hQ107_
            subst l107_ y107_ z107_
            obtain ⟨rfl, Nq107_, hh107_⟩ := hQ107_
            have N107_ := Fr.app N106_ Nq107_
            refine own_viaH (fun _ kq => st107_.trans kq) ?_
            show own_FinH _ _ _ _ _ _ _ _ _ T107_ (mkF m 602 #[.val (.int p1), .val (.int p2), .val (.int p3), .val (.int p4), .val (.int p5), .val (.ref a1_), .val (.int nn), .val (.int po), .val (.int cc), .val (.int fl), .val (.ref b2_), .val (.ref b61_), .val (.ref ct), .val (.ref oo)] [(.ref ct)])
            refine own_viaH (fun _ kq => XS.aload X107_.here hx rfl (hb hby at_602) rfl rfl kq) ?_
            show own_FinH _ _ _ _ _ _ _ _ _ T107_ (mkF m 604 #[.val (.int p1), .val (.int p2), .val (.int p3), .val (.int p4), .val (.int p5), .val (.ref a1_), .val (.int nn), .val (.int po), .val (.int cc), .val (.int fl), .val (.ref b2_), .val (.ref b61_), .val (.ref ct), .val (.ref oo)] [(.ref ct), (.ref ct)])
            refine own_viaH (fun _ kq => Jvm.RoadKit.acmp (g := (mkF m 604 #[.val (.int p1), .val (.int p2), .val (.int p3), .val (.int p4), .val (.int p5), .val (.ref a1_), .val (.int nn), .val (.int po), .val (.int cc), .val (.int fl), .val (.ref b2_), .val (.ref b61_), .val (.ref ct), .val (.ref oo)] [(.ref ct), (.ref ct)])) X107_ hx rfl rfl rfl (pc0 := 604) (pc' := 607) (same := true) rfl (hb hby at_604) rfl (decide_eq_true rfl) (by decide) (by decide) kq) ?_
            show own_FinH _ _ _ _ _ _ _ _ _ T107_ (mkF m 607 #[.val (.int p1), .val (.int p2), .val (.int p3), .val (.int p4), .val (.int p5), .val (.ref a1_), .val (.int nn), .val (.int po), .val (.int cc), .val (.int fl), .val (.ref b2_), .val (.ref b61_), .val (.ref ct), .val (.ref oo)] [])
            refine own_viaH (fun _ kq => XS.iconst X107_.here hx rfl (hb hby at_607) kq) ?_
            refine own_viaH (fun _ kq => XS.goto X107_.here hx rfl (pc0 := 608) (pc' := 612) rfl (hb hby at_608) (by decide) (by decide) kq) ?_
            show own_FinH _ _ _ _ _ _ _ _ _ T107_ (mkF m 612 #[.val (.int p1), .val (.int p2), .val (.int p3), .val (.int p4), .val (.int p5), .val (.ref a1_), .val (.int nn), .val (.int po), .val (.int cc), .val (.int fl), .val (.ref b2_), .val (.ref b61_), .val (.ref ct), .val (.ref oo)] [(.int (1 : Int32))])
            have C108_ := C92_.trans Cq91_
            have H108_ := C108_.1
            have C109_ := C108_.trans (CHr.keep K103_ sf0 H108_)
            have H109_ := C109_.1
            exact own_retNH X107_ hx (t := .boolean) Bd.returns Bd.notSynchronized (own_ew hw) hZ91_ hS91_ (Nat.le_trans hk91_ K103_.1) hh C109_ (by simp) (hb hby at_612) hh107_ rfl ⟨rfl, N107_⟩ (by decide) (by decide)
        · refine own_viaH (fun _ kq => XS.ifNo X80_.here hx rfl (hb hby at_537) rfl ((if0 _ _).trans (feq hs1).1) kq) ?_
          show own_FinH _ _ _ _ _ _ _ _ _ T80_ (mkF m 540 #[.val (.int p1), .val (.int p2), .val (.int p3), .val (.int p4), .val (.int p5), .val (.ref a1_), .val (.int nn), .val (.int po), .val (.int cc), .val (.int fl), .val (.ref b2_), .val (.ref b61_), .val .null, .unset] [])
          obtain ⟨T81_, X81_, e81_, st81_⟩ := getS2 X80_ hx hZ71_ hown71_ (host := "") (Or.inl (own_w hw 137 rfl)) Via.refl hh80_ (Sb.ext (((Ol.ext E61_).keep K64_ (allS g65_ all0)).ext E71_).2) (g := (mkF m 540 #[.val (.int p1), .val (.int p2), .val (.int p3), .val (.int p4), .val (.int p5), .val (.ref a1_), .val (.int nn), .val (.int po), .val (.int cc), .val (.int fl), .val (.ref b2_), .val (.ref b61_), .val .null, .unset] [])) rfl (hb hby at_540)
          refine own_viaH (fun _ kq => st81_ _ kq) ?_
          show own_FinH _ _ _ _ _ _ _ _ _ T81_ (mkF m 543 #[.val (.int p1), .val (.int p2), .val (.int p3), .val (.int p4), .val (.int p5), .val (.ref a1_), .val (.int nn), .val (.int po), .val (.int cc), .val (.int fl), .val (.ref b2_), .val (.ref b61_), .val .null, .unset] [(.ref bt)])
          refine own_viaH (fun _ kq => XS.astore X81_.here hx rfl (hb hby at_543) rfl rfl (l' := #[.val (.int p1), .val (.int p2), .val (.int p3), .val (.int p4), .val (.int p5), .val (.ref a1_), .val (.int nn), .val (.int po), .val (.int cc), .val (.int fl), .val (.ref b2_), .val (.ref b61_), .val (.ref bt), .unset]) rfl kq) ?_
          refine own_viaH (fun _ kq => XS.goto X81_.here hx rfl (pc0 := 545) (pc' := 563) rfl (hb hby at_545) (by decide) (by decide) kq) ?_
          refine own_viaH (fun _ kq => XS.aload X81_.here hx rfl (hb hby at_563) rfl rfl kq) ?_
          show own_FinH _ _ _ _ _ _ _ _ _ T81_ (mkF m 565 #[.val (.int p1), .val (.int p2), .val (.int p3), .val (.int p4), .val (.int p5), .val (.ref a1_), .val (.int nn), .val (.int po), .val (.int cc), .val (.int fl), .val (.ref b2_), .val (.ref b61_), .val (.ref bt), .unset] [(.ref b61_)])
          have q82_ : sb ≠ b61_ := Nat.ne_of_lt (Nat.lt_of_lt_of_le (Esb.ext Ol.2).lt (Nat.le_of_eq g61_.symm))
          have q83_ : sc ≠ b61_ := Nat.ne_of_lt (Nat.lt_of_lt_of_le (Esc.ext Ol.2).lt (Nat.le_of_eq g61_.symm))
          obtain ⟨_, _, ⟨T84_, L84_, k84_, n84_⟩, -, X84_, ⟨Lc84_, hQ84_, l84_, y84_, z84_⟩, st84_⟩ := Jvm.LawKit.callS X81_ hx (y := (⟨"com/example/lichen/lichen/webhook/EventType", "of", "(Ljava/lang/String;)Ljava/util/Optional;"⟩ : MethodName)) hown71_ (mvT hZ71_ (own_w hw 81 rfl)) (mvT hZ71_ (own_w hw 82 rfl)) (mvT hZ71_ (own_w hw 83 rfl)) (mvT hZ71_ (own_w hw 84 rfl)) (by decide) (backOf (W := 0) (own_rm_ofB l Z a0 hw [] b61_ cz ti kti cdi Ni vsi xs va kv bt ct sb tb ktb sc tc ktc em h71_ n0 (Nat.le_trans Zl (Nat.le_trans (Nat.le_trans E61_.1 K64_.1) E71_.1)) (((Ol.ext E61_).keep K64_ (allS g65_ all0)).ext E71_) S1 P5 Sv Se (r66_.ext E71_) (r67_.ext E71_) (r68_.ext E71_) (r70_.ext E71_) hci (by rw [hxl]; exact hn4) hxs Eva Vva Ebt Fbt Esb Fcsb Fvsb Vtb Ect Fct Esc Fcsc Fvsc Vtc Eem Fem q82_ q83_ (hre1.resolve_right fun q => hs1 q.1).2) hZ71_ (own_w hw 84 rfl) (own_w hw 83 rfl) (by decide) (by decide)) (g := (mkF m 565 #[.val (.int p1), .val (.int p2), .val (.int p3), .val (.int p4), .val (.int p5), .val (.ref a1_), .val (.int nn), .val (.int po), .val (.int cc), .val (.int fl), .val (.ref b2_), .val (.ref b61_), .val (.ref bt), .unset] [(.ref b61_)])) rfl (by rw [hml]; rfl) (argsL := [(.ref b61_)]) (rest := []) (lenOf own_pd22 rfl) rfl (by show 2 * 0 + _ ≤ _; exact Nat.le_of_eq rfl) (hb hby at_565) (fun _ _ => ⟨rfl, e81_, (by decide : (0 + 2 + 1) + 1 + 2 + 2 + 0 + 2 ≤ _), (by decide : (0 + (48 + 4) + 19) + 4 + 57 + (48 + 4) + 0 + 3 ≤ _)⟩)
          dsimp only [Pt.U, Pt.locs, Pt.cells, Pt.slots] at X84_ l84_ y84_ z84_ st84_ hQ84_
          subst l84_ y84_ z84_
          obtain ⟨oo, rfl, Nq84_, K84_, r85_, r86_⟩ := hQ84_
          have N84_ := Fr.app N80_ Nq84_
          refine own_viaH (fun _ kq => st84_ _ kq) ?_
          show own_FinH _ _ _ _ _ _ _ _ _ T84_ (mkF m 568 #[.val (.int p1), .val (.int p2), .val (.int p3), .val (.int p4), .val (.int p5), .val (.ref a1_), .val (.int nn), .val (.int po), .val (.int cc), .val (.int fl), .val (.ref b2_), .val (.ref b61_), .val (.ref bt), .unset] [(.ref oo)])
          refine own_viaH (fun _ kq => XS.astore X84_.here hx rfl (hb hby at_568) rfl rfl (l' := #[.val (.int p1), .val (.int p2), .val (.int p3), .val (.int p4), .val (.int p5), .val (.ref a1_), .val (.int nn), .val (.int po), .val (.int cc), .val (.int fl), .val (.ref b2_), .val (.ref b61_), .val (.ref bt), .val (.ref oo)]) rfl kq) ?_
          refine own_viaH (fun _ kq => XS.aload X84_.here hx rfl (hb hby at_570) rfl rfl kq) ?_
          refine own_viaH (fun _ kq => XS.ifnonnullYes X84_.here hx rfl (pc0 := 572) (pc' := 589) rfl (hb hby at_572) rfl (by decide) (by decide) kq) ?_
          show own_FinH _ _ _ _ _ _ _ _ _ T84_ (mkF m 589 #[.val (.int p1), .val (.int p2), .val (.int p3), .val (.int p4), .val (.int p5), .val (.ref a1_), .val (.int nn), .val (.int po), .val (.int cc), .val (.int fl), .val (.ref b2_), .val (.ref b61_), .val (.ref bt), .val (.ref oo)] [])
          refine own_viaH (fun _ kq => XS.aload X84_.here hx rfl (hb hby at_589) rfl rfl kq) ?_
          show own_FinH _ _ _ _ _ _ _ _ _ T84_ (mkF m 591 #[.val (.int p1), .val (.int p2), .val (.int p3), .val (.int p4), .val (.int p5), .val (.ref a1_), .val (.int nn), .val (.int po), .val (.int cc), .val (.int fl), .val (.ref b2_), .val (.ref b61_), .val (.ref bt), .val (.ref oo)] [(.ref oo)])
          obtain ⟨cq87_, kq87_, q87_a, q87_b, q87_c⟩ := isOf hZ71_ rfl r85_
          obtain ⟨_, _, ⟨T87_, L87_, k87_, n87_⟩, -, X87_, ⟨Lc87_, hQ87_, l87_, y87_, z87_⟩, st87_⟩ := X84_.virtualBack hx (y := (⟨"java/util/Optional", "isPresent", "()Z"⟩ : MethodName)) (z := (⟨"java/util/Optional", "isPresent", "()Z"⟩ : MethodName)) hown71_ (mvT hZ71_ (own_w hw 110 rfl)) (mvT hZ71_ (own_w hw 111 rfl)) (notFace_of_selects (args := #[]) (mvT hZ71_ (own_w hw 113 rfl))) (mvT hZ71_ (own_w hw 113 rfl)) (mvT hZ71_ (own_w hw 112 rfl)) (by decide) (backOf (W := 0) (own_rm_isP1 l Z a0 hw [] oo bt T84_.heap n0 (Nat.le_trans Zl (Nat.le_trans (Nat.le_trans (Nat.le_trans E61_.1 K64_.1) E71_.1) K84_.1)) r86_) hZ71_ (own_w hw 114 rfl) (own_w hw 107 rfl) (by decide) (by decide)) q87_a q87_c (g := (mkF m 591 #[.val (.int p1), .val (.int p2), .val (.int p3), .val (.int p4), .val (.int p5), .val (.ref a1_), .val (.int nn), .val (.int po), .val (.int cc), .val (.int fl), .val (.ref b2_), .val (.ref b61_), .val (.ref bt), .val (.ref oo)] [(.ref oo)])) rfl (by rw [hml]; rfl) (Steps.refl _) (argsL := []) (rest := []) (lenOf own_pd11 rfl) rfl (by show 2 * 0 + _ ≤ _; exact Nat.le_of_eq rfl) (hb hby at_591) (fun _ _ => ⟨rfl, rfl, (by decide : (0 + 2 + 1) + 1 + 2 + 2 + 0 + 2 + 0 ≤ _), (by decide : (0 + (48 + 4) + 19) + 4 + 57 + (48 + 4) + 0 + 3 + 0 ≤ _)⟩)
          dsimp only [Pt.U, Pt.locs, Pt.cells, Pt.slots] at X87_ l87_ y87_ z87_ st87_ hQ87_
          subst l87_ y87_ z87_
          obtain ⟨rfl, Nq87_, hh87_⟩ := hQ87_
          have N87_ := Fr.app N84_ Nq87_
          refine own_viaH (fun _ kq => st87_.trans kq) ?_
          show own_FinH _ _ _ _ _ _ _ _ _ T87_ (mkF m 594 #[.val (.int p1), .val (.int p2), .val (.int p3), .val (.int p4), .val (.int p5), .val (.ref a1_), .val (.int nn), .val (.int po), .val (.int cc), .val (.int fl), .val (.ref b2_), .val (.ref b61_), .val (.ref bt), .val (.ref oo)] [(.int (1 : Int32))])
          refine own_viaH (fun _ kq => XS.ifNo X87_.here hx rfl (hb hby at_594) rfl ((if0 _ _).trans (feq (by decide)).1) kq) ?_
          show own_FinH _ _ _ _ _ _ _ _ _ T87_ (mkF m 597 #[.val (.int p1), .val (.int p2), .val (.int p3), .val (.int p4), .val (.int p5), .val (.ref a1_), .val (.int nn), .val (.int po), .val (.int cc), .val (.int fl), .val (.ref b2_), .val (.ref b61_), .val (.ref bt), .val (.ref oo)] [])
          refine own_viaH (fun _ kq => XS.aload X87_.here hx rfl (hb hby at_597) rfl rfl kq) ?_
          show own_FinH _ _ _ _ _ _ _ _ _ T87_ (mkF m 599 #[.val (.int p1), .val (.int p2), .val (.int p3), .val (.int p4), .val (.int p5), .val (.ref a1_), .val (.int nn), .val (.int po), .val (.int cc), .val (.int fl), .val (.ref b2_), .val (.ref b61_), .val (.ref bt), .val (.ref oo)] [(.ref oo)])
          obtain ⟨cq88_, kq88_, q88_a, q88_b, q88_c⟩ := isOf hZ71_ hh87_ r85_
          obtain ⟨_, _, ⟨T88_, L88_, k88_, n88_⟩, -, X88_, ⟨Lc88_, hQ88_, l88_, y88_, z88_⟩, st88_⟩ := X87_.virtualBack hx (y := (⟨"java/util/Optional", "get", "()Ljava/lang/Object;"⟩ : MethodName)) (z := (⟨"java/util/Optional", "get", "()Ljava/lang/Object;"⟩ : MethodName)) hown71_ (mvT hZ71_ (own_w hw 152 rfl)) (mvT hZ71_ (own_w hw 153 rfl)) (notFace_of_selects (args := #[]) (mvT hZ71_ (own_w hw 155 rfl))) (mvT hZ71_ (own_w hw 155 rfl)) (mvT hZ71_ (own_w hw 154 rfl)) (by decide) (backOf (W := 0) (own_rm_optG l Z a0 hw [] oo bt T84_.heap n0 (Nat.le_trans Zl (Nat.le_trans (Nat.le_trans (Nat.le_trans E61_.1 K64_.1) E71_.1) K84_.1)) r86_) hZ71_ (own_w hw 156 rfl) (own_w hw 107 rfl) (by decide) (by decide)) q88_a q88_c (g := (mkF m 599 #[.val (.int p1), .val (.int p2), .val (.int p3), .val (.int p4), .val (.int p5), .val (.ref a1_), .val (.int nn), .val (.int po), .val (.int cc), .val (.int fl), .val (.ref b2_), .val (.ref b61_), .val (.ref bt), .val (.ref oo)] [(.ref oo)])) rfl (by rw [hml]; rfl) (Steps.refl _) (argsL := []) (rest := []) (lenOf own_pd23 rfl) rfl (by show 2 * 0 + _ ≤ _; exact Nat.le_of_eq rfl) (hb hby at_599) (fun _ _ => ⟨rfl, hh87_, (by decide : (0 + 2 + 1) + 1 + 2 + 2 + 0 + 2 + 0 + 0 ≤ _), (by decide : (0 + (48 + 4) + 19) + 4 + 57 + (48 + 4) + 0 + 3 + 0 + 0 ≤ _)⟩)
          dsimp only [Pt.U, Pt.locs, Pt.cells, Pt.slots] at X88_ l88_ y88_ z88_ st88_ hQ88_
          subst l88_ y88_ z88_
          obtain ⟨rfl, Nq88_, hh88_⟩ := hQ88_
          have N88_ := Fr.app N87_ Nq88_
          refine own_viaH (fun _ kq => st88_.trans kq) ?_
          show own_FinH _ _ _ _ _ _ _ _ _ T88_ (mkF m 602 #[.val (.int p1), .val (.int p2), .val (.int p3), .val (.int p4), .val (.int p5), .val (.ref a1_), .val (.int nn), .val (.int po), .val (.int cc), .val (.int fl), .val (.ref b2_), .val (.ref b61_), .val (.ref bt), .val (.ref oo)] [(.ref bt)])
          refine own_viaH (fun _ kq => XS.aload X88_.here hx rfl (hb hby at_602) rfl rfl kq) ?_
          show own_FinH _ _ _ _ _ _ _ _ _ T88_ (mkF m 604 #[.val (.int p1), .val (.int p2), .val (.int p3), .val (.int p4), .val (.int p5), .val (.ref a1_), .val (.int nn), .val (.int po), .val (.int cc), .val (.int fl), .val (.ref b2_), .val (.ref b61_), .val (.ref bt), .val (.ref oo)] [(.ref bt), (.ref bt)])
          refine own_viaH (fun _ kq => Jvm.RoadKit.acmp (g := (mkF m 604 #[.val (.int p1), .val (.int p2), .val (.int p3), .val (.int p4), .val (.int p5), .val (.ref a1_), .val (.int nn), .val (.int po), .val (.int cc), .val (.int fl), .val (.ref b2_), .val (.ref b61_), .val (.ref bt), .val (.ref oo)] [(.ref bt), (.ref bt)])) X88_ hx rfl rfl rfl (pc0 := 604) (pc' := 607) (same := true) rfl (hb hby at_604) rfl (decide_eq_true rfl) (by decide) (by decide) kq) ?_
          show own_FinH _ _ _ _ _ _ _ _ _ T88_ (mkF m 607 #[.val (.int p1), .val (.int p2), .val (.int p3), .val (.int p4), .val (.int p5), .val (.ref a1_), .val (.int nn), .val (.int po), .val (.int cc), .val (.int fl), .val (.ref b2_), .val (.ref b61_), .val (.ref bt), .val (.ref oo)] [])
          refine own_viaH (fun _ kq => XS.iconst X88_.here hx rfl (hb hby at_607) kq) ?_
          refine own_viaH (fun _ kq => XS.goto X88_.here hx rfl (pc0 := 608) (pc' := 612) rfl (hb hby at_608) (by decide) (by decide) kq) ?_
          show own_FinH _ _ _ _ _ _ _ _ _ T88_ (mkF m 612 #[.val (.int p1), .val (.int p2), .val (.int p3), .val (.int p4), .val (.int p5), .val (.ref a1_), .val (.int nn), .val (.int po), .val (.int cc), .val (.int fl), .val (.ref b2_), .val (.ref b61_), .val (.ref bt), .val (.ref oo)] [(.int (1 : Int32))])
          have C89_ := C73_.trans Cq71_
          have H89_ := C89_.1
          have C90_ := C89_.trans (CHr.keep K84_ sf0 H89_)
          have H90_ := C90_.1
          exact own_retNH X88_ hx (t := .boolean) Bd.returns Bd.notSynchronized (own_ew hw) hZ71_ hS71_ (Nat.le_trans hk71_ K84_.1) hh C90_ (by simp) (hb hby at_612) hh88_ rfl ⟨rfl, N88_⟩ (by decide) (by decide)
     have s491 : ∀ (xs : List Int32) (Tl : State) (locl : List Loc) (Xl : Stand p l e room_1 (s.setVm T1_.vm) m #[(.int p1), (.int p2), (.int p3), (.int p4), (.int p5)] below meth cde Tl locl (0 + 2 + 1) (0 + (48 + 4) + 19)) (Nl : Fr n0 locl) (hl : Heap) (el : Tl.heap = hl) (hkl : h2_.size ≤ hl.size) (Cl : CHr Z own_EL s.vm h0 T1_.vm hl) (Ol : Old Z n0 hl) (Ex : Exa Z hl a1_ "java/lang/String") (Fx : Fld Z hl a1_ "java/lang/String" "coder" "B" (.int (0 : Int32))) (Fy : Fld Z hl a1_ "java/lang/String" "value" "[B" (.ref b1_)) (Vx : Arv Z hl b1_ kb1_ .byte (12 : Int32) own_v1 (.int 0)) (Vl : Arv Z hl b2_ k2_ .char nn (xs.map Value.int) (.int 0)) (hxl : xs.length = n) (hxs : own_chs xs), own_FinH p e s below Z own_EL (own_Q_law Z p1 p2 p3 p4 p5 cz fm va kv bt ct sb tb ktb sc tc ktc em h0 n0) room_1.cells room_1.slots Tl (mkF m 491 #[.val (.int p1), .val (.int p2), .val (.int p3), .val (.int p4), .val (.int p5), .val (.ref a1_), .val (.int nn), .val (.int po), .val (.int cc), .val (.int fl), .val (.ref b2_), .unset, .unset, .unset] []) := by
      intro xs Tl locl Xl Nl hl el hkl Cl Ol Ex Fx Fy Vx Vl hxl hxs
      have Zl : n0 ≤ hl.size := Nat.le_trans Z0 Cl.2.1
      refine own_viaH (fun _ kq => XS.iload Xl.here hx rfl (hb hby at_491) rfl kq) ?_
      refine own_viaH (fun _ kq => XS.bipush Xl.here hx rfl (hb hby at_493) kq) ?_
      rcases Classical.em ((18 : Int32) < nn) with hg | hg
      · refine own_viaH (fun _ kq => XS.icmpNo Xl.here hx rfl (hb hby at_495) rfl (tlt hg).2.2.2 kq) ?_
        show own_FinH _ _ _ _ _ _ _ _ _ Tl (mkF m 498 #[.val (.int p1), .val (.int p2), .val (.int p3), .val (.int p4), .val (.int p5), .val (.ref a1_), .val (.int nn), .val (.int po), .val (.int cc), .val (.int fl), .val (.ref b2_), .unset, .unset, .unset] [])
        have hlt : 18 < n := own_kn (i := 18) rfl hN (by decide) hn4 hg
        refine own_viaH (fun _ kq => XS.aload Xl.here hx rfl (hb hby at_498) rfl rfl kq) ?_
        refine own_viaH (fun _ kq => XS.bipush Xl.here hx rfl (hb hby at_500) kq) ?_
        refine own_viaH (fun _ kq => XS.aload Xl.here hx rfl (hb hby at_502) rfl rfl kq) ?_
        refine own_viaH (fun _ kq => XS.bipush Xl.here hx rfl (hb hby at_504) kq) ?_
        refine own_viaH (fun _ kq => XS.iload Xl.here hx rfl (hb hby at_506) rfl kq) ?_
        refine own_viaH (fun _ kq => XS.iload Xl.here hx rfl (hb hby at_508) rfl kq) ?_
        show own_FinH _ _ _ _ _ _ _ _ _ Tl (mkF m 510 #[.val (.int p1), .val (.int p2), .val (.int p3), .val (.int p4), .val (.int p5), .val (.ref a1_), .val (.int nn), .val (.int po), .val (.int cc), .val (.int fl), .val (.ref b2_), .unset, .unset, .unset] [(.int cc), (.int po), (.int (18 : Int32)), (.ref a1_), (.int (18 : Int32)), (.ref b2_)])
        refine own_viaH (fun _ kq => XS.iload Xl.here hx rfl (hb hby at_510) rfl kq) ?_
        show own_FinH _ _ _ _ _ _ _ _ _ Tl (mkF m 512 #[.val (.int p1), .val (.int p2), .val (.int p3), .val (.int p4), .val (.int p5), .val (.ref a1_), .val (.int nn), .val (.int po), .val (.int cc), .val (.int fl), .val (.ref b2_), .unset, .unset, .unset] [(.int fl), (.int cc), (.int po), (.int (18 : Int32)), (.ref a1_), (.int (18 : Int32)), (.ref b2_)])
        obtain ⟨_, _, ⟨T118_, L118_, k118_, n118_⟩, -, X118_, ⟨Lc118_, hQ118_, l118_, y118_, z118_⟩, st118_⟩ := Jvm.LawKit.callS Xl hx (y := (⟨"com/example/lichen/lichen/webhook/EventTypeOfPinLaw", "pick", "(Ljava/lang/String;IICZ)C"⟩ : MethodName)) hown1_ (mvT hZ1_ (own_w hw 11 rfl)) (mvT hZ1_ (own_w hw 12 rfl)) (mvT hZ1_ (own_w hw 13 rfl)) (mvT hZ1_ (own_w hw 14 rfl)) (by decide) (backOf (W := 2) (own_rm_pick l Z a0 hw [] a1_ cz b1_ kb1_ (12 : Int32) own_v1 own_t1 fm (18 : Int32) 18 po cc fl hl n0 Zl Ol S1 P5 S2 r_fm Ex Fx Fy Vx own_lita1 (by decide) own_litr1 rfl (by decide) hcc) hZ1_ (own_w hw 14 rfl) (own_w hw 13 rfl) (by decide) (by decide)) (g := (mkF m 512 #[.val (.int p1), .val (.int p2), .val (.int p3), .val (.int p4), .val (.int p5), .val (.ref a1_), .val (.int nn), .val (.int po), .val (.int cc), .val (.int fl), .val (.ref b2_), .unset, .unset, .unset] [(.int fl), (.int cc), (.int po), (.int (18 : Int32)), (.ref a1_), (.int (18 : Int32)), (.ref b2_)])) rfl (by rw [hml]; rfl) (argsL := [(.ref a1_), (.int (18 : Int32)), (.int po), (.int cc), (.int fl)]) (rest := [(.int (18 : Int32)), (.ref b2_)]) (lenOf own_pd24 rfl) rfl (by show 2 * 0 + _ ≤ _; exact Nat.le_of_eq rfl) (hb hby at_512) (fun _ _ => ⟨rfl, el, (by decide : (0 + 2 + 1) + 0 ≤ _), (by decide : (0 + (48 + 4) + 19) + 0 ≤ _)⟩)
        dsimp only [Pt.U, Pt.locs, Pt.cells, Pt.slots] at X118_ l118_ y118_ z118_ st118_ hQ118_
        subst l118_ y118_ z118_
        obtain ⟨rk, rfl, Nq118_, hh118_, hrk⟩ := hQ118_
        have N118_ := Fr.app Nl Nq118_
        refine own_viaH (fun _ kq => st118_ _ kq) ?_
        show own_FinH _ _ _ _ _ _ _ _ _ T118_ (mkF m 515 #[.val (.int p1), .val (.int p2), .val (.int p3), .val (.int p4), .val (.int p5), .val (.ref a1_), .val (.int nn), .val (.int po), .val (.int cc), .val (.int fl), .val (.ref b2_), .unset, .unset, .unset] [(.int rk), (.int (18 : Int32)), (.ref b2_)])
        obtain ⟨c119_, Ar119_, q119_, S119_, M119_, H119_, G119_⟩ := (id Vl)
        have hin119_ : ¬ ((18 : Int32) < 0 ∨ c119_.slots.size ≤ ((18 : Int32)).toNatClampNeg) := inb_of S119_ (own_inb (i := 18) rfl hN hlt hn10)
        obtain ⟨T119_, h119_, X119_, e119_, W119_, st119_⟩ := stC X118_ hx hZ1_ hh118_ Ar119_ (j := (18 : Int32)) hin119_ (g := (mkF m 515 #[.val (.int p1), .val (.int p2), .val (.int p3), .val (.int p4), .val (.int p5), .val (.ref a1_), .val (.int nn), .val (.int po), .val (.int cc), .val (.int fl), .val (.ref b2_), .unset, .unset, .unset] [(.int rk), (.int (18 : Int32)), (.ref b2_)])) rfl rfl (hb hby at_515)
        have V119_ := Arv.set Ar119_ q119_ S119_ M119_ H119_ G119_ (fits_nar_char _) W119_ 18 (own_clamp (i := 18) rfl (by decide)) (by rw [List.length_map, hxl]; exact hlt)
        have U119_ : Arv Z h119_ b2_ k2_ .char nn (((xs.map Value.int)).set 18 (.int rk)) (.int 0) := by
          have hq := V119_
          rw [show nar .char rk = rk from (own_narch hrk)] at hq
          exact hq
        have N119_ := Fr.snoc X119_ N118_ g5_
        refine own_viaH (fun _ kq => st119_ _ kq) ?_
        show own_FinH _ _ _ _ _ _ _ _ _ T119_ (mkF m 516 #[.val (.int p1), .val (.int p2), .val (.int p3), .val (.int p4), .val (.int p5), .val (.ref a1_), .val (.int nn), .val (.int po), .val (.int cc), .val (.int fl), .val (.ref b2_), .unset, .unset, .unset] [])
        have Vz : Arv Z h119_ b2_ k2_ .char nn ((xs.set 18 rk).map Value.int) (.int 0) := by rw [List.map_set]; exact U119_
        have sf121_ : Safe Z own_EL T1_.vm hl b2_ := Safe.arv hZ1_.alike Vl (by decide)
        have C120_ := Cl.trans (CHr.wr W119_ sf121_ Cl.1)
        have H120_ := C120_.1
        exact s516 (xs.set 18 rk) T119_ _ X119_ N119_ _ e119_ (Nat.le_trans hkl (Keep.of_wr W119_).1) C120_ (Ol.wr W119_ g5_) Vz (by rw [List.length_set]; exact hxl) (own_chs_set hxs hrk)
      · refine own_viaH (fun _ kq => XS.icmpYes Xl.here hx rfl (pc0 := 495) (pc' := 516) rfl (hb hby at_495) rfl (flt hg).2.2.2 (by decide) (by decide) kq) ?_
        show own_FinH _ _ _ _ _ _ _ _ _ Tl (mkF m 516 #[.val (.int p1), .val (.int p2), .val (.int p3), .val (.int p4), .val (.int p5), .val (.ref a1_), .val (.int nn), .val (.int po), .val (.int cc), .val (.int fl), .val (.ref b2_), .unset, .unset, .unset] [])
        exact s516 xs Tl _ Xl Nl _ el hkl Cl Ol Vl (by assumption) (by assumption)
     have s466 : ∀ (xs : List Int32) (Tl : State) (locl : List Loc) (Xl : Stand p l e room_1 (s.setVm T1_.vm) m #[(.int p1), (.int p2), (.int p3), (.int p4), (.int p5)] below meth cde Tl locl (0 + 2 + 1) (0 + (48 + 4) + 19)) (Nl : Fr n0 locl) (hl : Heap) (el : Tl.heap = hl) (hkl : h2_.size ≤ hl.size) (Cl : CHr Z own_EL s.vm h0 T1_.vm hl) (Ol : Old Z n0 hl) (Ex : Exa Z hl a1_ "java/lang/String") (Fx : Fld Z hl a1_ "java/lang/String" "coder" "B" (.int (0 : Int32))) (Fy : Fld Z hl a1_ "java/lang/String" "value" "[B" (.ref b1_)) (Vx : Arv Z hl b1_ kb1_ .byte (12 : Int32) own_v1 (.int 0)) (Vl : Arv Z hl b2_ k2_ .char nn (xs.map Value.int) (.int 0)) (hxl : xs.length = n) (hxs : own_chs xs), own_FinH p e s below Z own_EL (own_Q_law Z p1 p2 p3 p4 p5 cz fm va kv bt ct sb tb ktb sc tc ktc em h0 n0) room_1.cells room_1.slots Tl (mkF m 466 #[.val (.int p1), .val (.int p2), .val (.int p3), .val (.int p4), .val (.int p5), .val (.ref a1_), .val (.int nn), .val (.int po), .val (.int cc), .val (.int fl), .val (.ref b2_), .unset, .unset, .unset] []) := by
      intro xs Tl locl Xl Nl hl el hkl Cl Ol Ex Fx Fy Vx Vl hxl hxs
      have Zl : n0 ≤ hl.size := Nat.le_trans Z0 Cl.2.1
      refine own_viaH (fun _ kq => XS.iload Xl.here hx rfl (hb hby at_466) rfl kq) ?_
      refine own_viaH (fun _ kq => XS.bipush Xl.here hx rfl (hb hby at_468) kq) ?_
      rcases Classical.em ((17 : Int32) < nn) with hg | hg
      · refine own_viaH (fun _ kq => XS.icmpNo Xl.here hx rfl (hb hby at_470) rfl (tlt hg).2.2.2 kq) ?_
        show own_FinH _ _ _ _ _ _ _ _ _ Tl (mkF m 473 #[.val (.int p1), .val (.int p2), .val (.int p3), .val (.int p4), .val (.int p5), .val (.ref a1_), .val (.int nn), .val (.int po), .val (.int cc), .val (.int fl), .val (.ref b2_), .unset, .unset, .unset] [])
        have hlt : 17 < n := own_kn (i := 17) rfl hN (by decide) hn4 hg
        refine own_viaH (fun _ kq => XS.aload Xl.here hx rfl (hb hby at_473) rfl rfl kq) ?_
        refine own_viaH (fun _ kq => XS.bipush Xl.here hx rfl (hb hby at_475) kq) ?_
        refine own_viaH (fun _ kq => XS.aload Xl.here hx rfl (hb hby at_477) rfl rfl kq) ?_
        refine own_viaH (fun _ kq => XS.bipush Xl.here hx rfl (hb hby at_479) kq) ?_
        refine own_viaH (fun _ kq => XS.iload Xl.here hx rfl (hb hby at_481) rfl kq) ?_
        refine own_viaH (fun _ kq => XS.iload Xl.here hx rfl (hb hby at_483) rfl kq) ?_
        show own_FinH _ _ _ _ _ _ _ _ _ Tl (mkF m 485 #[.val (.int p1), .val (.int p2), .val (.int p3), .val (.int p4), .val (.int p5), .val (.ref a1_), .val (.int nn), .val (.int po), .val (.int cc), .val (.int fl), .val (.ref b2_), .unset, .unset, .unset] [(.int cc), (.int po), (.int (17 : Int32)), (.ref a1_), (.int (17 : Int32)), (.ref b2_)])
        refine own_viaH (fun _ kq => XS.iload Xl.here hx rfl (hb hby at_485) rfl kq) ?_
        show own_FinH _ _ _ _ _ _ _ _ _ Tl (mkF m 487 #[.val (.int p1), .val (.int p2), .val (.int p3), .val (.int p4), .val (.int p5), .val (.ref a1_), .val (.int nn), .val (.int po), .val (.int cc), .val (.int fl), .val (.ref b2_), .unset, .unset, .unset] [(.int fl), (.int cc), (.int po), (.int (17 : Int32)), (.ref a1_), (.int (17 : Int32)), (.ref b2_)])
        obtain ⟨_, _, ⟨T122_, L122_, k122_, n122_⟩, -, X122_, ⟨Lc122_, hQ122_, l122_, y122_, z122_⟩, st122_⟩ := Jvm.LawKit.callS Xl hx (y := (⟨"com/example/lichen/lichen/webhook/EventTypeOfPinLaw", "pick", "(Ljava/lang/String;IICZ)C"⟩ : MethodName)) hown1_ (mvT hZ1_ (own_w hw 11 rfl)) (mvT hZ1_ (own_w hw 12 rfl)) (mvT hZ1_ (own_w hw 13 rfl)) (mvT hZ1_ (own_w hw 14 rfl)) (by decide) (backOf (W := 2) (own_rm_pick l Z a0 hw [] a1_ cz b1_ kb1_ (12 : Int32) own_v1 own_t1 fm (17 : Int32) 17 po cc fl hl n0 Zl Ol S1 P5 S2 r_fm Ex Fx Fy Vx own_lita1 (by decide) own_litr1 rfl (by decide) hcc) hZ1_ (own_w hw 14 rfl) (own_w hw 13 rfl) (by decide) (by decide)) (g := (mkF m 487 #[.val (.int p1), .val (.int p2), .val (.int p3), .val (.int p4), .val (.int p5), .val (.ref a1_), .val (.int nn), .val (.int po), .val (.int cc), .val (.int fl), .val (.ref b2_), .unset, .unset, .unset] [(.int fl), (.int cc), (.int po), (.int (17 : Int32)), (.ref a1_), (.int (17 : Int32)), (.ref b2_)])) rfl (by rw [hml]; rfl) (argsL := [(.ref a1_), (.int (17 : Int32)), (.int po), (.int cc), (.int fl)]) (rest := [(.int (17 : Int32)), (.ref b2_)]) (lenOf own_pd24 rfl) rfl (by show 2 * 0 + _ ≤ _; exact Nat.le_of_eq rfl) (hb hby at_487) (fun _ _ => ⟨rfl, el, (by decide : (0 + 2 + 1) + 0 ≤ _), (by decide : (0 + (48 + 4) + 19) + 0 ≤ _)⟩)
        dsimp only [Pt.U, Pt.locs, Pt.cells, Pt.slots] at X122_ l122_ y122_ z122_ st122_ hQ122_
        subst l122_ y122_ z122_
        obtain ⟨rk, rfl, Nq122_, hh122_, hrk⟩ := hQ122_
        have N122_ := Fr.app Nl Nq122_
        refine own_viaH (fun _ kq => st122_ _ kq) ?_
        show own_FinH _ _ _ _ _ _ _ _ _ T122_ (mkF m 490 #[.val (.int p1), .val (.int p2), .val (.int p3), .val (.int p4), .val (.int p5), .val (.ref a1_), .val (.int nn), .val (.int po), .val (.int cc), .val (.int fl), .val (.ref b2_), .unset, .unset, .unset] [(.int rk), (.int (17 : Int32)), (.ref b2_)])
        obtain ⟨c123_, Ar123_, q123_, S123_, M123_, H123_, G123_⟩ := (id Vl)
        have hin123_ : ¬ ((17 : Int32) < 0 ∨ c123_.slots.size ≤ ((17 : Int32)).toNatClampNeg) := inb_of S123_ (own_inb (i := 17) rfl hN hlt hn10)
        obtain ⟨T123_, h123_, X123_, e123_, W123_, st123_⟩ := stC X122_ hx hZ1_ hh122_ Ar123_ (j := (17 : Int32)) hin123_ (g := (mkF m 490 #[.val (.int p1), .val (.int p2), .val (.int p3), .val (.int p4), .val (.int p5), .val (.ref a1_), .val (.int nn), .val (.int po), .val (.int cc), .val (.int fl), .val (.ref b2_), .unset, .unset, .unset] [(.int rk), (.int (17 : Int32)), (.ref b2_)])) rfl rfl (hb hby at_490)
        have V123_ := Arv.set Ar123_ q123_ S123_ M123_ H123_ G123_ (fits_nar_char _) W123_ 17 (own_clamp (i := 17) rfl (by decide)) (by rw [List.length_map, hxl]; exact hlt)
        have U123_ : Arv Z h123_ b2_ k2_ .char nn (((xs.map Value.int)).set 17 (.int rk)) (.int 0) := by
          have hq := V123_
          rw [show nar .char rk = rk from (own_narch hrk)] at hq
          exact hq
        have N123_ := Fr.snoc X123_ N122_ g5_
        refine own_viaH (fun _ kq => st123_ _ kq) ?_
        show own_FinH _ _ _ _ _ _ _ _ _ T123_ (mkF m 491 #[.val (.int p1), .val (.int p2), .val (.int p3), .val (.int p4), .val (.int p5), .val (.ref a1_), .val (.int nn), .val (.int po), .val (.int cc), .val (.int fl), .val (.ref b2_), .unset, .unset, .unset] [])
        have Vz : Arv Z h123_ b2_ k2_ .char nn ((xs.set 17 rk).map Value.int) (.int 0) := by rw [List.map_set]; exact U123_
        have sf125_ : Safe Z own_EL T1_.vm hl b2_ := Safe.arv hZ1_.alike Vl (by decide)
        have C124_ := Cl.trans (CHr.wr W123_ sf125_ Cl.1)
        have H124_ := C124_.1
        exact s491 (xs.set 17 rk) T123_ _ X123_ N123_ _ e123_ (Nat.le_trans hkl (Keep.of_wr W123_).1) C124_ (Ol.wr W123_ g5_) (Ex.wr W123_) (Fx.other W123_ (Or.inl q3_)) (Fy.other W123_ (Or.inl q3_)) (Vx.other W123_ q4_) Vz (by rw [List.length_set]; exact hxl) (own_chs_set hxs hrk)
      · refine own_viaH (fun _ kq => XS.icmpYes Xl.here hx rfl (pc0 := 470) (pc' := 491) rfl (hb hby at_470) rfl (flt hg).2.2.2 (by decide) (by decide) kq) ?_
        show own_FinH _ _ _ _ _ _ _ _ _ Tl (mkF m 491 #[.val (.int p1), .val (.int p2), .val (.int p3), .val (.int p4), .val (.int p5), .val (.ref a1_), .val (.int nn), .val (.int po), .val (.int cc), .val (.int fl), .val (.ref b2_), .unset, .unset, .unset] [])
        exact s491 xs Tl _ Xl Nl _ el hkl Cl Ol Ex Fx Fy Vx Vl (by assumption) (by assumption)
     have s441 : ∀ (xs : List Int32) (Tl : State) (locl : List Loc) (Xl : Stand p l e room_1 (s.setVm T1_.vm) m #[(.int p1), (.int p2), (.int p3), (.int p4), (.int p5)] below meth cde Tl locl (0 + 2 + 1) (0 + (48 + 4) + 19)) (Nl : Fr n0 locl) (hl : Heap) (el : Tl.heap = hl) (hkl : h2_.size ≤ hl.size) (Cl : CHr Z own_EL s.vm h0 T1_.vm hl) (Ol : Old Z n0 hl) (Ex : Exa Z hl a1_ "java/lang/String") (Fx : Fld Z hl a1_ "java/lang/String" "coder" "B" (.int (0 : Int32))) (Fy : Fld Z hl a1_ "java/lang/String" "value" "[B" (.ref b1_)) (Vx : Arv Z hl b1_ kb1_ .byte (12 : Int32) own_v1 (.int 0)) (Vl : Arv Z hl b2_ k2_ .char nn (xs.map Value.int) (.int 0)) (hxl : xs.length = n) (hxs : own_chs xs), own_FinH p e s below Z own_EL (own_Q_law Z p1 p2 p3 p4 p5 cz fm va kv bt ct sb tb ktb sc tc ktc em h0 n0) room_1.cells room_1.slots Tl (mkF m 441 #[.val (.int p1), .val (.int p2), .val (.int p3), .val (.int p4), .val (.int p5), .val (.ref a1_), .val (.int nn), .val (.int po), .val (.int cc), .val (.int fl), .val (.ref b2_), .unset, .unset, .unset] []) := by
      intro xs Tl locl Xl Nl hl el hkl Cl Ol Ex Fx Fy Vx Vl hxl hxs
      have Zl : n0 ≤ hl.size := Nat.le_trans Z0 Cl.2.1
      refine own_viaH (fun _ kq => XS.iload Xl.here hx rfl (hb hby at_441) rfl kq) ?_
      refine own_viaH (fun _ kq => XS.bipush Xl.here hx rfl (hb hby at_443) kq) ?_
      rcases Classical.em ((16 : Int32) < nn) with hg | hg
      · refine own_viaH (fun _ kq => XS.icmpNo Xl.here hx rfl (hb hby at_445) rfl (tlt hg).2.2.2 kq) ?_
        show own_FinH _ _ _ _ _ _ _ _ _ Tl (mkF m 448 #[.val (.int p1), .val (.int p2), .val (.int p3), .val (.int p4), .val (.int p5), .val (.ref a1_), .val (.int nn), .val (.int po), .val (.int cc), .val (.int fl), .val (.ref b2_), .unset, .unset, .unset] [])
        have hlt : 16 < n := own_kn (i := 16) rfl hN (by decide) hn4 hg
        refine own_viaH (fun _ kq => XS.aload Xl.here hx rfl (hb hby at_448) rfl rfl kq) ?_
        refine own_viaH (fun _ kq => XS.bipush Xl.here hx rfl (hb hby at_450) kq) ?_
        refine own_viaH (fun _ kq => XS.aload Xl.here hx rfl (hb hby at_452) rfl rfl kq) ?_
        refine own_viaH (fun _ kq => XS.bipush Xl.here hx rfl (hb hby at_454) kq) ?_
        refine own_viaH (fun _ kq => XS.iload Xl.here hx rfl (hb hby at_456) rfl kq) ?_
        refine own_viaH (fun _ kq => XS.iload Xl.here hx rfl (hb hby at_458) rfl kq) ?_
        show own_FinH _ _ _ _ _ _ _ _ _ Tl (mkF m 460 #[.val (.int p1), .val (.int p2), .val (.int p3), .val (.int p4), .val (.int p5), .val (.ref a1_), .val (.int nn), .val (.int po), .val (.int cc), .val (.int fl), .val (.ref b2_), .unset, .unset, .unset] [(.int cc), (.int po), (.int (16 : Int32)), (.ref a1_), (.int (16 : Int32)), (.ref b2_)])
        refine own_viaH (fun _ kq => XS.iload Xl.here hx rfl (hb hby at_460) rfl kq) ?_
        show own_FinH _ _ _ _ _ _ _ _ _ Tl (mkF m 462 #[.val (.int p1), .val (.int p2), .val (.int p3), .val (.int p4), .val (.int p5), .val (.ref a1_), .val (.int nn), .val (.int po), .val (.int cc), .val (.int fl), .val (.ref b2_), .unset, .unset, .unset] [(.int fl), (.int cc), (.int po), (.int (16 : Int32)), (.ref a1_), (.int (16 : Int32)), (.ref b2_)])
        obtain ⟨_, _, ⟨T126_, L126_, k126_, n126_⟩, -, X126_, ⟨Lc126_, hQ126_, l126_, y126_, z126_⟩, st126_⟩ := Jvm.LawKit.callS Xl hx (y := (⟨"com/example/lichen/lichen/webhook/EventTypeOfPinLaw", "pick", "(Ljava/lang/String;IICZ)C"⟩ : MethodName)) hown1_ (mvT hZ1_ (own_w hw 11 rfl)) (mvT hZ1_ (own_w hw 12 rfl)) (mvT hZ1_ (own_w hw 13 rfl)) (mvT hZ1_ (own_w hw 14 rfl)) (by decide) (backOf (W := 2) (own_rm_pick l Z a0 hw [] a1_ cz b1_ kb1_ (12 : Int32) own_v1 own_t1 fm (16 : Int32) 16 po cc fl hl n0 Zl Ol S1 P5 S2 r_fm Ex Fx Fy Vx own_lita1 (by decide) own_litr1 rfl (by decide) hcc) hZ1_ (own_w hw 14 rfl) (own_w hw 13 rfl) (by decide) (by decide)) (g := (mkF m 462 #[.val (.int p1), .val (.int p2), .val (.int p3), .val (.int p4), .val (.int p5), .val (.ref a1_), .val (.int nn), .val (.int po), .val (.int cc), .val (.int fl), .val (.ref b2_), .unset, .unset, .unset] [(.int fl), (.int cc), (.int po), (.int (16 : Int32)), (.ref a1_), (.int (16 : Int32)), (.ref b2_)])) rfl (by rw [hml]; rfl) (argsL := [(.ref a1_), (.int (16 : Int32)), (.int po), (.int cc), (.int fl)]) (rest := [(.int (16 : Int32)), (.ref b2_)]) (lenOf own_pd24 rfl) rfl (by show 2 * 0 + _ ≤ _; exact Nat.le_of_eq rfl) (hb hby at_462) (fun _ _ => ⟨rfl, el, (by decide : (0 + 2 + 1) + 0 ≤ _), (by decide : (0 + (48 + 4) + 19) + 0 ≤ _)⟩)
        dsimp only [Pt.U, Pt.locs, Pt.cells, Pt.slots] at X126_ l126_ y126_ z126_ st126_ hQ126_
        subst l126_ y126_ z126_
        obtain ⟨rk, rfl, Nq126_, hh126_, hrk⟩ := hQ126_
        have N126_ := Fr.app Nl Nq126_
        refine own_viaH (fun _ kq => st126_ _ kq) ?_
        show own_FinH _ _ _ _ _ _ _ _ _ T126_ (mkF m 465 #[.val (.int p1), .val (.int p2), .val (.int p3), .val (.int p4), .val (.int p5), .val (.ref a1_), .val (.int nn), .val (.int po), .val (.int cc), .val (.int fl), .val (.ref b2_), .unset, .unset, .unset] [(.int rk), (.int (16 : Int32)), (.ref b2_)])
        obtain ⟨c127_, Ar127_, q127_, S127_, M127_, H127_, G127_⟩ := (id Vl)
        have hin127_ : ¬ ((16 : Int32) < 0 ∨ c127_.slots.size ≤ ((16 : Int32)).toNatClampNeg) := inb_of S127_ (own_inb (i := 16) rfl hN hlt hn10)
        obtain ⟨T127_, h127_, X127_, e127_, W127_, st127_⟩ := stC X126_ hx hZ1_ hh126_ Ar127_ (j := (16 : Int32)) hin127_ (g := (mkF m 465 #[.val (.int p1), .val (.int p2), .val (.int p3), .val (.int p4), .val (.int p5), .val (.ref a1_), .val (.int nn), .val (.int po), .val (.int cc), .val (.int fl), .val (.ref b2_), .unset, .unset, .unset] [(.int rk), (.int (16 : Int32)), (.ref b2_)])) rfl rfl (hb hby at_465)
        have V127_ := Arv.set Ar127_ q127_ S127_ M127_ H127_ G127_ (fits_nar_char _) W127_ 16 (own_clamp (i := 16) rfl (by decide)) (by rw [List.length_map, hxl]; exact hlt)
        have U127_ : Arv Z h127_ b2_ k2_ .char nn (((xs.map Value.int)).set 16 (.int rk)) (.int 0) := by
          have hq := V127_
          rw [show nar .char rk = rk from (own_narch hrk)] at hq
          exact hq
        have N127_ := Fr.snoc X127_ N126_ g5_
        refine own_viaH (fun _ kq => st127_ _ kq) ?_
        show own_FinH _ _ _ _ _ _ _ _ _ T127_ (mkF m 466 #[.val (.int p1), .val (.int p2), .val (.int p3), .val (.int p4), .val (.int p5), .val (.ref a1_), .val (.int nn), .val (.int po), .val (.int cc), .val (.int fl), .val (.ref b2_), .unset, .unset, .unset] [])
        have Vz : Arv Z h127_ b2_ k2_ .char nn ((xs.set 16 rk).map Value.int) (.int 0) := by rw [List.map_set]; exact U127_
        have sf129_ : Safe Z own_EL T1_.vm hl b2_ := Safe.arv hZ1_.alike Vl (by decide)
        have C128_ := Cl.trans (CHr.wr W127_ sf129_ Cl.1)
        have H128_ := C128_.1
        exact s466 (xs.set 16 rk) T127_ _ X127_ N127_ _ e127_ (Nat.le_trans hkl (Keep.of_wr W127_).1) C128_ (Ol.wr W127_ g5_) (Ex.wr W127_) (Fx.other W127_ (Or.inl q3_)) (Fy.other W127_ (Or.inl q3_)) (Vx.other W127_ q4_) Vz (by rw [List.length_set]; exact hxl) (own_chs_set hxs hrk)
      · refine own_viaH (fun _ kq => XS.icmpYes Xl.here hx rfl (pc0 := 445) (pc' := 466) rfl (hb hby at_445) rfl (flt hg).2.2.2 (by decide) (by decide) kq) ?_
        show own_FinH _ _ _ _ _ _ _ _ _ Tl (mkF m 466 #[.val (.int p1), .val (.int p2), .val (.int p3), .val (.int p4), .val (.int p5), .val (.ref a1_), .val (.int nn), .val (.int po), .val (.int cc), .val (.int fl), .val (.ref b2_), .unset, .unset, .unset] [])
        exact s466 xs Tl _ Xl Nl _ el hkl Cl Ol Ex Fx Fy Vx Vl (by assumption) (by assumption)
     have s416 : ∀ (xs : List Int32) (Tl : State) (locl : List Loc) (Xl : Stand p l e room_1 (s.setVm T1_.vm) m #[(.int p1), (.int p2), (.int p3), (.int p4), (.int p5)] below meth cde Tl locl (0 + 2 + 1) (0 + (48 + 4) + 19)) (Nl : Fr n0 locl) (hl : Heap) (el : Tl.heap = hl) (hkl : h2_.size ≤ hl.size) (Cl : CHr Z own_EL s.vm h0 T1_.vm hl) (Ol : Old Z n0 hl) (Ex : Exa Z hl a1_ "java/lang/String") (Fx : Fld Z hl a1_ "java/lang/String" "coder" "B" (.int (0 : Int32))) (Fy : Fld Z hl a1_ "java/lang/String" "value" "[B" (.ref b1_)) (Vx : Arv Z hl b1_ kb1_ .byte (12 : Int32) own_v1 (.int 0)) (Vl : Arv Z hl b2_ k2_ .char nn (xs.map Value.int) (.int 0)) (hxl : xs.length = n) (hxs : own_chs xs), own_FinH p e s below Z own_EL (own_Q_law Z p1 p2 p3 p4 p5 cz fm va kv bt ct sb tb ktb sc tc ktc em h0 n0) room_1.cells room_1.slots Tl (mkF m 416 #[.val (.int p1), .val (.int p2), .val (.int p3), .val (.int p4), .val (.int p5), .val (.ref a1_), .val (.int nn), .val (.int po), .val (.int cc), .val (.int fl), .val (.ref b2_), .unset, .unset, .unset] []) := by
      intro xs Tl locl Xl Nl hl el hkl Cl Ol Ex Fx Fy Vx Vl hxl hxs
      have Zl : n0 ≤ hl.size := Nat.le_trans Z0 Cl.2.1
      refine own_viaH (fun _ kq => XS.iload Xl.here hx rfl (hb hby at_416) rfl kq) ?_
      refine own_viaH (fun _ kq => XS.bipush Xl.here hx rfl (hb hby at_418) kq) ?_
      rcases Classical.em ((15 : Int32) < nn) with hg | hg
      · refine own_viaH (fun _ kq => XS.icmpNo Xl.here hx rfl (hb hby at_420) rfl (tlt hg).2.2.2 kq) ?_
        show own_FinH _ _ _ _ _ _ _ _ _ Tl (mkF m 423 #[.val (.int p1), .val (.int p2), .val (.int p3), .val (.int p4), .val (.int p5), .val (.ref a1_), .val (.int nn), .val (.int po), .val (.int cc), .val (.int fl), .val (.ref b2_), .unset, .unset, .unset] [])
        have hlt : 15 < n := own_kn (i := 15) rfl hN (by decide) hn4 hg
        refine own_viaH (fun _ kq => XS.aload Xl.here hx rfl (hb hby at_423) rfl rfl kq) ?_
        refine own_viaH (fun _ kq => XS.bipush Xl.here hx rfl (hb hby at_425) kq) ?_
        refine own_viaH (fun _ kq => XS.aload Xl.here hx rfl (hb hby at_427) rfl rfl kq) ?_
        refine own_viaH (fun _ kq => XS.bipush Xl.here hx rfl (hb hby at_429) kq) ?_
        refine own_viaH (fun _ kq => XS.iload Xl.here hx rfl (hb hby at_431) rfl kq) ?_
        refine own_viaH (fun _ kq => XS.iload Xl.here hx rfl (hb hby at_433) rfl kq) ?_
        show own_FinH _ _ _ _ _ _ _ _ _ Tl (mkF m 435 #[.val (.int p1), .val (.int p2), .val (.int p3), .val (.int p4), .val (.int p5), .val (.ref a1_), .val (.int nn), .val (.int po), .val (.int cc), .val (.int fl), .val (.ref b2_), .unset, .unset, .unset] [(.int cc), (.int po), (.int (15 : Int32)), (.ref a1_), (.int (15 : Int32)), (.ref b2_)])
        refine own_viaH (fun _ kq => XS.iload Xl.here hx rfl (hb hby at_435) rfl kq) ?_
        show own_FinH _ _ _ _ _ _ _ _ _ Tl (mkF m 437 #[.val (.int p1), .val (.int p2), .val (.int p3), .val (.int p4), .val (.int p5), .val (.ref a1_), .val (.int nn), .val (.int po), .val (.int cc), .val (.int fl), .val (.ref b2_), .unset, .unset, .unset] [(.int fl), (.int cc), (.int po), (.int (15 : Int32)), (.ref a1_), (.int (15 : Int32)), (.ref b2_)])
        obtain ⟨_, _, ⟨T130_, L130_, k130_, n130_⟩, -, X130_, ⟨Lc130_, hQ130_, l130_, y130_, z130_⟩, st130_⟩ := Jvm.LawKit.callS Xl hx (y := (⟨"com/example/lichen/lichen/webhook/EventTypeOfPinLaw", "pick", "(Ljava/lang/String;IICZ)C"⟩ : MethodName)) hown1_ (mvT hZ1_ (own_w hw 11 rfl)) (mvT hZ1_ (own_w hw 12 rfl)) (mvT hZ1_ (own_w hw 13 rfl)) (mvT hZ1_ (own_w hw 14 rfl)) (by decide) (backOf (W := 2) (own_rm_pick l Z a0 hw [] a1_ cz b1_ kb1_ (12 : Int32) own_v1 own_t1 fm (15 : Int32) 15 po cc fl hl n0 Zl Ol S1 P5 S2 r_fm Ex Fx Fy Vx own_lita1 (by decide) own_litr1 rfl (by decide) hcc) hZ1_ (own_w hw 14 rfl) (own_w hw 13 rfl) (by decide) (by decide)) (g := (mkF m 437 #[.val (.int p1), .val (.int p2), .val (.int p3), .val (.int p4), .val (.int p5), .val (.ref a1_), .val (.int nn), .val (.int po), .val (.int cc), .val (.int fl), .val (.ref b2_), .unset, .unset, .unset] [(.int fl), (.int cc), (.int po), (.int (15 : Int32)), (.ref a1_), (.int (15 : Int32)), (.ref b2_)])) rfl (by rw [hml]; rfl) (argsL := [(.ref a1_), (.int (15 : Int32)), (.int po), (.int cc), (.int fl)]) (rest := [(.int (15 : Int32)), (.ref b2_)]) (lenOf own_pd24 rfl) rfl (by show 2 * 0 + _ ≤ _; exact Nat.le_of_eq rfl) (hb hby at_437) (fun _ _ => ⟨rfl, el, (by decide : (0 + 2 + 1) + 0 ≤ _), (by decide : (0 + (48 + 4) + 19) + 0 ≤ _)⟩)
        dsimp only [Pt.U, Pt.locs, Pt.cells, Pt.slots] at X130_ l130_ y130_ z130_ st130_ hQ130_
        subst l130_ y130_ z130_
        obtain ⟨rk, rfl, Nq130_, hh130_, hrk⟩ := hQ130_
        have N130_ := Fr.app Nl Nq130_
        refine own_viaH (fun _ kq => st130_ _ kq) ?_
        show own_FinH _ _ _ _ _ _ _ _ _ T130_ (mkF m 440 #[.val (.int p1), .val (.int p2), .val (.int p3), .val (.int p4), .val (.int p5), .val (.ref a1_), .val (.int nn), .val (.int po), .val (.int cc), .val (.int fl), .val (.ref b2_), .unset, .unset, .unset] [(.int rk), (.int (15 : Int32)), (.ref b2_)])
        obtain ⟨c131_, Ar131_, q131_, S131_, M131_, H131_, G131_⟩ := (id Vl)
        have hin131_ : ¬ ((15 : Int32) < 0 ∨ c131_.slots.size ≤ ((15 : Int32)).toNatClampNeg) := inb_of S131_ (own_inb (i := 15) rfl hN hlt hn10)
        obtain ⟨T131_, h131_, X131_, e131_, W131_, st131_⟩ := stC X130_ hx hZ1_ hh130_ Ar131_ (j := (15 : Int32)) hin131_ (g := (mkF m 440 #[.val (.int p1), .val (.int p2), .val (.int p3), .val (.int p4), .val (.int p5), .val (.ref a1_), .val (.int nn), .val (.int po), .val (.int cc), .val (.int fl), .val (.ref b2_), .unset, .unset, .unset] [(.int rk), (.int (15 : Int32)), (.ref b2_)])) rfl rfl (hb hby at_440)
        have V131_ := Arv.set Ar131_ q131_ S131_ M131_ H131_ G131_ (fits_nar_char _) W131_ 15 (own_clamp (i := 15) rfl (by decide)) (by rw [List.length_map, hxl]; exact hlt)
        have U131_ : Arv Z h131_ b2_ k2_ .char nn (((xs.map Value.int)).set 15 (.int rk)) (.int 0) := by
          have hq := V131_
          rw [show nar .char rk = rk from (own_narch hrk)] at hq
          exact hq
        have N131_ := Fr.snoc X131_ N130_ g5_
        refine own_viaH (fun _ kq => st131_ _ kq) ?_
        show own_FinH _ _ _ _ _ _ _ _ _ T131_ (mkF m 441 #[.val (.int p1), .val (.int p2), .val (.int p3), .val (.int p4), .val (.int p5), .val (.ref a1_), .val (.int nn), .val (.int po), .val (.int cc), .val (.int fl), .val (.ref b2_), .unset, .unset, .unset] [])
        have Vz : Arv Z h131_ b2_ k2_ .char nn ((xs.set 15 rk).map Value.int) (.int 0) := by rw [List.map_set]; exact U131_
        have sf133_ : Safe Z own_EL T1_.vm hl b2_ := Safe.arv hZ1_.alike Vl (by decide)
        have C132_ := Cl.trans (CHr.wr W131_ sf133_ Cl.1)
        have H132_ := C132_.1
        exact s441 (xs.set 15 rk) T131_ _ X131_ N131_ _ e131_ (Nat.le_trans hkl (Keep.of_wr W131_).1) C132_ (Ol.wr W131_ g5_) (Ex.wr W131_) (Fx.other W131_ (Or.inl q3_)) (Fy.other W131_ (Or.inl q3_)) (Vx.other W131_ q4_) Vz (by rw [List.length_set]; exact hxl) (own_chs_set hxs hrk)
      · refine own_viaH (fun _ kq => XS.icmpYes Xl.here hx rfl (pc0 := 420) (pc' := 441) rfl (hb hby at_420) rfl (flt hg).2.2.2 (by decide) (by decide) kq) ?_
        show own_FinH _ _ _ _ _ _ _ _ _ Tl (mkF m 441 #[.val (.int p1), .val (.int p2), .val (.int p3), .val (.int p4), .val (.int p5), .val (.ref a1_), .val (.int nn), .val (.int po), .val (.int cc), .val (.int fl), .val (.ref b2_), .unset, .unset, .unset] [])
        exact s441 xs Tl _ Xl Nl _ el hkl Cl Ol Ex Fx Fy Vx Vl (by assumption) (by assumption)
     have s391 : ∀ (xs : List Int32) (Tl : State) (locl : List Loc) (Xl : Stand p l e room_1 (s.setVm T1_.vm) m #[(.int p1), (.int p2), (.int p3), (.int p4), (.int p5)] below meth cde Tl locl (0 + 2 + 1) (0 + (48 + 4) + 19)) (Nl : Fr n0 locl) (hl : Heap) (el : Tl.heap = hl) (hkl : h2_.size ≤ hl.size) (Cl : CHr Z own_EL s.vm h0 T1_.vm hl) (Ol : Old Z n0 hl) (Ex : Exa Z hl a1_ "java/lang/String") (Fx : Fld Z hl a1_ "java/lang/String" "coder" "B" (.int (0 : Int32))) (Fy : Fld Z hl a1_ "java/lang/String" "value" "[B" (.ref b1_)) (Vx : Arv Z hl b1_ kb1_ .byte (12 : Int32) own_v1 (.int 0)) (Vl : Arv Z hl b2_ k2_ .char nn (xs.map Value.int) (.int 0)) (hxl : xs.length = n) (hxs : own_chs xs), own_FinH p e s below Z own_EL (own_Q_law Z p1 p2 p3 p4 p5 cz fm va kv bt ct sb tb ktb sc tc ktc em h0 n0) room_1.cells room_1.slots Tl (mkF m 391 #[.val (.int p1), .val (.int p2), .val (.int p3), .val (.int p4), .val (.int p5), .val (.ref a1_), .val (.int nn), .val (.int po), .val (.int cc), .val (.int fl), .val (.ref b2_), .unset, .unset, .unset] []) := by
      intro xs Tl locl Xl Nl hl el hkl Cl Ol Ex Fx Fy Vx Vl hxl hxs
      have Zl : n0 ≤ hl.size := Nat.le_trans Z0 Cl.2.1
      refine own_viaH (fun _ kq => XS.iload Xl.here hx rfl (hb hby at_391) rfl kq) ?_
      refine own_viaH (fun _ kq => XS.bipush Xl.here hx rfl (hb hby at_393) kq) ?_
      rcases Classical.em ((14 : Int32) < nn) with hg | hg
      · refine own_viaH (fun _ kq => XS.icmpNo Xl.here hx rfl (hb hby at_395) rfl (tlt hg).2.2.2 kq) ?_
        show own_FinH _ _ _ _ _ _ _ _ _ Tl (mkF m 398 #[.val (.int p1), .val (.int p2), .val (.int p3), .val (.int p4), .val (.int p5), .val (.ref a1_), .val (.int nn), .val (.int po), .val (.int cc), .val (.int fl), .val (.ref b2_), .unset, .unset, .unset] [])
        have hlt : 14 < n := own_kn (i := 14) rfl hN (by decide) hn4 hg
        refine own_viaH (fun _ kq => XS.aload Xl.here hx rfl (hb hby at_398) rfl rfl kq) ?_
        refine own_viaH (fun _ kq => XS.bipush Xl.here hx rfl (hb hby at_400) kq) ?_
        refine own_viaH (fun _ kq => XS.aload Xl.here hx rfl (hb hby at_402) rfl rfl kq) ?_
        refine own_viaH (fun _ kq => XS.bipush Xl.here hx rfl (hb hby at_404) kq) ?_
        refine own_viaH (fun _ kq => XS.iload Xl.here hx rfl (hb hby at_406) rfl kq) ?_
        refine own_viaH (fun _ kq => XS.iload Xl.here hx rfl (hb hby at_408) rfl kq) ?_
        show own_FinH _ _ _ _ _ _ _ _ _ Tl (mkF m 410 #[.val (.int p1), .val (.int p2), .val (.int p3), .val (.int p4), .val (.int p5), .val (.ref a1_), .val (.int nn), .val (.int po), .val (.int cc), .val (.int fl), .val (.ref b2_), .unset, .unset, .unset] [(.int cc), (.int po), (.int (14 : Int32)), (.ref a1_), (.int (14 : Int32)), (.ref b2_)])
        refine own_viaH (fun _ kq => XS.iload Xl.here hx rfl (hb hby at_410) rfl kq) ?_
        show own_FinH _ _ _ _ _ _ _ _ _ Tl (mkF m 412 #[.val (.int p1), .val (.int p2), .val (.int p3), .val (.int p4), .val (.int p5), .val (.ref a1_), .val (.int nn), .val (.int po), .val (.int cc), .val (.int fl), .val (.ref b2_), .unset, .unset, .unset] [(.int fl), (.int cc), (.int po), (.int (14 : Int32)), (.ref a1_), (.int (14 : Int32)), (.ref b2_)])
        obtain ⟨_, _, ⟨T134_, L134_, k134_, n134_⟩, -, X134_, ⟨Lc134_, hQ134_, l134_, y134_, z134_⟩, st134_⟩ := Jvm.LawKit.callS Xl hx (y := (⟨"com/example/lichen/lichen/webhook/EventTypeOfPinLaw", "pick", "(Ljava/lang/String;IICZ)C"⟩ : MethodName)) hown1_ (mvT hZ1_ (own_w hw 11 rfl)) (mvT hZ1_ (own_w hw 12 rfl)) (mvT hZ1_ (own_w hw 13 rfl)) (mvT hZ1_ (own_w hw 14 rfl)) (by decide) (backOf (W := 2) (own_rm_pick l Z a0 hw [] a1_ cz b1_ kb1_ (12 : Int32) own_v1 own_t1 fm (14 : Int32) 14 po cc fl hl n0 Zl Ol S1 P5 S2 r_fm Ex Fx Fy Vx own_lita1 (by decide) own_litr1 rfl (by decide) hcc) hZ1_ (own_w hw 14 rfl) (own_w hw 13 rfl) (by decide) (by decide)) (g := (mkF m 412 #[.val (.int p1), .val (.int p2), .val (.int p3), .val (.int p4), .val (.int p5), .val (.ref a1_), .val (.int nn), .val (.int po), .val (.int cc), .val (.int fl), .val (.ref b2_), .unset, .unset, .unset] [(.int fl), (.int cc), (.int po), (.int (14 : Int32)), (.ref a1_), (.int (14 : Int32)), (.ref b2_)])) rfl (by rw [hml]; rfl) (argsL := [(.ref a1_), (.int (14 : Int32)), (.int po), (.int cc), (.int fl)]) (rest := [(.int (14 : Int32)), (.ref b2_)]) (lenOf own_pd24 rfl) rfl (by show 2 * 0 + _ ≤ _; exact Nat.le_of_eq rfl) (hb hby at_412) (fun _ _ => ⟨rfl, el, (by decide : (0 + 2 + 1) + 0 ≤ _), (by decide : (0 + (48 + 4) + 19) + 0 ≤ _)⟩)
        dsimp only [Pt.U, Pt.locs, Pt.cells, Pt.slots] at X134_ l134_ y134_ z134_ st134_ hQ134_
        subst l134_ y134_ z134_
        obtain ⟨rk, rfl, Nq134_, hh134_, hrk⟩ := hQ134_
        have N134_ := Fr.app Nl Nq134_
        refine own_viaH (fun _ kq => st134_ _ kq) ?_
        show own_FinH _ _ _ _ _ _ _ _ _ T134_ (mkF m 415 #[.val (.int p1), .val (.int p2), .val (.int p3), .val (.int p4), .val (.int p5), .val (.ref a1_), .val (.int nn), .val (.int po), .val (.int cc), .val (.int fl), .val (.ref b2_), .unset, .unset, .unset] [(.int rk), (.int (14 : Int32)), (.ref b2_)])
        obtain ⟨c135_, Ar135_, q135_, S135_, M135_, H135_, G135_⟩ := (id Vl)
        have hin135_ : ¬ ((14 : Int32) < 0 ∨ c135_.slots.size ≤ ((14 : Int32)).toNatClampNeg) := inb_of S135_ (own_inb (i := 14) rfl hN hlt hn10)
        obtain ⟨T135_, h135_, X135_, e135_, W135_, st135_⟩ := stC X134_ hx hZ1_ hh134_ Ar135_ (j := (14 : Int32)) hin135_ (g := (mkF m 415 #[.val (.int p1), .val (.int p2), .val (.int p3), .val (.int p4), .val (.int p5), .val (.ref a1_), .val (.int nn), .val (.int po), .val (.int cc), .val (.int fl), .val (.ref b2_), .unset, .unset, .unset] [(.int rk), (.int (14 : Int32)), (.ref b2_)])) rfl rfl (hb hby at_415)
        have V135_ := Arv.set Ar135_ q135_ S135_ M135_ H135_ G135_ (fits_nar_char _) W135_ 14 (own_clamp (i := 14) rfl (by decide)) (by rw [List.length_map, hxl]; exact hlt)
        have U135_ : Arv Z h135_ b2_ k2_ .char nn (((xs.map Value.int)).set 14 (.int rk)) (.int 0) := by
          have hq := V135_
          rw [show nar .char rk = rk from (own_narch hrk)] at hq
          exact hq
        have N135_ := Fr.snoc X135_ N134_ g5_
        refine own_viaH (fun _ kq => st135_ _ kq) ?_
        show own_FinH _ _ _ _ _ _ _ _ _ T135_ (mkF m 416 #[.val (.int p1), .val (.int p2), .val (.int p3), .val (.int p4), .val (.int p5), .val (.ref a1_), .val (.int nn), .val (.int po), .val (.int cc), .val (.int fl), .val (.ref b2_), .unset, .unset, .unset] [])
        have Vz : Arv Z h135_ b2_ k2_ .char nn ((xs.set 14 rk).map Value.int) (.int 0) := by rw [List.map_set]; exact U135_
        have sf137_ : Safe Z own_EL T1_.vm hl b2_ := Safe.arv hZ1_.alike Vl (by decide)
        have C136_ := Cl.trans (CHr.wr W135_ sf137_ Cl.1)
        have H136_ := C136_.1
        exact s416 (xs.set 14 rk) T135_ _ X135_ N135_ _ e135_ (Nat.le_trans hkl (Keep.of_wr W135_).1) C136_ (Ol.wr W135_ g5_) (Ex.wr W135_) (Fx.other W135_ (Or.inl q3_)) (Fy.other W135_ (Or.inl q3_)) (Vx.other W135_ q4_) Vz (by rw [List.length_set]; exact hxl) (own_chs_set hxs hrk)
      · refine own_viaH (fun _ kq => XS.icmpYes Xl.here hx rfl (pc0 := 395) (pc' := 416) rfl (hb hby at_395) rfl (flt hg).2.2.2 (by decide) (by decide) kq) ?_
        show own_FinH _ _ _ _ _ _ _ _ _ Tl (mkF m 416 #[.val (.int p1), .val (.int p2), .val (.int p3), .val (.int p4), .val (.int p5), .val (.ref a1_), .val (.int nn), .val (.int po), .val (.int cc), .val (.int fl), .val (.ref b2_), .unset, .unset, .unset] [])
        exact s416 xs Tl _ Xl Nl _ el hkl Cl Ol Ex Fx Fy Vx Vl (by assumption) (by assumption)
     have s366 : ∀ (xs : List Int32) (Tl : State) (locl : List Loc) (Xl : Stand p l e room_1 (s.setVm T1_.vm) m #[(.int p1), (.int p2), (.int p3), (.int p4), (.int p5)] below meth cde Tl locl (0 + 2 + 1) (0 + (48 + 4) + 19)) (Nl : Fr n0 locl) (hl : Heap) (el : Tl.heap = hl) (hkl : h2_.size ≤ hl.size) (Cl : CHr Z own_EL s.vm h0 T1_.vm hl) (Ol : Old Z n0 hl) (Ex : Exa Z hl a1_ "java/lang/String") (Fx : Fld Z hl a1_ "java/lang/String" "coder" "B" (.int (0 : Int32))) (Fy : Fld Z hl a1_ "java/lang/String" "value" "[B" (.ref b1_)) (Vx : Arv Z hl b1_ kb1_ .byte (12 : Int32) own_v1 (.int 0)) (Vl : Arv Z hl b2_ k2_ .char nn (xs.map Value.int) (.int 0)) (hxl : xs.length = n) (hxs : own_chs xs), own_FinH p e s below Z own_EL (own_Q_law Z p1 p2 p3 p4 p5 cz fm va kv bt ct sb tb ktb sc tc ktc em h0 n0) room_1.cells room_1.slots Tl (mkF m 366 #[.val (.int p1), .val (.int p2), .val (.int p3), .val (.int p4), .val (.int p5), .val (.ref a1_), .val (.int nn), .val (.int po), .val (.int cc), .val (.int fl), .val (.ref b2_), .unset, .unset, .unset] []) := by
      intro xs Tl locl Xl Nl hl el hkl Cl Ol Ex Fx Fy Vx Vl hxl hxs
      have Zl : n0 ≤ hl.size := Nat.le_trans Z0 Cl.2.1
      refine own_viaH (fun _ kq => XS.iload Xl.here hx rfl (hb hby at_366) rfl kq) ?_
      refine own_viaH (fun _ kq => XS.bipush Xl.here hx rfl (hb hby at_368) kq) ?_
      rcases Classical.em ((13 : Int32) < nn) with hg | hg
      · refine own_viaH (fun _ kq => XS.icmpNo Xl.here hx rfl (hb hby at_370) rfl (tlt hg).2.2.2 kq) ?_
        show own_FinH _ _ _ _ _ _ _ _ _ Tl (mkF m 373 #[.val (.int p1), .val (.int p2), .val (.int p3), .val (.int p4), .val (.int p5), .val (.ref a1_), .val (.int nn), .val (.int po), .val (.int cc), .val (.int fl), .val (.ref b2_), .unset, .unset, .unset] [])
        have hlt : 13 < n := own_kn (i := 13) rfl hN (by decide) hn4 hg
        refine own_viaH (fun _ kq => XS.aload Xl.here hx rfl (hb hby at_373) rfl rfl kq) ?_
        refine own_viaH (fun _ kq => XS.bipush Xl.here hx rfl (hb hby at_375) kq) ?_
        refine own_viaH (fun _ kq => XS.aload Xl.here hx rfl (hb hby at_377) rfl rfl kq) ?_
        refine own_viaH (fun _ kq => XS.bipush Xl.here hx rfl (hb hby at_379) kq) ?_
        refine own_viaH (fun _ kq => XS.iload Xl.here hx rfl (hb hby at_381) rfl kq) ?_
        refine own_viaH (fun _ kq => XS.iload Xl.here hx rfl (hb hby at_383) rfl kq) ?_
        show own_FinH _ _ _ _ _ _ _ _ _ Tl (mkF m 385 #[.val (.int p1), .val (.int p2), .val (.int p3), .val (.int p4), .val (.int p5), .val (.ref a1_), .val (.int nn), .val (.int po), .val (.int cc), .val (.int fl), .val (.ref b2_), .unset, .unset, .unset] [(.int cc), (.int po), (.int (13 : Int32)), (.ref a1_), (.int (13 : Int32)), (.ref b2_)])
        refine own_viaH (fun _ kq => XS.iload Xl.here hx rfl (hb hby at_385) rfl kq) ?_
        show own_FinH _ _ _ _ _ _ _ _ _ Tl (mkF m 387 #[.val (.int p1), .val (.int p2), .val (.int p3), .val (.int p4), .val (.int p5), .val (.ref a1_), .val (.int nn), .val (.int po), .val (.int cc), .val (.int fl), .val (.ref b2_), .unset, .unset, .unset] [(.int fl), (.int cc), (.int po), (.int (13 : Int32)), (.ref a1_), (.int (13 : Int32)), (.ref b2_)])
        obtain ⟨_, _, ⟨T138_, L138_, k138_, n138_⟩, -, X138_, ⟨Lc138_, hQ138_, l138_, y138_, z138_⟩, st138_⟩ := Jvm.LawKit.callS Xl hx (y := (⟨"com/example/lichen/lichen/webhook/EventTypeOfPinLaw", "pick", "(Ljava/lang/String;IICZ)C"⟩ : MethodName)) hown1_ (mvT hZ1_ (own_w hw 11 rfl)) (mvT hZ1_ (own_w hw 12 rfl)) (mvT hZ1_ (own_w hw 13 rfl)) (mvT hZ1_ (own_w hw 14 rfl)) (by decide) (backOf (W := 2) (own_rm_pick l Z a0 hw [] a1_ cz b1_ kb1_ (12 : Int32) own_v1 own_t1 fm (13 : Int32) 13 po cc fl hl n0 Zl Ol S1 P5 S2 r_fm Ex Fx Fy Vx own_lita1 (by decide) own_litr1 rfl (by decide) hcc) hZ1_ (own_w hw 14 rfl) (own_w hw 13 rfl) (by decide) (by decide)) (g := (mkF m 387 #[.val (.int p1), .val (.int p2), .val (.int p3), .val (.int p4), .val (.int p5), .val (.ref a1_), .val (.int nn), .val (.int po), .val (.int cc), .val (.int fl), .val (.ref b2_), .unset, .unset, .unset] [(.int fl), (.int cc), (.int po), (.int (13 : Int32)), (.ref a1_), (.int (13 : Int32)), (.ref b2_)])) rfl (by rw [hml]; rfl) (argsL := [(.ref a1_), (.int (13 : Int32)), (.int po), (.int cc), (.int fl)]) (rest := [(.int (13 : Int32)), (.ref b2_)]) (lenOf own_pd24 rfl) rfl (by show 2 * 0 + _ ≤ _; exact Nat.le_of_eq rfl) (hb hby at_387) (fun _ _ => ⟨rfl, el, (by decide : (0 + 2 + 1) + 0 ≤ _), (by decide : (0 + (48 + 4) + 19) + 0 ≤ _)⟩)
        dsimp only [Pt.U, Pt.locs, Pt.cells, Pt.slots] at X138_ l138_ y138_ z138_ st138_ hQ138_
        subst l138_ y138_ z138_
        obtain ⟨rk, rfl, Nq138_, hh138_, hrk⟩ := hQ138_
        have N138_ := Fr.app Nl Nq138_
        refine own_viaH (fun _ kq => st138_ _ kq) ?_
        show own_FinH _ _ _ _ _ _ _ _ _ T138_ (mkF m 390 #[.val (.int p1), .val (.int p2), .val (.int p3), .val (.int p4), .val (.int p5), .val (.ref a1_), .val (.int nn), .val (.int po), .val (.int cc), .val (.int fl), .val (.ref b2_), .unset, .unset, .unset] [(.int rk), (.int (13 : Int32)), (.ref b2_)])
        obtain ⟨c139_, Ar139_, q139_, S139_, M139_, H139_, G139_⟩ := (id Vl)
        have hin139_ : ¬ ((13 : Int32) < 0 ∨ c139_.slots.size ≤ ((13 : Int32)).toNatClampNeg) := inb_of S139_ (own_inb (i := 13) rfl hN hlt hn10)
        obtain ⟨T139_, h139_, X139_, e139_, W139_, st139_⟩ := stC X138_ hx hZ1_ hh138_ Ar139_ (j := (13 : Int32)) hin139_ (g := (mkF m 390 #[.val (.int p1), .val (.int p2), .val (.int p3), .val (.int p4), .val (.int p5), .val (.ref a1_), .val (.int nn), .val (.int po), .val (.int cc), .val (.int fl), .val (.ref b2_), .unset, .unset, .unset] [(.int rk), (.int (13 : Int32)), (.ref b2_)])) rfl rfl (hb hby at_390)
        have V139_ := Arv.set Ar139_ q139_ S139_ M139_ H139_ G139_ (fits_nar_char _) W139_ 13 (own_clamp (i := 13) rfl (by decide)) (by rw [List.length_map, hxl]; exact hlt)
        have U139_ : Arv Z h139_ b2_ k2_ .char nn (((xs.map Value.int)).set 13 (.int rk)) (.int 0) := by
          have hq := V139_
          rw [show nar .char rk = rk from (own_narch hrk)] at hq
          exact hq
        have N139_ := Fr.snoc X139_ N138_ g5_
        refine own_viaH (fun _ kq => st139_ _ kq) ?_
        show own_FinH _ _ _ _ _ _ _ _ _ T139_ (mkF m 391 #[.val (.int p1), .val (.int p2), .val (.int p3), .val (.int p4), .val (.int p5), .val (.ref a1_), .val (.int nn), .val (.int po), .val (.int cc), .val (.int fl), .val (.ref b2_), .unset, .unset, .unset] [])
        have Vz : Arv Z h139_ b2_ k2_ .char nn ((xs.set 13 rk).map Value.int) (.int 0) := by rw [List.map_set]; exact U139_
        have sf141_ : Safe Z own_EL T1_.vm hl b2_ := Safe.arv hZ1_.alike Vl (by decide)
        have C140_ := Cl.trans (CHr.wr W139_ sf141_ Cl.1)
        have H140_ := C140_.1
        exact s391 (xs.set 13 rk) T139_ _ X139_ N139_ _ e139_ (Nat.le_trans hkl (Keep.of_wr W139_).1) C140_ (Ol.wr W139_ g5_) (Ex.wr W139_) (Fx.other W139_ (Or.inl q3_)) (Fy.other W139_ (Or.inl q3_)) (Vx.other W139_ q4_) Vz (by rw [List.length_set]; exact hxl) (own_chs_set hxs hrk)
      · refine own_viaH (fun _ kq => XS.icmpYes Xl.here hx rfl (pc0 := 370) (pc' := 391) rfl (hb hby at_370) rfl (flt hg).2.2.2 (by decide) (by decide) kq) ?_
        show own_FinH _ _ _ _ _ _ _ _ _ Tl (mkF m 391 #[.val (.int p1), .val (.int p2), .val (.int p3), .val (.int p4), .val (.int p5), .val (.ref a1_), .val (.int nn), .val (.int po), .val (.int cc), .val (.int fl), .val (.ref b2_), .unset, .unset, .unset] [])
        exact s391 xs Tl _ Xl Nl _ el hkl Cl Ol Ex Fx Fy Vx Vl (by assumption) (by assumption)
     have s341 : ∀ (xs : List Int32) (Tl : State) (locl : List Loc) (Xl : Stand p l e room_1 (s.setVm T1_.vm) m #[(.int p1), (.int p2), (.int p3), (.int p4), (.int p5)] below meth cde Tl locl (0 + 2 + 1) (0 + (48 + 4) + 19)) (Nl : Fr n0 locl) (hl : Heap) (el : Tl.heap = hl) (hkl : h2_.size ≤ hl.size) (Cl : CHr Z own_EL s.vm h0 T1_.vm hl) (Ol : Old Z n0 hl) (Ex : Exa Z hl a1_ "java/lang/String") (Fx : Fld Z hl a1_ "java/lang/String" "coder" "B" (.int (0 : Int32))) (Fy : Fld Z hl a1_ "java/lang/String" "value" "[B" (.ref b1_)) (Vx : Arv Z hl b1_ kb1_ .byte (12 : Int32) own_v1 (.int 0)) (Vl : Arv Z hl b2_ k2_ .char nn (xs.map Value.int) (.int 0)) (hxl : xs.length = n) (hxs : own_chs xs), own_FinH p e s below Z own_EL (own_Q_law Z p1 p2 p3 p4 p5 cz fm va kv bt ct sb tb ktb sc tc ktc em h0 n0) room_1.cells room_1.slots Tl (mkF m 341 #[.val (.int p1), .val (.int p2), .val (.int p3), .val (.int p4), .val (.int p5), .val (.ref a1_), .val (.int nn), .val (.int po), .val (.int cc), .val (.int fl), .val (.ref b2_), .unset, .unset, .unset] []) := by
      intro xs Tl locl Xl Nl hl el hkl Cl Ol Ex Fx Fy Vx Vl hxl hxs
      have Zl : n0 ≤ hl.size := Nat.le_trans Z0 Cl.2.1
      refine own_viaH (fun _ kq => XS.iload Xl.here hx rfl (hb hby at_341) rfl kq) ?_
      refine own_viaH (fun _ kq => XS.bipush Xl.here hx rfl (hb hby at_343) kq) ?_
      rcases Classical.em ((12 : Int32) < nn) with hg | hg
      · refine own_viaH (fun _ kq => XS.icmpNo Xl.here hx rfl (hb hby at_345) rfl (tlt hg).2.2.2 kq) ?_
        show own_FinH _ _ _ _ _ _ _ _ _ Tl (mkF m 348 #[.val (.int p1), .val (.int p2), .val (.int p3), .val (.int p4), .val (.int p5), .val (.ref a1_), .val (.int nn), .val (.int po), .val (.int cc), .val (.int fl), .val (.ref b2_), .unset, .unset, .unset] [])
        have hlt : 12 < n := own_kn (i := 12) rfl hN (by decide) hn4 hg
        refine own_viaH (fun _ kq => XS.aload Xl.here hx rfl (hb hby at_348) rfl rfl kq) ?_
        refine own_viaH (fun _ kq => XS.bipush Xl.here hx rfl (hb hby at_350) kq) ?_
        refine own_viaH (fun _ kq => XS.aload Xl.here hx rfl (hb hby at_352) rfl rfl kq) ?_
        refine own_viaH (fun _ kq => XS.bipush Xl.here hx rfl (hb hby at_354) kq) ?_
        refine own_viaH (fun _ kq => XS.iload Xl.here hx rfl (hb hby at_356) rfl kq) ?_
        refine own_viaH (fun _ kq => XS.iload Xl.here hx rfl (hb hby at_358) rfl kq) ?_
        show own_FinH _ _ _ _ _ _ _ _ _ Tl (mkF m 360 #[.val (.int p1), .val (.int p2), .val (.int p3), .val (.int p4), .val (.int p5), .val (.ref a1_), .val (.int nn), .val (.int po), .val (.int cc), .val (.int fl), .val (.ref b2_), .unset, .unset, .unset] [(.int cc), (.int po), (.int (12 : Int32)), (.ref a1_), (.int (12 : Int32)), (.ref b2_)])
        refine own_viaH (fun _ kq => XS.iload Xl.here hx rfl (hb hby at_360) rfl kq) ?_
        show own_FinH _ _ _ _ _ _ _ _ _ Tl (mkF m 362 #[.val (.int p1), .val (.int p2), .val (.int p3), .val (.int p4), .val (.int p5), .val (.ref a1_), .val (.int nn), .val (.int po), .val (.int cc), .val (.int fl), .val (.ref b2_), .unset, .unset, .unset] [(.int fl), (.int cc), (.int po), (.int (12 : Int32)), (.ref a1_), (.int (12 : Int32)), (.ref b2_)])
        obtain ⟨_, _, ⟨T142_, L142_, k142_, n142_⟩, -, X142_, ⟨Lc142_, hQ142_, l142_, y142_, z142_⟩, st142_⟩ := Jvm.LawKit.callS Xl hx (y := (⟨"com/example/lichen/lichen/webhook/EventTypeOfPinLaw", "pick", "(Ljava/lang/String;IICZ)C"⟩ : MethodName)) hown1_ (mvT hZ1_ (own_w hw 11 rfl)) (mvT hZ1_ (own_w hw 12 rfl)) (mvT hZ1_ (own_w hw 13 rfl)) (mvT hZ1_ (own_w hw 14 rfl)) (by decide) (backOf (W := 2) (own_rm_pick l Z a0 hw [] a1_ cz b1_ kb1_ (12 : Int32) own_v1 own_t1 fm (12 : Int32) 12 po cc fl hl n0 Zl Ol S1 P5 S2 r_fm Ex Fx Fy Vx own_lita1 (by decide) own_litr1 rfl (by decide) hcc) hZ1_ (own_w hw 14 rfl) (own_w hw 13 rfl) (by decide) (by decide)) (g := (mkF m 362 #[.val (.int p1), .val (.int p2), .val (.int p3), .val (.int p4), .val (.int p5), .val (.ref a1_), .val (.int nn), .val (.int po), .val (.int cc), .val (.int fl), .val (.ref b2_), .unset, .unset, .unset] [(.int fl), (.int cc), (.int po), (.int (12 : Int32)), (.ref a1_), (.int (12 : Int32)), (.ref b2_)])) rfl (by rw [hml]; rfl) (argsL := [(.ref a1_), (.int (12 : Int32)), (.int po), (.int cc), (.int fl)]) (rest := [(.int (12 : Int32)), (.ref b2_)]) (lenOf own_pd24 rfl) rfl (by show 2 * 0 + _ ≤ _; exact Nat.le_of_eq rfl) (hb hby at_362) (fun _ _ => ⟨rfl, el, (by decide : (0 + 2 + 1) + 0 ≤ _), (by decide : (0 + (48 + 4) + 19) + 0 ≤ _)⟩)
        dsimp only [Pt.U, Pt.locs, Pt.cells, Pt.slots] at X142_ l142_ y142_ z142_ st142_ hQ142_
        subst l142_ y142_ z142_
        obtain ⟨rk, rfl, Nq142_, hh142_, hrk⟩ := hQ142_
        have N142_ := Fr.app Nl Nq142_
        refine own_viaH (fun _ kq => st142_ _ kq) ?_
        show own_FinH _ _ _ _ _ _ _ _ _ T142_ (mkF m 365 #[.val (.int p1), .val (.int p2), .val (.int p3), .val (.int p4), .val (.int p5), .val (.ref a1_), .val (.int nn), .val (.int po), .val (.int cc), .val (.int fl), .val (.ref b2_), .unset, .unset, .unset] [(.int rk), (.int (12 : Int32)), (.ref b2_)])
        obtain ⟨c143_, Ar143_, q143_, S143_, M143_, H143_, G143_⟩ := (id Vl)
        have hin143_ : ¬ ((12 : Int32) < 0 ∨ c143_.slots.size ≤ ((12 : Int32)).toNatClampNeg) := inb_of S143_ (own_inb (i := 12) rfl hN hlt hn10)
        obtain ⟨T143_, h143_, X143_, e143_, W143_, st143_⟩ := stC X142_ hx hZ1_ hh142_ Ar143_ (j := (12 : Int32)) hin143_ (g := (mkF m 365 #[.val (.int p1), .val (.int p2), .val (.int p3), .val (.int p4), .val (.int p5), .val (.ref a1_), .val (.int nn), .val (.int po), .val (.int cc), .val (.int fl), .val (.ref b2_), .unset, .unset, .unset] [(.int rk), (.int (12 : Int32)), (.ref b2_)])) rfl rfl (hb hby at_365)
        have V143_ := Arv.set Ar143_ q143_ S143_ M143_ H143_ G143_ (fits_nar_char _) W143_ 12 (own_clamp (i := 12) rfl (by decide)) (by rw [List.length_map, hxl]; exact hlt)
        have U143_ : Arv Z h143_ b2_ k2_ .char nn (((xs.map Value.int)).set 12 (.int rk)) (.int 0) := by
          have hq := V143_
          rw [show nar .char rk = rk from (own_narch hrk)] at hq
          exact hq
        have N143_ := Fr.snoc X143_ N142_ g5_
        refine own_viaH (fun _ kq => st143_ _ kq) ?_
        show own_FinH _ _ _ _ _ _ _ _ _ T143_ (mkF m 366 #[.val (.int p1), .val (.int p2), .val (.int p3), .val (.int p4), .val (.int p5), .val (.ref a1_), .val (.int nn), .val (.int po), .val (.int cc), .val (.int fl), .val (.ref b2_), .unset, .unset, .unset] [])
        have Vz : Arv Z h143_ b2_ k2_ .char nn ((xs.set 12 rk).map Value.int) (.int 0) := by rw [List.map_set]; exact U143_
        have sf145_ : Safe Z own_EL T1_.vm hl b2_ := Safe.arv hZ1_.alike Vl (by decide)
        have C144_ := Cl.trans (CHr.wr W143_ sf145_ Cl.1)
        have H144_ := C144_.1
        exact s366 (xs.set 12 rk) T143_ _ X143_ N143_ _ e143_ (Nat.le_trans hkl (Keep.of_wr W143_).1) C144_ (Ol.wr W143_ g5_) (Ex.wr W143_) (Fx.other W143_ (Or.inl q3_)) (Fy.other W143_ (Or.inl q3_)) (Vx.other W143_ q4_) Vz (by rw [List.length_set]; exact hxl) (own_chs_set hxs hrk)
      · refine own_viaH (fun _ kq => XS.icmpYes Xl.here hx rfl (pc0 := 345) (pc' := 366) rfl (hb hby at_345) rfl (flt hg).2.2.2 (by decide) (by decide) kq) ?_
        show own_FinH _ _ _ _ _ _ _ _ _ Tl (mkF m 366 #[.val (.int p1), .val (.int p2), .val (.int p3), .val (.int p4), .val (.int p5), .val (.ref a1_), .val (.int nn), .val (.int po), .val (.int cc), .val (.int fl), .val (.ref b2_), .unset, .unset, .unset] [])
        exact s366 xs Tl _ Xl Nl _ el hkl Cl Ol Ex Fx Fy Vx Vl (by assumption) (by assumption)
     have s316 : ∀ (xs : List Int32) (Tl : State) (locl : List Loc) (Xl : Stand p l e room_1 (s.setVm T1_.vm) m #[(.int p1), (.int p2), (.int p3), (.int p4), (.int p5)] below meth cde Tl locl (0 + 2 + 1) (0 + (48 + 4) + 19)) (Nl : Fr n0 locl) (hl : Heap) (el : Tl.heap = hl) (hkl : h2_.size ≤ hl.size) (Cl : CHr Z own_EL s.vm h0 T1_.vm hl) (Ol : Old Z n0 hl) (Ex : Exa Z hl a1_ "java/lang/String") (Fx : Fld Z hl a1_ "java/lang/String" "coder" "B" (.int (0 : Int32))) (Fy : Fld Z hl a1_ "java/lang/String" "value" "[B" (.ref b1_)) (Vx : Arv Z hl b1_ kb1_ .byte (12 : Int32) own_v1 (.int 0)) (Vl : Arv Z hl b2_ k2_ .char nn (xs.map Value.int) (.int 0)) (hxl : xs.length = n) (hxs : own_chs xs), own_FinH p e s below Z own_EL (own_Q_law Z p1 p2 p3 p4 p5 cz fm va kv bt ct sb tb ktb sc tc ktc em h0 n0) room_1.cells room_1.slots Tl (mkF m 316 #[.val (.int p1), .val (.int p2), .val (.int p3), .val (.int p4), .val (.int p5), .val (.ref a1_), .val (.int nn), .val (.int po), .val (.int cc), .val (.int fl), .val (.ref b2_), .unset, .unset, .unset] []) := by
      intro xs Tl locl Xl Nl hl el hkl Cl Ol Ex Fx Fy Vx Vl hxl hxs
      have Zl : n0 ≤ hl.size := Nat.le_trans Z0 Cl.2.1
      refine own_viaH (fun _ kq => XS.iload Xl.here hx rfl (hb hby at_316) rfl kq) ?_
      refine own_viaH (fun _ kq => XS.bipush Xl.here hx rfl (hb hby at_318) kq) ?_
      rcases Classical.em ((11 : Int32) < nn) with hg | hg
      · refine own_viaH (fun _ kq => XS.icmpNo Xl.here hx rfl (hb hby at_320) rfl (tlt hg).2.2.2 kq) ?_
        show own_FinH _ _ _ _ _ _ _ _ _ Tl (mkF m 323 #[.val (.int p1), .val (.int p2), .val (.int p3), .val (.int p4), .val (.int p5), .val (.ref a1_), .val (.int nn), .val (.int po), .val (.int cc), .val (.int fl), .val (.ref b2_), .unset, .unset, .unset] [])
        have hlt : 11 < n := own_kn (i := 11) rfl hN (by decide) hn4 hg
        refine own_viaH (fun _ kq => XS.aload Xl.here hx rfl (hb hby at_323) rfl rfl kq) ?_
        refine own_viaH (fun _ kq => XS.bipush Xl.here hx rfl (hb hby at_325) kq) ?_
        refine own_viaH (fun _ kq => XS.aload Xl.here hx rfl (hb hby at_327) rfl rfl kq) ?_
        refine own_viaH (fun _ kq => XS.bipush Xl.here hx rfl (hb hby at_329) kq) ?_
        refine own_viaH (fun _ kq => XS.iload Xl.here hx rfl (hb hby at_331) rfl kq) ?_
        refine own_viaH (fun _ kq => XS.iload Xl.here hx rfl (hb hby at_333) rfl kq) ?_
        show own_FinH _ _ _ _ _ _ _ _ _ Tl (mkF m 335 #[.val (.int p1), .val (.int p2), .val (.int p3), .val (.int p4), .val (.int p5), .val (.ref a1_), .val (.int nn), .val (.int po), .val (.int cc), .val (.int fl), .val (.ref b2_), .unset, .unset, .unset] [(.int cc), (.int po), (.int (11 : Int32)), (.ref a1_), (.int (11 : Int32)), (.ref b2_)])
        refine own_viaH (fun _ kq => XS.iload Xl.here hx rfl (hb hby at_335) rfl kq) ?_
        show own_FinH _ _ _ _ _ _ _ _ _ Tl (mkF m 337 #[.val (.int p1), .val (.int p2), .val (.int p3), .val (.int p4), .val (.int p5), .val (.ref a1_), .val (.int nn), .val (.int po), .val (.int cc), .val (.int fl), .val (.ref b2_), .unset, .unset, .unset] [(.int fl), (.int cc), (.int po), (.int (11 : Int32)), (.ref a1_), (.int (11 : Int32)), (.ref b2_)])
        obtain ⟨_, _, ⟨T146_, L146_, k146_, n146_⟩, -, X146_, ⟨Lc146_, hQ146_, l146_, y146_, z146_⟩, st146_⟩ := Jvm.LawKit.callS Xl hx (y := (⟨"com/example/lichen/lichen/webhook/EventTypeOfPinLaw", "pick", "(Ljava/lang/String;IICZ)C"⟩ : MethodName)) hown1_ (mvT hZ1_ (own_w hw 11 rfl)) (mvT hZ1_ (own_w hw 12 rfl)) (mvT hZ1_ (own_w hw 13 rfl)) (mvT hZ1_ (own_w hw 14 rfl)) (by decide) (backOf (W := 2) (own_rm_pick l Z a0 hw [] a1_ cz b1_ kb1_ (12 : Int32) own_v1 own_t1 fm (11 : Int32) 11 po cc fl hl n0 Zl Ol S1 P5 S2 r_fm Ex Fx Fy Vx own_lita1 (by decide) own_litr1 rfl (by decide) hcc) hZ1_ (own_w hw 14 rfl) (own_w hw 13 rfl) (by decide) (by decide)) (g := (mkF m 337 #[.val (.int p1), .val (.int p2), .val (.int p3), .val (.int p4), .val (.int p5), .val (.ref a1_), .val (.int nn), .val (.int po), .val (.int cc), .val (.int fl), .val (.ref b2_), .unset, .unset, .unset] [(.int fl), (.int cc), (.int po), (.int (11 : Int32)), (.ref a1_), (.int (11 : Int32)), (.ref b2_)])) rfl (by rw [hml]; rfl) (argsL := [(.ref a1_), (.int (11 : Int32)), (.int po), (.int cc), (.int fl)]) (rest := [(.int (11 : Int32)), (.ref b2_)]) (lenOf own_pd24 rfl) rfl (by show 2 * 0 + _ ≤ _; exact Nat.le_of_eq rfl) (hb hby at_337) (fun _ _ => ⟨rfl, el, (by decide : (0 + 2 + 1) + 0 ≤ _), (by decide : (0 + (48 + 4) + 19) + 0 ≤ _)⟩)
        dsimp only [Pt.U, Pt.locs, Pt.cells, Pt.slots] at X146_ l146_ y146_ z146_ st146_ hQ146_
        subst l146_ y146_ z146_
        obtain ⟨rk, rfl, Nq146_, hh146_, hrk⟩ := hQ146_
        have N146_ := Fr.app Nl Nq146_
        refine own_viaH (fun _ kq => st146_ _ kq) ?_
        show own_FinH _ _ _ _ _ _ _ _ _ T146_ (mkF m 340 #[.val (.int p1), .val (.int p2), .val (.int p3), .val (.int p4), .val (.int p5), .val (.ref a1_), .val (.int nn), .val (.int po), .val (.int cc), .val (.int fl), .val (.ref b2_), .unset, .unset, .unset] [(.int rk), (.int (11 : Int32)), (.ref b2_)])
        obtain ⟨c147_, Ar147_, q147_, S147_, M147_, H147_, G147_⟩ := (id Vl)
        have hin147_ : ¬ ((11 : Int32) < 0 ∨ c147_.slots.size ≤ ((11 : Int32)).toNatClampNeg) := inb_of S147_ (own_inb (i := 11) rfl hN hlt hn10)
        obtain ⟨T147_, h147_, X147_, e147_, W147_, st147_⟩ := stC X146_ hx hZ1_ hh146_ Ar147_ (j := (11 : Int32)) hin147_ (g := (mkF m 340 #[.val (.int p1), .val (.int p2), .val (.int p3), .val (.int p4), .val (.int p5), .val (.ref a1_), .val (.int nn), .val (.int po), .val (.int cc), .val (.int fl), .val (.ref b2_), .unset, .unset, .unset] [(.int rk), (.int (11 : Int32)), (.ref b2_)])) rfl rfl (hb hby at_340)
        have V147_ := Arv.set Ar147_ q147_ S147_ M147_ H147_ G147_ (fits_nar_char _) W147_ 11 (own_clamp (i := 11) rfl (by decide)) (by rw [List.length_map, hxl]; exact hlt)
        have U147_ : Arv Z h147_ b2_ k2_ .char nn (((xs.map Value.int)).set 11 (.int rk)) (.int 0) := by
          have hq := V147_
          rw [show nar .char rk = rk from (own_narch hrk)] at hq
          exact hq
        have N147_ := Fr.snoc X147_ N146_ g5_
        refine own_viaH (fun _ kq => st147_ _ kq) ?_
        show own_FinH _ _ _ _ _ _ _ _ _ T147_ (mkF m 341 #[.val (.int p1), .val (.int p2), .val (.int p3), .val (.int p4), .val (.int p5), .val (.ref a1_), .val (.int nn), .val (.int po), .val (.int cc), .val (.int fl), .val (.ref b2_), .unset, .unset, .unset] [])
        have Vz : Arv Z h147_ b2_ k2_ .char nn ((xs.set 11 rk).map Value.int) (.int 0) := by rw [List.map_set]; exact U147_
        have sf149_ : Safe Z own_EL T1_.vm hl b2_ := Safe.arv hZ1_.alike Vl (by decide)
        have C148_ := Cl.trans (CHr.wr W147_ sf149_ Cl.1)
        have H148_ := C148_.1
        exact s341 (xs.set 11 rk) T147_ _ X147_ N147_ _ e147_ (Nat.le_trans hkl (Keep.of_wr W147_).1) C148_ (Ol.wr W147_ g5_) (Ex.wr W147_) (Fx.other W147_ (Or.inl q3_)) (Fy.other W147_ (Or.inl q3_)) (Vx.other W147_ q4_) Vz (by rw [List.length_set]; exact hxl) (own_chs_set hxs hrk)
      · refine own_viaH (fun _ kq => XS.icmpYes Xl.here hx rfl (pc0 := 320) (pc' := 341) rfl (hb hby at_320) rfl (flt hg).2.2.2 (by decide) (by decide) kq) ?_
        show own_FinH _ _ _ _ _ _ _ _ _ Tl (mkF m 341 #[.val (.int p1), .val (.int p2), .val (.int p3), .val (.int p4), .val (.int p5), .val (.ref a1_), .val (.int nn), .val (.int po), .val (.int cc), .val (.int fl), .val (.ref b2_), .unset, .unset, .unset] [])
        exact s341 xs Tl _ Xl Nl _ el hkl Cl Ol Ex Fx Fy Vx Vl (by assumption) (by assumption)
     have s291 : ∀ (xs : List Int32) (Tl : State) (locl : List Loc) (Xl : Stand p l e room_1 (s.setVm T1_.vm) m #[(.int p1), (.int p2), (.int p3), (.int p4), (.int p5)] below meth cde Tl locl (0 + 2 + 1) (0 + (48 + 4) + 19)) (Nl : Fr n0 locl) (hl : Heap) (el : Tl.heap = hl) (hkl : h2_.size ≤ hl.size) (Cl : CHr Z own_EL s.vm h0 T1_.vm hl) (Ol : Old Z n0 hl) (Ex : Exa Z hl a1_ "java/lang/String") (Fx : Fld Z hl a1_ "java/lang/String" "coder" "B" (.int (0 : Int32))) (Fy : Fld Z hl a1_ "java/lang/String" "value" "[B" (.ref b1_)) (Vx : Arv Z hl b1_ kb1_ .byte (12 : Int32) own_v1 (.int 0)) (Vl : Arv Z hl b2_ k2_ .char nn (xs.map Value.int) (.int 0)) (hxl : xs.length = n) (hxs : own_chs xs), own_FinH p e s below Z own_EL (own_Q_law Z p1 p2 p3 p4 p5 cz fm va kv bt ct sb tb ktb sc tc ktc em h0 n0) room_1.cells room_1.slots Tl (mkF m 291 #[.val (.int p1), .val (.int p2), .val (.int p3), .val (.int p4), .val (.int p5), .val (.ref a1_), .val (.int nn), .val (.int po), .val (.int cc), .val (.int fl), .val (.ref b2_), .unset, .unset, .unset] []) := by
      intro xs Tl locl Xl Nl hl el hkl Cl Ol Ex Fx Fy Vx Vl hxl hxs
      have Zl : n0 ≤ hl.size := Nat.le_trans Z0 Cl.2.1
      refine own_viaH (fun _ kq => XS.iload Xl.here hx rfl (hb hby at_291) rfl kq) ?_
      refine own_viaH (fun _ kq => XS.bipush Xl.here hx rfl (hb hby at_293) kq) ?_
      rcases Classical.em ((10 : Int32) < nn) with hg | hg
      · refine own_viaH (fun _ kq => XS.icmpNo Xl.here hx rfl (hb hby at_295) rfl (tlt hg).2.2.2 kq) ?_
        show own_FinH _ _ _ _ _ _ _ _ _ Tl (mkF m 298 #[.val (.int p1), .val (.int p2), .val (.int p3), .val (.int p4), .val (.int p5), .val (.ref a1_), .val (.int nn), .val (.int po), .val (.int cc), .val (.int fl), .val (.ref b2_), .unset, .unset, .unset] [])
        have hlt : 10 < n := own_kn (i := 10) rfl hN (by decide) hn4 hg
        refine own_viaH (fun _ kq => XS.aload Xl.here hx rfl (hb hby at_298) rfl rfl kq) ?_
        refine own_viaH (fun _ kq => XS.bipush Xl.here hx rfl (hb hby at_300) kq) ?_
        refine own_viaH (fun _ kq => XS.aload Xl.here hx rfl (hb hby at_302) rfl rfl kq) ?_
        refine own_viaH (fun _ kq => XS.bipush Xl.here hx rfl (hb hby at_304) kq) ?_
        refine own_viaH (fun _ kq => XS.iload Xl.here hx rfl (hb hby at_306) rfl kq) ?_
        refine own_viaH (fun _ kq => XS.iload Xl.here hx rfl (hb hby at_308) rfl kq) ?_
        show own_FinH _ _ _ _ _ _ _ _ _ Tl (mkF m 310 #[.val (.int p1), .val (.int p2), .val (.int p3), .val (.int p4), .val (.int p5), .val (.ref a1_), .val (.int nn), .val (.int po), .val (.int cc), .val (.int fl), .val (.ref b2_), .unset, .unset, .unset] [(.int cc), (.int po), (.int (10 : Int32)), (.ref a1_), (.int (10 : Int32)), (.ref b2_)])
        refine own_viaH (fun _ kq => XS.iload Xl.here hx rfl (hb hby at_310) rfl kq) ?_
        show own_FinH _ _ _ _ _ _ _ _ _ Tl (mkF m 312 #[.val (.int p1), .val (.int p2), .val (.int p3), .val (.int p4), .val (.int p5), .val (.ref a1_), .val (.int nn), .val (.int po), .val (.int cc), .val (.int fl), .val (.ref b2_), .unset, .unset, .unset] [(.int fl), (.int cc), (.int po), (.int (10 : Int32)), (.ref a1_), (.int (10 : Int32)), (.ref b2_)])
        obtain ⟨_, _, ⟨T150_, L150_, k150_, n150_⟩, -, X150_, ⟨Lc150_, hQ150_, l150_, y150_, z150_⟩, st150_⟩ := Jvm.LawKit.callS Xl hx (y := (⟨"com/example/lichen/lichen/webhook/EventTypeOfPinLaw", "pick", "(Ljava/lang/String;IICZ)C"⟩ : MethodName)) hown1_ (mvT hZ1_ (own_w hw 11 rfl)) (mvT hZ1_ (own_w hw 12 rfl)) (mvT hZ1_ (own_w hw 13 rfl)) (mvT hZ1_ (own_w hw 14 rfl)) (by decide) (backOf (W := 2) (own_rm_pick l Z a0 hw [] a1_ cz b1_ kb1_ (12 : Int32) own_v1 own_t1 fm (10 : Int32) 10 po cc fl hl n0 Zl Ol S1 P5 S2 r_fm Ex Fx Fy Vx own_lita1 (by decide) own_litr1 rfl (by decide) hcc) hZ1_ (own_w hw 14 rfl) (own_w hw 13 rfl) (by decide) (by decide)) (g := (mkF m 312 #[.val (.int p1), .val (.int p2), .val (.int p3), .val (.int p4), .val (.int p5), .val (.ref a1_), .val (.int nn), .val (.int po), .val (.int cc), .val (.int fl), .val (.ref b2_), .unset, .unset, .unset] [(.int fl), (.int cc), (.int po), (.int (10 : Int32)), (.ref a1_), (.int (10 : Int32)), (.ref b2_)])) rfl (by rw [hml]; rfl) (argsL := [(.ref a1_), (.int (10 : Int32)), (.int po), (.int cc), (.int fl)]) (rest := [(.int (10 : Int32)), (.ref b2_)]) (lenOf own_pd24 rfl) rfl (by show 2 * 0 + _ ≤ _; exact Nat.le_of_eq rfl) (hb hby at_312) (fun _ _ => ⟨rfl, el, (by decide : (0 + 2 + 1) + 0 ≤ _), (by decide : (0 + (48 + 4) + 19) + 0 ≤ _)⟩)
        dsimp only [Pt.U, Pt.locs, Pt.cells, Pt.slots] at X150_ l150_ y150_ z150_ st150_ hQ150_
        subst l150_ y150_ z150_
        obtain ⟨rk, rfl, Nq150_, hh150_, hrk⟩ := hQ150_
        have N150_ := Fr.app Nl Nq150_
        refine own_viaH (fun _ kq => st150_ _ kq) ?_
        show own_FinH _ _ _ _ _ _ _ _ _ T150_ (mkF m 315 #[.val (.int p1), .val (.int p2), .val (.int p3), .val (.int p4), .val (.int p5), .val (.ref a1_), .val (.int nn), .val (.int po), .val (.int cc), .val (.int fl), .val (.ref b2_), .unset, .unset, .unset] [(.int rk), (.int (10 : Int32)), (.ref b2_)])
        obtain ⟨c151_, Ar151_, q151_, S151_, M151_, H151_, G151_⟩ := (id Vl)
        have hin151_ : ¬ ((10 : Int32) < 0 ∨ c151_.slots.size ≤ ((10 : Int32)).toNatClampNeg) := inb_of S151_ (own_inb (i := 10) rfl hN hlt hn10)
        obtain ⟨T151_, h151_, X151_, e151_, W151_, st151_⟩ := stC X150_ hx hZ1_ hh150_ Ar151_ (j := (10 : Int32)) hin151_ (g := (mkF m 315 #[.val (.int p1), .val (.int p2), .val (.int p3), .val (.int p4), .val (.int p5), .val (.ref a1_), .val (.int nn), .val (.int po), .val (.int cc), .val (.int fl), .val (.ref b2_), .unset, .unset, .unset] [(.int rk), (.int (10 : Int32)), (.ref b2_)])) rfl rfl (hb hby at_315)
        have V151_ := Arv.set Ar151_ q151_ S151_ M151_ H151_ G151_ (fits_nar_char _) W151_ 10 (own_clamp (i := 10) rfl (by decide)) (by rw [List.length_map, hxl]; exact hlt)
        have U151_ : Arv Z h151_ b2_ k2_ .char nn (((xs.map Value.int)).set 10 (.int rk)) (.int 0) := by
          have hq := V151_
          rw [show nar .char rk = rk from (own_narch hrk)] at hq
          exact hq
        have N151_ := Fr.snoc X151_ N150_ g5_
        refine own_viaH (fun _ kq => st151_ _ kq) ?_
        show own_FinH _ _ _ _ _ _ _ _ _ T151_ (mkF m 316 #[.val (.int p1), .val (.int p2), .val (.int p3), .val (.int p4), .val (.int p5), .val (.ref a1_), .val (.int nn), .val (.int po), .val (.int cc), .val (.int fl), .val (.ref b2_), .unset, .unset, .unset] [])
        have Vz : Arv Z h151_ b2_ k2_ .char nn ((xs.set 10 rk).map Value.int) (.int 0) := by rw [List.map_set]; exact U151_
        have sf153_ : Safe Z own_EL T1_.vm hl b2_ := Safe.arv hZ1_.alike Vl (by decide)
        have C152_ := Cl.trans (CHr.wr W151_ sf153_ Cl.1)
        have H152_ := C152_.1
        exact s316 (xs.set 10 rk) T151_ _ X151_ N151_ _ e151_ (Nat.le_trans hkl (Keep.of_wr W151_).1) C152_ (Ol.wr W151_ g5_) (Ex.wr W151_) (Fx.other W151_ (Or.inl q3_)) (Fy.other W151_ (Or.inl q3_)) (Vx.other W151_ q4_) Vz (by rw [List.length_set]; exact hxl) (own_chs_set hxs hrk)
      · refine own_viaH (fun _ kq => XS.icmpYes Xl.here hx rfl (pc0 := 295) (pc' := 316) rfl (hb hby at_295) rfl (flt hg).2.2.2 (by decide) (by decide) kq) ?_
        show own_FinH _ _ _ _ _ _ _ _ _ Tl (mkF m 316 #[.val (.int p1), .val (.int p2), .val (.int p3), .val (.int p4), .val (.int p5), .val (.ref a1_), .val (.int nn), .val (.int po), .val (.int cc), .val (.int fl), .val (.ref b2_), .unset, .unset, .unset] [])
        exact s316 xs Tl _ Xl Nl _ el hkl Cl Ol Ex Fx Fy Vx Vl (by assumption) (by assumption)
     have s266 : ∀ (xs : List Int32) (Tl : State) (locl : List Loc) (Xl : Stand p l e room_1 (s.setVm T1_.vm) m #[(.int p1), (.int p2), (.int p3), (.int p4), (.int p5)] below meth cde Tl locl (0 + 2 + 1) (0 + (48 + 4) + 19)) (Nl : Fr n0 locl) (hl : Heap) (el : Tl.heap = hl) (hkl : h2_.size ≤ hl.size) (Cl : CHr Z own_EL s.vm h0 T1_.vm hl) (Ol : Old Z n0 hl) (Ex : Exa Z hl a1_ "java/lang/String") (Fx : Fld Z hl a1_ "java/lang/String" "coder" "B" (.int (0 : Int32))) (Fy : Fld Z hl a1_ "java/lang/String" "value" "[B" (.ref b1_)) (Vx : Arv Z hl b1_ kb1_ .byte (12 : Int32) own_v1 (.int 0)) (Vl : Arv Z hl b2_ k2_ .char nn (xs.map Value.int) (.int 0)) (hxl : xs.length = n) (hxs : own_chs xs), own_FinH p e s below Z own_EL (own_Q_law Z p1 p2 p3 p4 p5 cz fm va kv bt ct sb tb ktb sc tc ktc em h0 n0) room_1.cells room_1.slots Tl (mkF m 266 #[.val (.int p1), .val (.int p2), .val (.int p3), .val (.int p4), .val (.int p5), .val (.ref a1_), .val (.int nn), .val (.int po), .val (.int cc), .val (.int fl), .val (.ref b2_), .unset, .unset, .unset] []) := by
      intro xs Tl locl Xl Nl hl el hkl Cl Ol Ex Fx Fy Vx Vl hxl hxs
      have Zl : n0 ≤ hl.size := Nat.le_trans Z0 Cl.2.1
      refine own_viaH (fun _ kq => XS.iload Xl.here hx rfl (hb hby at_266) rfl kq) ?_
      refine own_viaH (fun _ kq => XS.bipush Xl.here hx rfl (hb hby at_268) kq) ?_
      rcases Classical.em ((9 : Int32) < nn) with hg | hg
      · refine own_viaH (fun _ kq => XS.icmpNo Xl.here hx rfl (hb hby at_270) rfl (tlt hg).2.2.2 kq) ?_
        show own_FinH _ _ _ _ _ _ _ _ _ Tl (mkF m 273 #[.val (.int p1), .val (.int p2), .val (.int p3), .val (.int p4), .val (.int p5), .val (.ref a1_), .val (.int nn), .val (.int po), .val (.int cc), .val (.int fl), .val (.ref b2_), .unset, .unset, .unset] [])
        have hlt : 9 < n := own_kn (i := 9) rfl hN (by decide) hn4 hg
        refine own_viaH (fun _ kq => XS.aload Xl.here hx rfl (hb hby at_273) rfl rfl kq) ?_
        refine own_viaH (fun _ kq => XS.bipush Xl.here hx rfl (hb hby at_275) kq) ?_
        refine own_viaH (fun _ kq => XS.aload Xl.here hx rfl (hb hby at_277) rfl rfl kq) ?_
        refine own_viaH (fun _ kq => XS.bipush Xl.here hx rfl (hb hby at_279) kq) ?_
        refine own_viaH (fun _ kq => XS.iload Xl.here hx rfl (hb hby at_281) rfl kq) ?_
        refine own_viaH (fun _ kq => XS.iload Xl.here hx rfl (hb hby at_283) rfl kq) ?_
        show own_FinH _ _ _ _ _ _ _ _ _ Tl (mkF m 285 #[.val (.int p1), .val (.int p2), .val (.int p3), .val (.int p4), .val (.int p5), .val (.ref a1_), .val (.int nn), .val (.int po), .val (.int cc), .val (.int fl), .val (.ref b2_), .unset, .unset, .unset] [(.int cc), (.int po), (.int (9 : Int32)), (.ref a1_), (.int (9 : Int32)), (.ref b2_)])
        refine own_viaH (fun _ kq => XS.iload Xl.here hx rfl (hb hby at_285) rfl kq) ?_
        show own_FinH _ _ _ _ _ _ _ _ _ Tl (mkF m 287 #[.val (.int p1), .val (.int p2), .val (.int p3), .val (.int p4), .val (.int p5), .val (.ref a1_), .val (.int nn), .val (.int po), .val (.int cc), .val (.int fl), .val (.ref b2_), .unset, .unset, .unset] [(.int fl), (.int cc), (.int po), (.int (9 : Int32)), (.ref a1_), (.int (9 : Int32)), (.ref b2_)])
        obtain ⟨_, _, ⟨T154_, L154_, k154_, n154_⟩, -, X154_, ⟨Lc154_, hQ154_, l154_, y154_, z154_⟩, st154_⟩ := Jvm.LawKit.callS Xl hx (y := (⟨"com/example/lichen/lichen/webhook/EventTypeOfPinLaw", "pick", "(Ljava/lang/String;IICZ)C"⟩ : MethodName)) hown1_ (mvT hZ1_ (own_w hw 11 rfl)) (mvT hZ1_ (own_w hw 12 rfl)) (mvT hZ1_ (own_w hw 13 rfl)) (mvT hZ1_ (own_w hw 14 rfl)) (by decide) (backOf (W := 2) (own_rm_pick l Z a0 hw [] a1_ cz b1_ kb1_ (12 : Int32) own_v1 own_t1 fm (9 : Int32) 9 po cc fl hl n0 Zl Ol S1 P5 S2 r_fm Ex Fx Fy Vx own_lita1 (by decide) own_litr1 rfl (by decide) hcc) hZ1_ (own_w hw 14 rfl) (own_w hw 13 rfl) (by decide) (by decide)) (g := (mkF m 287 #[.val (.int p1), .val (.int p2), .val (.int p3), .val (.int p4), .val (.int p5), .val (.ref a1_), .val (.int nn), .val (.int po), .val (.int cc), .val (.int fl), .val (.ref b2_), .unset, .unset, .unset] [(.int fl), (.int cc), (.int po), (.int (9 : Int32)), (.ref a1_), (.int (9 : Int32)), (.ref b2_)])) rfl (by rw [hml]; rfl) (argsL := [(.ref a1_), (.int (9 : Int32)), (.int po), (.int cc), (.int fl)]) (rest := [(.int (9 : Int32)), (.ref b2_)]) (lenOf own_pd24 rfl) rfl (by show 2 * 0 + _ ≤ _; exact Nat.le_of_eq rfl) (hb hby at_287) (fun _ _ => ⟨rfl, el, (by decide : (0 + 2 + 1) + 0 ≤ _), (by decide : (0 + (48 + 4) + 19) + 0 ≤ _)⟩)
        dsimp only [Pt.U, Pt.locs, Pt.cells, Pt.slots] at X154_ l154_ y154_ z154_ st154_ hQ154_
        subst l154_ y154_ z154_
        obtain ⟨rk, rfl, Nq154_, hh154_, hrk⟩ := hQ154_
        have N154_ := Fr.app Nl Nq154_
        refine own_viaH (fun _ kq => st154_ _ kq) ?_
        show own_FinH _ _ _ _ _ _ _ _ _ T154_ (mkF m 290 #[.val (.int p1), .val (.int p2), .val (.int p3), .val (.int p4), .val (.int p5), .val (.ref a1_), .val (.int nn), .val (.int po), .val (.int cc), .val (.int fl), .val (.ref b2_), .unset, .unset, .unset] [(.int rk), (.int (9 : Int32)), (.ref b2_)])
        obtain ⟨c155_, Ar155_, q155_, S155_, M155_, H155_, G155_⟩ := (id Vl)
        have hin155_ : ¬ ((9 : Int32) < 0 ∨ c155_.slots.size ≤ ((9 : Int32)).toNatClampNeg) := inb_of S155_ (own_inb (i := 9) rfl hN hlt hn10)
        obtain ⟨T155_, h155_, X155_, e155_, W155_, st155_⟩ := stC X154_ hx hZ1_ hh154_ Ar155_ (j := (9 : Int32)) hin155_ (g := (mkF m 290 #[.val (.int p1), .val (.int p2), .val (.int p3), .val (.int p4), .val (.int p5), .val (.ref a1_), .val (.int nn), .val (.int po), .val (.int cc), .val (.int fl), .val (.ref b2_), .unset, .unset, .unset] [(.int rk), (.int (9 : Int32)), (.ref b2_)])) rfl rfl (hb hby at_290)
        have V155_ := Arv.set Ar155_ q155_ S155_ M155_ H155_ G155_ (fits_nar_char _) W155_ 9 (own_clamp (i := 9) rfl (by decide)) (by rw [List.length_map, hxl]; exact hlt)
        have U155_ : Arv Z h155_ b2_ k2_ .char nn (((xs.map Value.int)).set 9 (.int rk)) (.int 0) := by
          have hq := V155_
          rw [show nar .char rk = rk from (own_narch hrk)] at hq
          exact hq
        have N155_ := Fr.snoc X155_ N154_ g5_
        refine own_viaH (fun _ kq => st155_ _ kq) ?_
        show own_FinH _ _ _ _ _ _ _ _ _ T155_ (mkF m 291 #[.val (.int p1), .val (.int p2), .val (.int p3), .val (.int p4), .val (.int p5), .val (.ref a1_), .val (.int nn), .val (.int po), .val (.int cc), .val (.int fl), .val (.ref b2_), .unset, .unset, .unset] [])
        have Vz : Arv Z h155_ b2_ k2_ .char nn ((xs.set 9 rk).map Value.int) (.int 0) := by rw [List.map_set]; exact U155_
        have sf157_ : Safe Z own_EL T1_.vm hl b2_ := Safe.arv hZ1_.alike Vl (by decide)
        have C156_ := Cl.trans (CHr.wr W155_ sf157_ Cl.1)
        have H156_ := C156_.1
        exact s291 (xs.set 9 rk) T155_ _ X155_ N155_ _ e155_ (Nat.le_trans hkl (Keep.of_wr W155_).1) C156_ (Ol.wr W155_ g5_) (Ex.wr W155_) (Fx.other W155_ (Or.inl q3_)) (Fy.other W155_ (Or.inl q3_)) (Vx.other W155_ q4_) Vz (by rw [List.length_set]; exact hxl) (own_chs_set hxs hrk)
      · refine own_viaH (fun _ kq => XS.icmpYes Xl.here hx rfl (pc0 := 270) (pc' := 291) rfl (hb hby at_270) rfl (flt hg).2.2.2 (by decide) (by decide) kq) ?_
        show own_FinH _ _ _ _ _ _ _ _ _ Tl (mkF m 291 #[.val (.int p1), .val (.int p2), .val (.int p3), .val (.int p4), .val (.int p5), .val (.ref a1_), .val (.int nn), .val (.int po), .val (.int cc), .val (.int fl), .val (.ref b2_), .unset, .unset, .unset] [])
        exact s291 xs Tl _ Xl Nl _ el hkl Cl Ol Ex Fx Fy Vx Vl (by assumption) (by assumption)
     have s241 : ∀ (xs : List Int32) (Tl : State) (locl : List Loc) (Xl : Stand p l e room_1 (s.setVm T1_.vm) m #[(.int p1), (.int p2), (.int p3), (.int p4), (.int p5)] below meth cde Tl locl (0 + 2 + 1) (0 + (48 + 4) + 19)) (Nl : Fr n0 locl) (hl : Heap) (el : Tl.heap = hl) (hkl : h2_.size ≤ hl.size) (Cl : CHr Z own_EL s.vm h0 T1_.vm hl) (Ol : Old Z n0 hl) (Ex : Exa Z hl a1_ "java/lang/String") (Fx : Fld Z hl a1_ "java/lang/String" "coder" "B" (.int (0 : Int32))) (Fy : Fld Z hl a1_ "java/lang/String" "value" "[B" (.ref b1_)) (Vx : Arv Z hl b1_ kb1_ .byte (12 : Int32) own_v1 (.int 0)) (Vl : Arv Z hl b2_ k2_ .char nn (xs.map Value.int) (.int 0)) (hxl : xs.length = n) (hxs : own_chs xs), own_FinH p e s below Z own_EL (own_Q_law Z p1 p2 p3 p4 p5 cz fm va kv bt ct sb tb ktb sc tc ktc em h0 n0) room_1.cells room_1.slots Tl (mkF m 241 #[.val (.int p1), .val (.int p2), .val (.int p3), .val (.int p4), .val (.int p5), .val (.ref a1_), .val (.int nn), .val (.int po), .val (.int cc), .val (.int fl), .val (.ref b2_), .unset, .unset, .unset] []) := by
      intro xs Tl locl Xl Nl hl el hkl Cl Ol Ex Fx Fy Vx Vl hxl hxs
      have Zl : n0 ≤ hl.size := Nat.le_trans Z0 Cl.2.1
      refine own_viaH (fun _ kq => XS.iload Xl.here hx rfl (hb hby at_241) rfl kq) ?_
      refine own_viaH (fun _ kq => XS.bipush Xl.here hx rfl (hb hby at_243) kq) ?_
      rcases Classical.em ((8 : Int32) < nn) with hg | hg
      · refine own_viaH (fun _ kq => XS.icmpNo Xl.here hx rfl (hb hby at_245) rfl (tlt hg).2.2.2 kq) ?_
        show own_FinH _ _ _ _ _ _ _ _ _ Tl (mkF m 248 #[.val (.int p1), .val (.int p2), .val (.int p3), .val (.int p4), .val (.int p5), .val (.ref a1_), .val (.int nn), .val (.int po), .val (.int cc), .val (.int fl), .val (.ref b2_), .unset, .unset, .unset] [])
        have hlt : 8 < n := own_kn (i := 8) rfl hN (by decide) hn4 hg
        refine own_viaH (fun _ kq => XS.aload Xl.here hx rfl (hb hby at_248) rfl rfl kq) ?_
        refine own_viaH (fun _ kq => XS.bipush Xl.here hx rfl (hb hby at_250) kq) ?_
        refine own_viaH (fun _ kq => XS.aload Xl.here hx rfl (hb hby at_252) rfl rfl kq) ?_
        refine own_viaH (fun _ kq => XS.bipush Xl.here hx rfl (hb hby at_254) kq) ?_
        refine own_viaH (fun _ kq => XS.iload Xl.here hx rfl (hb hby at_256) rfl kq) ?_
        refine own_viaH (fun _ kq => XS.iload Xl.here hx rfl (hb hby at_258) rfl kq) ?_
        show own_FinH _ _ _ _ _ _ _ _ _ Tl (mkF m 260 #[.val (.int p1), .val (.int p2), .val (.int p3), .val (.int p4), .val (.int p5), .val (.ref a1_), .val (.int nn), .val (.int po), .val (.int cc), .val (.int fl), .val (.ref b2_), .unset, .unset, .unset] [(.int cc), (.int po), (.int (8 : Int32)), (.ref a1_), (.int (8 : Int32)), (.ref b2_)])
        refine own_viaH (fun _ kq => XS.iload Xl.here hx rfl (hb hby at_260) rfl kq) ?_
        show own_FinH _ _ _ _ _ _ _ _ _ Tl (mkF m 262 #[.val (.int p1), .val (.int p2), .val (.int p3), .val (.int p4), .val (.int p5), .val (.ref a1_), .val (.int nn), .val (.int po), .val (.int cc), .val (.int fl), .val (.ref b2_), .unset, .unset, .unset] [(.int fl), (.int cc), (.int po), (.int (8 : Int32)), (.ref a1_), (.int (8 : Int32)), (.ref b2_)])
        obtain ⟨_, _, ⟨T158_, L158_, k158_, n158_⟩, -, X158_, ⟨Lc158_, hQ158_, l158_, y158_, z158_⟩, st158_⟩ := Jvm.LawKit.callS Xl hx (y := (⟨"com/example/lichen/lichen/webhook/EventTypeOfPinLaw", "pick", "(Ljava/lang/String;IICZ)C"⟩ : MethodName)) hown1_ (mvT hZ1_ (own_w hw 11 rfl)) (mvT hZ1_ (own_w hw 12 rfl)) (mvT hZ1_ (own_w hw 13 rfl)) (mvT hZ1_ (own_w hw 14 rfl)) (by decide) (backOf (W := 2) (own_rm_pick l Z a0 hw [] a1_ cz b1_ kb1_ (12 : Int32) own_v1 own_t1 fm (8 : Int32) 8 po cc fl hl n0 Zl Ol S1 P5 S2 r_fm Ex Fx Fy Vx own_lita1 (by decide) own_litr1 rfl (by decide) hcc) hZ1_ (own_w hw 14 rfl) (own_w hw 13 rfl) (by decide) (by decide)) (g := (mkF m 262 #[.val (.int p1), .val (.int p2), .val (.int p3), .val (.int p4), .val (.int p5), .val (.ref a1_), .val (.int nn), .val (.int po), .val (.int cc), .val (.int fl), .val (.ref b2_), .unset, .unset, .unset] [(.int fl), (.int cc), (.int po), (.int (8 : Int32)), (.ref a1_), (.int (8 : Int32)), (.ref b2_)])) rfl (by rw [hml]; rfl) (argsL := [(.ref a1_), (.int (8 : Int32)), (.int po), (.int cc), (.int fl)]) (rest := [(.int (8 : Int32)), (.ref b2_)]) (lenOf own_pd24 rfl) rfl (by show 2 * 0 + _ ≤ _; exact Nat.le_of_eq rfl) (hb hby at_262) (fun _ _ => ⟨rfl, el, (by decide : (0 + 2 + 1) + 0 ≤ _), (by decide : (0 + (48 + 4) + 19) + 0 ≤ _)⟩)
        dsimp only [Pt.U, Pt.locs, Pt.cells, Pt.slots] at X158_ l158_ y158_ z158_ st158_ hQ158_
        subst l158_ y158_ z158_
        obtain ⟨rk, rfl, Nq158_, hh158_, hrk⟩ := hQ158_
        have N158_ := Fr.app Nl Nq158_
        refine own_viaH (fun _ kq => st158_ _ kq) ?_
        show own_FinH _ _ _ _ _ _ _ _ _ T158_ (mkF m 265 #[.val (.int p1), .val (.int p2), .val (.int p3), .val (.int p4), .val (.int p5), .val (.ref a1_), .val (.int nn), .val (.int po), .val (.int cc), .val (.int fl), .val (.ref b2_), .unset, .unset, .unset] [(.int rk), (.int (8 : Int32)), (.ref b2_)])
        obtain ⟨c159_, Ar159_, q159_, S159_, M159_, H159_, G159_⟩ := (id Vl)
        have hin159_ : ¬ ((8 : Int32) < 0 ∨ c159_.slots.size ≤ ((8 : Int32)).toNatClampNeg) := inb_of S159_ (own_inb (i := 8) rfl hN hlt hn10)
        obtain ⟨T159_, h159_, X159_, e159_, W159_, st159_⟩ := stC X158_ hx hZ1_ hh158_ Ar159_ (j := (8 : Int32)) hin159_ (g := (mkF m 265 #[.val (.int p1), .val (.int p2), .val (.int p3), .val (.int p4), .val (.int p5), .val (.ref a1_), .val (.int nn), .val (.int po), .val (.int cc), .val (.int fl), .val (.ref b2_), .unset, .unset, .unset] [(.int rk), (.int (8 : Int32)), (.ref b2_)])) rfl rfl (hb hby at_265)
        have V159_ := Arv.set Ar159_ q159_ S159_ M159_ H159_ G159_ (fits_nar_char _) W159_ 8 (own_clamp (i := 8) rfl (by decide)) (by rw [List.length_map, hxl]; exact hlt)
        have U159_ : Arv Z h159_ b2_ k2_ .char nn (((xs.map Value.int)).set 8 (.int rk)) (.int 0) := by
          have hq := V159_
          rw [show nar .char rk = rk from (own_narch hrk)] at hq
          exact hq
        have N159_ := Fr.snoc X159_ N158_ g5_
        refine own_viaH (fun _ kq => st159_ _ kq) ?_
        show own_FinH _ _ _ _ _ _ _ _ _ T159_ (mkF m 266 #[.val (.int p1), .val (.int p2), .val (.int p3), .val (.int p4), .val (.int p5), .val (.ref a1_), .val (.int nn), .val (.int po), .val (.int cc), .val (.int fl), .val (.ref b2_), .unset, .unset, .unset] [])
        have Vz : Arv Z h159_ b2_ k2_ .char nn ((xs.set 8 rk).map Value.int) (.int 0) := by rw [List.map_set]; exact U159_
        have sf161_ : Safe Z own_EL T1_.vm hl b2_ := Safe.arv hZ1_.alike Vl (by decide)
        have C160_ := Cl.trans (CHr.wr W159_ sf161_ Cl.1)
        have H160_ := C160_.1
        exact s266 (xs.set 8 rk) T159_ _ X159_ N159_ _ e159_ (Nat.le_trans hkl (Keep.of_wr W159_).1) C160_ (Ol.wr W159_ g5_) (Ex.wr W159_) (Fx.other W159_ (Or.inl q3_)) (Fy.other W159_ (Or.inl q3_)) (Vx.other W159_ q4_) Vz (by rw [List.length_set]; exact hxl) (own_chs_set hxs hrk)
      · refine own_viaH (fun _ kq => XS.icmpYes Xl.here hx rfl (pc0 := 245) (pc' := 266) rfl (hb hby at_245) rfl (flt hg).2.2.2 (by decide) (by decide) kq) ?_
        show own_FinH _ _ _ _ _ _ _ _ _ Tl (mkF m 266 #[.val (.int p1), .val (.int p2), .val (.int p3), .val (.int p4), .val (.int p5), .val (.ref a1_), .val (.int nn), .val (.int po), .val (.int cc), .val (.int fl), .val (.ref b2_), .unset, .unset, .unset] [])
        exact s266 xs Tl _ Xl Nl _ el hkl Cl Ol Ex Fx Fy Vx Vl (by assumption) (by assumption)
     have s216 : ∀ (xs : List Int32) (Tl : State) (locl : List Loc) (Xl : Stand p l e room_1 (s.setVm T1_.vm) m #[(.int p1), (.int p2), (.int p3), (.int p4), (.int p5)] below meth cde Tl locl (0 + 2 + 1) (0 + (48 + 4) + 19)) (Nl : Fr n0 locl) (hl : Heap) (el : Tl.heap = hl) (hkl : h2_.size ≤ hl.size) (Cl : CHr Z own_EL s.vm h0 T1_.vm hl) (Ol : Old Z n0 hl) (Ex : Exa Z hl a1_ "java/lang/String") (Fx : Fld Z hl a1_ "java/lang/String" "coder" "B" (.int (0 : Int32))) (Fy : Fld Z hl a1_ "java/lang/String" "value" "[B" (.ref b1_)) (Vx : Arv Z hl b1_ kb1_ .byte (12 : Int32) own_v1 (.int 0)) (Vl : Arv Z hl b2_ k2_ .char nn (xs.map Value.int) (.int 0)) (hxl : xs.length = n) (hxs : own_chs xs), own_FinH p e s below Z own_EL (own_Q_law Z p1 p2 p3 p4 p5 cz fm va kv bt ct sb tb ktb sc tc ktc em h0 n0) room_1.cells room_1.slots Tl (mkF m 216 #[.val (.int p1), .val (.int p2), .val (.int p3), .val (.int p4), .val (.int p5), .val (.ref a1_), .val (.int nn), .val (.int po), .val (.int cc), .val (.int fl), .val (.ref b2_), .unset, .unset, .unset] []) := by
      intro xs Tl locl Xl Nl hl el hkl Cl Ol Ex Fx Fy Vx Vl hxl hxs
      have Zl : n0 ≤ hl.size := Nat.le_trans Z0 Cl.2.1
      refine own_viaH (fun _ kq => XS.iload Xl.here hx rfl (hb hby at_216) rfl kq) ?_
      refine own_viaH (fun _ kq => XS.bipush Xl.here hx rfl (hb hby at_218) kq) ?_
      rcases Classical.em ((7 : Int32) < nn) with hg | hg
      · refine own_viaH (fun _ kq => XS.icmpNo Xl.here hx rfl (hb hby at_220) rfl (tlt hg).2.2.2 kq) ?_
        show own_FinH _ _ _ _ _ _ _ _ _ Tl (mkF m 223 #[.val (.int p1), .val (.int p2), .val (.int p3), .val (.int p4), .val (.int p5), .val (.ref a1_), .val (.int nn), .val (.int po), .val (.int cc), .val (.int fl), .val (.ref b2_), .unset, .unset, .unset] [])
        have hlt : 7 < n := own_kn (i := 7) rfl hN (by decide) hn4 hg
        refine own_viaH (fun _ kq => XS.aload Xl.here hx rfl (hb hby at_223) rfl rfl kq) ?_
        refine own_viaH (fun _ kq => XS.bipush Xl.here hx rfl (hb hby at_225) kq) ?_
        refine own_viaH (fun _ kq => XS.aload Xl.here hx rfl (hb hby at_227) rfl rfl kq) ?_
        refine own_viaH (fun _ kq => XS.bipush Xl.here hx rfl (hb hby at_229) kq) ?_
        refine own_viaH (fun _ kq => XS.iload Xl.here hx rfl (hb hby at_231) rfl kq) ?_
        refine own_viaH (fun _ kq => XS.iload Xl.here hx rfl (hb hby at_233) rfl kq) ?_
        show own_FinH _ _ _ _ _ _ _ _ _ Tl (mkF m 235 #[.val (.int p1), .val (.int p2), .val (.int p3), .val (.int p4), .val (.int p5), .val (.ref a1_), .val (.int nn), .val (.int po), .val (.int cc), .val (.int fl), .val (.ref b2_), .unset, .unset, .unset] [(.int cc), (.int po), (.int (7 : Int32)), (.ref a1_), (.int (7 : Int32)), (.ref b2_)])
        refine own_viaH (fun _ kq => XS.iload Xl.here hx rfl (hb hby at_235) rfl kq) ?_
        show own_FinH _ _ _ _ _ _ _ _ _ Tl (mkF m 237 #[.val (.int p1), .val (.int p2), .val (.int p3), .val (.int p4), .val (.int p5), .val (.ref a1_), .val (.int nn), .val (.int po), .val (.int cc), .val (.int fl), .val (.ref b2_), .unset, .unset, .unset] [(.int fl), (.int cc), (.int po), (.int (7 : Int32)), (.ref a1_), (.int (7 : Int32)), (.ref b2_)])
        obtain ⟨_, _, ⟨T162_, L162_, k162_, n162_⟩, -, X162_, ⟨Lc162_, hQ162_, l162_, y162_, z162_⟩, st162_⟩ := Jvm.LawKit.callS Xl hx (y := (⟨"com/example/lichen/lichen/webhook/EventTypeOfPinLaw", "pick", "(Ljava/lang/String;IICZ)C"⟩ : MethodName)) hown1_ (mvT hZ1_ (own_w hw 11 rfl)) (mvT hZ1_ (own_w hw 12 rfl)) (mvT hZ1_ (own_w hw 13 rfl)) (mvT hZ1_ (own_w hw 14 rfl)) (by decide) (backOf (W := 2) (own_rm_pick l Z a0 hw [] a1_ cz b1_ kb1_ (12 : Int32) own_v1 own_t1 fm (7 : Int32) 7 po cc fl hl n0 Zl Ol S1 P5 S2 r_fm Ex Fx Fy Vx own_lita1 (by decide) own_litr1 rfl (by decide) hcc) hZ1_ (own_w hw 14 rfl) (own_w hw 13 rfl) (by decide) (by decide)) (g := (mkF m 237 #[.val (.int p1), .val (.int p2), .val (.int p3), .val (.int p4), .val (.int p5), .val (.ref a1_), .val (.int nn), .val (.int po), .val (.int cc), .val (.int fl), .val (.ref b2_), .unset, .unset, .unset] [(.int fl), (.int cc), (.int po), (.int (7 : Int32)), (.ref a1_), (.int (7 : Int32)), (.ref b2_)])) rfl (by rw [hml]; rfl) (argsL := [(.ref a1_), (.int (7 : Int32)), (.int po), (.int cc), (.int fl)]) (rest := [(.int (7 : Int32)), (.ref b2_)]) (lenOf own_pd24 rfl) rfl (by show 2 * 0 + _ ≤ _; exact Nat.le_of_eq rfl) (hb hby at_237) (fun _ _ => ⟨rfl, el, (by decide : (0 + 2 + 1) + 0 ≤ _), (by decide : (0 + (48 + 4) + 19) + 0 ≤ _)⟩)
        dsimp only [Pt.U, Pt.locs, Pt.cells, Pt.slots] at X162_ l162_ y162_ z162_ st162_ hQ162_
        subst l162_ y162_ z162_
        obtain ⟨rk, rfl, Nq162_, hh162_, hrk⟩ := hQ162_
        have N162_ := Fr.app Nl Nq162_
        refine own_viaH (fun _ kq => st162_ _ kq) ?_
        show own_FinH _ _ _ _ _ _ _ _ _ T162_ (mkF m 240 #[.val (.int p1), .val (.int p2), .val (.int p3), .val (.int p4), .val (.int p5), .val (.ref a1_), .val (.int nn), .val (.int po), .val (.int cc), .val (.int fl), .val (.ref b2_), .unset, .unset, .unset] [(.int rk), (.int (7 : Int32)), (.ref b2_)])
        obtain ⟨c163_, Ar163_, q163_, S163_, M163_, H163_, G163_⟩ := (id Vl)
        have hin163_ : ¬ ((7 : Int32) < 0 ∨ c163_.slots.size ≤ ((7 : Int32)).toNatClampNeg) := inb_of S163_ (own_inb (i := 7) rfl hN hlt hn10)
        obtain ⟨T163_, h163_, X163_, e163_, W163_, st163_⟩ := stC X162_ hx hZ1_ hh162_ Ar163_ (j := (7 : Int32)) hin163_ (g := (mkF m 240 #[.val (.int p1), .val (.int p2), .val (.int p3), .val (.int p4), .val (.int p5), .val (.ref a1_), .val (.int nn), .val (.int po), .val (.int cc), .val (.int fl), .val (.ref b2_), .unset, .unset, .unset] [(.int rk), (.int (7 : Int32)), (.ref b2_)])) rfl rfl (hb hby at_240)
        have V163_ := Arv.set Ar163_ q163_ S163_ M163_ H163_ G163_ (fits_nar_char _) W163_ 7 (own_clamp (i := 7) rfl (by decide)) (by rw [List.length_map, hxl]; exact hlt)
        have U163_ : Arv Z h163_ b2_ k2_ .char nn (((xs.map Value.int)).set 7 (.int rk)) (.int 0) := by
          have hq := V163_
          rw [show nar .char rk = rk from (own_narch hrk)] at hq
          exact hq
        have N163_ := Fr.snoc X163_ N162_ g5_
        refine own_viaH (fun _ kq => st163_ _ kq) ?_
        show own_FinH _ _ _ _ _ _ _ _ _ T163_ (mkF m 241 #[.val (.int p1), .val (.int p2), .val (.int p3), .val (.int p4), .val (.int p5), .val (.ref a1_), .val (.int nn), .val (.int po), .val (.int cc), .val (.int fl), .val (.ref b2_), .unset, .unset, .unset] [])
        have Vz : Arv Z h163_ b2_ k2_ .char nn ((xs.set 7 rk).map Value.int) (.int 0) := by rw [List.map_set]; exact U163_
        have sf165_ : Safe Z own_EL T1_.vm hl b2_ := Safe.arv hZ1_.alike Vl (by decide)
        have C164_ := Cl.trans (CHr.wr W163_ sf165_ Cl.1)
        have H164_ := C164_.1
        exact s241 (xs.set 7 rk) T163_ _ X163_ N163_ _ e163_ (Nat.le_trans hkl (Keep.of_wr W163_).1) C164_ (Ol.wr W163_ g5_) (Ex.wr W163_) (Fx.other W163_ (Or.inl q3_)) (Fy.other W163_ (Or.inl q3_)) (Vx.other W163_ q4_) Vz (by rw [List.length_set]; exact hxl) (own_chs_set hxs hrk)
      · refine own_viaH (fun _ kq => XS.icmpYes Xl.here hx rfl (pc0 := 220) (pc' := 241) rfl (hb hby at_220) rfl (flt hg).2.2.2 (by decide) (by decide) kq) ?_
        show own_FinH _ _ _ _ _ _ _ _ _ Tl (mkF m 241 #[.val (.int p1), .val (.int p2), .val (.int p3), .val (.int p4), .val (.int p5), .val (.ref a1_), .val (.int nn), .val (.int po), .val (.int cc), .val (.int fl), .val (.ref b2_), .unset, .unset, .unset] [])
        exact s241 xs Tl _ Xl Nl _ el hkl Cl Ol Ex Fx Fy Vx Vl (by assumption) (by assumption)
     have s191 : ∀ (xs : List Int32) (Tl : State) (locl : List Loc) (Xl : Stand p l e room_1 (s.setVm T1_.vm) m #[(.int p1), (.int p2), (.int p3), (.int p4), (.int p5)] below meth cde Tl locl (0 + 2 + 1) (0 + (48 + 4) + 19)) (Nl : Fr n0 locl) (hl : Heap) (el : Tl.heap = hl) (hkl : h2_.size ≤ hl.size) (Cl : CHr Z own_EL s.vm h0 T1_.vm hl) (Ol : Old Z n0 hl) (Ex : Exa Z hl a1_ "java/lang/String") (Fx : Fld Z hl a1_ "java/lang/String" "coder" "B" (.int (0 : Int32))) (Fy : Fld Z hl a1_ "java/lang/String" "value" "[B" (.ref b1_)) (Vx : Arv Z hl b1_ kb1_ .byte (12 : Int32) own_v1 (.int 0)) (Vl : Arv Z hl b2_ k2_ .char nn (xs.map Value.int) (.int 0)) (hxl : xs.length = n) (hxs : own_chs xs), own_FinH p e s below Z own_EL (own_Q_law Z p1 p2 p3 p4 p5 cz fm va kv bt ct sb tb ktb sc tc ktc em h0 n0) room_1.cells room_1.slots Tl (mkF m 191 #[.val (.int p1), .val (.int p2), .val (.int p3), .val (.int p4), .val (.int p5), .val (.ref a1_), .val (.int nn), .val (.int po), .val (.int cc), .val (.int fl), .val (.ref b2_), .unset, .unset, .unset] []) := by
      intro xs Tl locl Xl Nl hl el hkl Cl Ol Ex Fx Fy Vx Vl hxl hxs
      have Zl : n0 ≤ hl.size := Nat.le_trans Z0 Cl.2.1
      refine own_viaH (fun _ kq => XS.iload Xl.here hx rfl (hb hby at_191) rfl kq) ?_
      refine own_viaH (fun _ kq => XS.bipush Xl.here hx rfl (hb hby at_193) kq) ?_
      rcases Classical.em ((6 : Int32) < nn) with hg | hg
      · refine own_viaH (fun _ kq => XS.icmpNo Xl.here hx rfl (hb hby at_195) rfl (tlt hg).2.2.2 kq) ?_
        show own_FinH _ _ _ _ _ _ _ _ _ Tl (mkF m 198 #[.val (.int p1), .val (.int p2), .val (.int p3), .val (.int p4), .val (.int p5), .val (.ref a1_), .val (.int nn), .val (.int po), .val (.int cc), .val (.int fl), .val (.ref b2_), .unset, .unset, .unset] [])
        have hlt : 6 < n := own_kn (i := 6) rfl hN (by decide) hn4 hg
        refine own_viaH (fun _ kq => XS.aload Xl.here hx rfl (hb hby at_198) rfl rfl kq) ?_
        refine own_viaH (fun _ kq => XS.bipush Xl.here hx rfl (hb hby at_200) kq) ?_
        refine own_viaH (fun _ kq => XS.aload Xl.here hx rfl (hb hby at_202) rfl rfl kq) ?_
        refine own_viaH (fun _ kq => XS.bipush Xl.here hx rfl (hb hby at_204) kq) ?_
        refine own_viaH (fun _ kq => XS.iload Xl.here hx rfl (hb hby at_206) rfl kq) ?_
        refine own_viaH (fun _ kq => XS.iload Xl.here hx rfl (hb hby at_208) rfl kq) ?_
        show own_FinH _ _ _ _ _ _ _ _ _ Tl (mkF m 210 #[.val (.int p1), .val (.int p2), .val (.int p3), .val (.int p4), .val (.int p5), .val (.ref a1_), .val (.int nn), .val (.int po), .val (.int cc), .val (.int fl), .val (.ref b2_), .unset, .unset, .unset] [(.int cc), (.int po), (.int (6 : Int32)), (.ref a1_), (.int (6 : Int32)), (.ref b2_)])
        refine own_viaH (fun _ kq => XS.iload Xl.here hx rfl (hb hby at_210) rfl kq) ?_
        show own_FinH _ _ _ _ _ _ _ _ _ Tl (mkF m 212 #[.val (.int p1), .val (.int p2), .val (.int p3), .val (.int p4), .val (.int p5), .val (.ref a1_), .val (.int nn), .val (.int po), .val (.int cc), .val (.int fl), .val (.ref b2_), .unset, .unset, .unset] [(.int fl), (.int cc), (.int po), (.int (6 : Int32)), (.ref a1_), (.int (6 : Int32)), (.ref b2_)])
        obtain ⟨_, _, ⟨T166_, L166_, k166_, n166_⟩, -, X166_, ⟨Lc166_, hQ166_, l166_, y166_, z166_⟩, st166_⟩ := Jvm.LawKit.callS Xl hx (y := (⟨"com/example/lichen/lichen/webhook/EventTypeOfPinLaw", "pick", "(Ljava/lang/String;IICZ)C"⟩ : MethodName)) hown1_ (mvT hZ1_ (own_w hw 11 rfl)) (mvT hZ1_ (own_w hw 12 rfl)) (mvT hZ1_ (own_w hw 13 rfl)) (mvT hZ1_ (own_w hw 14 rfl)) (by decide) (backOf (W := 2) (own_rm_pick l Z a0 hw [] a1_ cz b1_ kb1_ (12 : Int32) own_v1 own_t1 fm (6 : Int32) 6 po cc fl hl n0 Zl Ol S1 P5 S2 r_fm Ex Fx Fy Vx own_lita1 (by decide) own_litr1 rfl (by decide) hcc) hZ1_ (own_w hw 14 rfl) (own_w hw 13 rfl) (by decide) (by decide)) (g := (mkF m 212 #[.val (.int p1), .val (.int p2), .val (.int p3), .val (.int p4), .val (.int p5), .val (.ref a1_), .val (.int nn), .val (.int po), .val (.int cc), .val (.int fl), .val (.ref b2_), .unset, .unset, .unset] [(.int fl), (.int cc), (.int po), (.int (6 : Int32)), (.ref a1_), (.int (6 : Int32)), (.ref b2_)])) rfl (by rw [hml]; rfl) (argsL := [(.ref a1_), (.int (6 : Int32)), (.int po), (.int cc), (.int fl)]) (rest := [(.int (6 : Int32)), (.ref b2_)]) (lenOf own_pd24 rfl) rfl (by show 2 * 0 + _ ≤ _; exact Nat.le_of_eq rfl) (hb hby at_212) (fun _ _ => ⟨rfl, el, (by decide : (0 + 2 + 1) + 0 ≤ _), (by decide : (0 + (48 + 4) + 19) + 0 ≤ _)⟩)
        dsimp only [Pt.U, Pt.locs, Pt.cells, Pt.slots] at X166_ l166_ y166_ z166_ st166_ hQ166_
        subst l166_ y166_ z166_
        obtain ⟨rk, rfl, Nq166_, hh166_, hrk⟩ := hQ166_
        have N166_ := Fr.app Nl Nq166_
        refine own_viaH (fun _ kq => st166_ _ kq) ?_
        show own_FinH _ _ _ _ _ _ _ _ _ T166_ (mkF m 215 #[.val (.int p1), .val (.int p2), .val (.int p3), .val (.int p4), .val (.int p5), .val (.ref a1_), .val (.int nn), .val (.int po), .val (.int cc), .val (.int fl), .val (.ref b2_), .unset, .unset, .unset] [(.int rk), (.int (6 : Int32)), (.ref b2_)])
        obtain ⟨c167_, Ar167_, q167_, S167_, M167_, H167_, G167_⟩ := (id Vl)
        have hin167_ : ¬ ((6 : Int32) < 0 ∨ c167_.slots.size ≤ ((6 : Int32)).toNatClampNeg) := inb_of S167_ (own_inb (i := 6) rfl hN hlt hn10)
        obtain ⟨T167_, h167_, X167_, e167_, W167_, st167_⟩ := stC X166_ hx hZ1_ hh166_ Ar167_ (j := (6 : Int32)) hin167_ (g := (mkF m 215 #[.val (.int p1), .val (.int p2), .val (.int p3), .val (.int p4), .val (.int p5), .val (.ref a1_), .val (.int nn), .val (.int po), .val (.int cc), .val (.int fl), .val (.ref b2_), .unset, .unset, .unset] [(.int rk), (.int (6 : Int32)), (.ref b2_)])) rfl rfl (hb hby at_215)
        have V167_ := Arv.set Ar167_ q167_ S167_ M167_ H167_ G167_ (fits_nar_char _) W167_ 6 (own_clamp (i := 6) rfl (by decide)) (by rw [List.length_map, hxl]; exact hlt)
        have U167_ : Arv Z h167_ b2_ k2_ .char nn (((xs.map Value.int)).set 6 (.int rk)) (.int 0) := by
          have hq := V167_
          rw [show nar .char rk = rk from (own_narch hrk)] at hq
          exact hq
        have N167_ := Fr.snoc X167_ N166_ g5_
        refine own_viaH (fun _ kq => st167_ _ kq) ?_
        show own_FinH _ _ _ _ _ _ _ _ _ T167_ (mkF m 216 #[.val (.int p1), .val (.int p2), .val (.int p3), .val (.int p4), .val (.int p5), .val (.ref a1_), .val (.int nn), .val (.int po), .val (.int cc), .val (.int fl), .val (.ref b2_), .unset, .unset, .unset] [])
        have Vz : Arv Z h167_ b2_ k2_ .char nn ((xs.set 6 rk).map Value.int) (.int 0) := by rw [List.map_set]; exact U167_
        have sf169_ : Safe Z own_EL T1_.vm hl b2_ := Safe.arv hZ1_.alike Vl (by decide)
        have C168_ := Cl.trans (CHr.wr W167_ sf169_ Cl.1)
        have H168_ := C168_.1
        exact s216 (xs.set 6 rk) T167_ _ X167_ N167_ _ e167_ (Nat.le_trans hkl (Keep.of_wr W167_).1) C168_ (Ol.wr W167_ g5_) (Ex.wr W167_) (Fx.other W167_ (Or.inl q3_)) (Fy.other W167_ (Or.inl q3_)) (Vx.other W167_ q4_) Vz (by rw [List.length_set]; exact hxl) (own_chs_set hxs hrk)
      · refine own_viaH (fun _ kq => XS.icmpYes Xl.here hx rfl (pc0 := 195) (pc' := 216) rfl (hb hby at_195) rfl (flt hg).2.2.2 (by decide) (by decide) kq) ?_
        show own_FinH _ _ _ _ _ _ _ _ _ Tl (mkF m 216 #[.val (.int p1), .val (.int p2), .val (.int p3), .val (.int p4), .val (.int p5), .val (.ref a1_), .val (.int nn), .val (.int po), .val (.int cc), .val (.int fl), .val (.ref b2_), .unset, .unset, .unset] [])
        exact s216 xs Tl _ Xl Nl _ el hkl Cl Ol Ex Fx Fy Vx Vl (by assumption) (by assumption)
     have s169 : ∀ (xs : List Int32) (Tl : State) (locl : List Loc) (Xl : Stand p l e room_1 (s.setVm T1_.vm) m #[(.int p1), (.int p2), (.int p3), (.int p4), (.int p5)] below meth cde Tl locl (0 + 2 + 1) (0 + (48 + 4) + 19)) (Nl : Fr n0 locl) (hl : Heap) (el : Tl.heap = hl) (hkl : h2_.size ≤ hl.size) (Cl : CHr Z own_EL s.vm h0 T1_.vm hl) (Ol : Old Z n0 hl) (Ex : Exa Z hl a1_ "java/lang/String") (Fx : Fld Z hl a1_ "java/lang/String" "coder" "B" (.int (0 : Int32))) (Fy : Fld Z hl a1_ "java/lang/String" "value" "[B" (.ref b1_)) (Vx : Arv Z hl b1_ kb1_ .byte (12 : Int32) own_v1 (.int 0)) (Vl : Arv Z hl b2_ k2_ .char nn (xs.map Value.int) (.int 0)) (hxl : xs.length = n) (hxs : own_chs xs), own_FinH p e s below Z own_EL (own_Q_law Z p1 p2 p3 p4 p5 cz fm va kv bt ct sb tb ktb sc tc ktc em h0 n0) room_1.cells room_1.slots Tl (mkF m 169 #[.val (.int p1), .val (.int p2), .val (.int p3), .val (.int p4), .val (.int p5), .val (.ref a1_), .val (.int nn), .val (.int po), .val (.int cc), .val (.int fl), .val (.ref b2_), .unset, .unset, .unset] []) := by
      intro xs Tl locl Xl Nl hl el hkl Cl Ol Ex Fx Fy Vx Vl hxl hxs
      have Zl : n0 ≤ hl.size := Nat.le_trans Z0 Cl.2.1
      refine own_viaH (fun _ kq => XS.iload Xl.here hx rfl (hb hby at_169) rfl kq) ?_
      refine own_viaH (fun _ kq => XS.iconst Xl.here hx rfl (hb hby at_171) kq) ?_
      rcases Classical.em ((5 : Int32) < nn) with hg | hg
      · refine own_viaH (fun _ kq => XS.icmpNo Xl.here hx rfl (hb hby at_172) rfl (tlt hg).2.2.2 kq) ?_
        show own_FinH _ _ _ _ _ _ _ _ _ Tl (mkF m 175 #[.val (.int p1), .val (.int p2), .val (.int p3), .val (.int p4), .val (.int p5), .val (.ref a1_), .val (.int nn), .val (.int po), .val (.int cc), .val (.int fl), .val (.ref b2_), .unset, .unset, .unset] [])
        have hlt : 5 < n := own_kn (i := 5) rfl hN (by decide) hn4 hg
        refine own_viaH (fun _ kq => XS.aload Xl.here hx rfl (hb hby at_175) rfl rfl kq) ?_
        refine own_viaH (fun _ kq => XS.iconst Xl.here hx rfl (hb hby at_177) kq) ?_
        refine own_viaH (fun _ kq => XS.aload Xl.here hx rfl (hb hby at_178) rfl rfl kq) ?_
        refine own_viaH (fun _ kq => XS.iconst Xl.here hx rfl (hb hby at_180) kq) ?_
        refine own_viaH (fun _ kq => XS.iload Xl.here hx rfl (hb hby at_181) rfl kq) ?_
        refine own_viaH (fun _ kq => XS.iload Xl.here hx rfl (hb hby at_183) rfl kq) ?_
        show own_FinH _ _ _ _ _ _ _ _ _ Tl (mkF m 185 #[.val (.int p1), .val (.int p2), .val (.int p3), .val (.int p4), .val (.int p5), .val (.ref a1_), .val (.int nn), .val (.int po), .val (.int cc), .val (.int fl), .val (.ref b2_), .unset, .unset, .unset] [(.int cc), (.int po), (.int (5 : Int32)), (.ref a1_), (.int (5 : Int32)), (.ref b2_)])
        refine own_viaH (fun _ kq => XS.iload Xl.here hx rfl (hb hby at_185) rfl kq) ?_
        show own_FinH _ _ _ _ _ _ _ _ _ Tl (mkF m 187 #[.val (.int p1), .val (.int p2), .val (.int p3), .val (.int p4), .val (.int p5), .val (.ref a1_), .val (.int nn), .val (.int po), .val (.int cc), .val (.int fl), .val (.ref b2_), .unset, .unset, .unset] [(.int fl), (.int cc), (.int po), (.int (5 : Int32)), (.ref a1_), (.int (5 : Int32)), (.ref b2_)])
        obtain ⟨_, _, ⟨T170_, L170_, k170_, n170_⟩, -, X170_, ⟨Lc170_, hQ170_, l170_, y170_, z170_⟩, st170_⟩ := Jvm.LawKit.callS Xl hx (y := (⟨"com/example/lichen/lichen/webhook/EventTypeOfPinLaw", "pick", "(Ljava/lang/String;IICZ)C"⟩ : MethodName)) hown1_ (mvT hZ1_ (own_w hw 11 rfl)) (mvT hZ1_ (own_w hw 12 rfl)) (mvT hZ1_ (own_w hw 13 rfl)) (mvT hZ1_ (own_w hw 14 rfl)) (by decide) (backOf (W := 2) (own_rm_pick l Z a0 hw [] a1_ cz b1_ kb1_ (12 : Int32) own_v1 own_t1 fm (5 : Int32) 5 po cc fl hl n0 Zl Ol S1 P5 S2 r_fm Ex Fx Fy Vx own_lita1 (by decide) own_litr1 rfl (by decide) hcc) hZ1_ (own_w hw 14 rfl) (own_w hw 13 rfl) (by decide) (by decide)) (g := (mkF m 187 #[.val (.int p1), .val (.int p2), .val (.int p3), .val (.int p4), .val (.int p5), .val (.ref a1_), .val (.int nn), .val (.int po), .val (.int cc), .val (.int fl), .val (.ref b2_), .unset, .unset, .unset] [(.int fl), (.int cc), (.int po), (.int (5 : Int32)), (.ref a1_), (.int (5 : Int32)), (.ref b2_)])) rfl (by rw [hml]; rfl) (argsL := [(.ref a1_), (.int (5 : Int32)), (.int po), (.int cc), (.int fl)]) (rest := [(.int (5 : Int32)), (.ref b2_)]) (lenOf own_pd24 rfl) rfl (by show 2 * 0 + _ ≤ _; exact Nat.le_of_eq rfl) (hb hby at_187) (fun _ _ => ⟨rfl, el, (by decide : (0 + 2 + 1) + 0 ≤ _), (by decide : (0 + (48 + 4) + 19) + 0 ≤ _)⟩)
        dsimp only [Pt.U, Pt.locs, Pt.cells, Pt.slots] at X170_ l170_ y170_ z170_ st170_ hQ170_
        subst l170_ y170_ z170_
        obtain ⟨rk, rfl, Nq170_, hh170_, hrk⟩ := hQ170_
        have N170_ := Fr.app Nl Nq170_
        refine own_viaH (fun _ kq => st170_ _ kq) ?_
        show own_FinH _ _ _ _ _ _ _ _ _ T170_ (mkF m 190 #[.val (.int p1), .val (.int p2), .val (.int p3), .val (.int p4), .val (.int p5), .val (.ref a1_), .val (.int nn), .val (.int po), .val (.int cc), .val (.int fl), .val (.ref b2_), .unset, .unset, .unset] [(.int rk), (.int (5 : Int32)), (.ref b2_)])
        obtain ⟨c171_, Ar171_, q171_, S171_, M171_, H171_, G171_⟩ := (id Vl)
        have hin171_ : ¬ ((5 : Int32) < 0 ∨ c171_.slots.size ≤ ((5 : Int32)).toNatClampNeg) := inb_of S171_ (own_inb (i := 5) rfl hN hlt hn10)
        obtain ⟨T171_, h171_, X171_, e171_, W171_, st171_⟩ := stC X170_ hx hZ1_ hh170_ Ar171_ (j := (5 : Int32)) hin171_ (g := (mkF m 190 #[.val (.int p1), .val (.int p2), .val (.int p3), .val (.int p4), .val (.int p5), .val (.ref a1_), .val (.int nn), .val (.int po), .val (.int cc), .val (.int fl), .val (.ref b2_), .unset, .unset, .unset] [(.int rk), (.int (5 : Int32)), (.ref b2_)])) rfl rfl (hb hby at_190)
        have V171_ := Arv.set Ar171_ q171_ S171_ M171_ H171_ G171_ (fits_nar_char _) W171_ 5 (own_clamp (i := 5) rfl (by decide)) (by rw [List.length_map, hxl]; exact hlt)
        have U171_ : Arv Z h171_ b2_ k2_ .char nn (((xs.map Value.int)).set 5 (.int rk)) (.int 0) := by
          have hq := V171_
          rw [show nar .char rk = rk from (own_narch hrk)] at hq
          exact hq
        have N171_ := Fr.snoc X171_ N170_ g5_
        refine own_viaH (fun _ kq => st171_ _ kq) ?_
        show own_FinH _ _ _ _ _ _ _ _ _ T171_ (mkF m 191 #[.val (.int p1), .val (.int p2), .val (.int p3), .val (.int p4), .val (.int p5), .val (.ref a1_), .val (.int nn), .val (.int po), .val (.int cc), .val (.int fl), .val (.ref b2_), .unset, .unset, .unset] [])
        have Vz : Arv Z h171_ b2_ k2_ .char nn ((xs.set 5 rk).map Value.int) (.int 0) := by rw [List.map_set]; exact U171_
        have sf173_ : Safe Z own_EL T1_.vm hl b2_ := Safe.arv hZ1_.alike Vl (by decide)
        have C172_ := Cl.trans (CHr.wr W171_ sf173_ Cl.1)
        have H172_ := C172_.1
        exact s191 (xs.set 5 rk) T171_ _ X171_ N171_ _ e171_ (Nat.le_trans hkl (Keep.of_wr W171_).1) C172_ (Ol.wr W171_ g5_) (Ex.wr W171_) (Fx.other W171_ (Or.inl q3_)) (Fy.other W171_ (Or.inl q3_)) (Vx.other W171_ q4_) Vz (by rw [List.length_set]; exact hxl) (own_chs_set hxs hrk)
      · refine own_viaH (fun _ kq => XS.icmpYes Xl.here hx rfl (pc0 := 172) (pc' := 191) rfl (hb hby at_172) rfl (flt hg).2.2.2 (by decide) (by decide) kq) ?_
        show own_FinH _ _ _ _ _ _ _ _ _ Tl (mkF m 191 #[.val (.int p1), .val (.int p2), .val (.int p3), .val (.int p4), .val (.int p5), .val (.ref a1_), .val (.int nn), .val (.int po), .val (.int cc), .val (.int fl), .val (.ref b2_), .unset, .unset, .unset] [])
        exact s191 xs Tl _ Xl Nl _ el hkl Cl Ol Ex Fx Fy Vx Vl (by assumption) (by assumption)
     have s147 : ∀ (xs : List Int32) (Tl : State) (locl : List Loc) (Xl : Stand p l e room_1 (s.setVm T1_.vm) m #[(.int p1), (.int p2), (.int p3), (.int p4), (.int p5)] below meth cde Tl locl (0 + 2 + 1) (0 + (48 + 4) + 19)) (Nl : Fr n0 locl) (hl : Heap) (el : Tl.heap = hl) (hkl : h2_.size ≤ hl.size) (Cl : CHr Z own_EL s.vm h0 T1_.vm hl) (Ol : Old Z n0 hl) (Ex : Exa Z hl a1_ "java/lang/String") (Fx : Fld Z hl a1_ "java/lang/String" "coder" "B" (.int (0 : Int32))) (Fy : Fld Z hl a1_ "java/lang/String" "value" "[B" (.ref b1_)) (Vx : Arv Z hl b1_ kb1_ .byte (12 : Int32) own_v1 (.int 0)) (Vl : Arv Z hl b2_ k2_ .char nn (xs.map Value.int) (.int 0)) (hxl : xs.length = n) (hxs : own_chs xs), own_FinH p e s below Z own_EL (own_Q_law Z p1 p2 p3 p4 p5 cz fm va kv bt ct sb tb ktb sc tc ktc em h0 n0) room_1.cells room_1.slots Tl (mkF m 147 #[.val (.int p1), .val (.int p2), .val (.int p3), .val (.int p4), .val (.int p5), .val (.ref a1_), .val (.int nn), .val (.int po), .val (.int cc), .val (.int fl), .val (.ref b2_), .unset, .unset, .unset] []) := by
      intro xs Tl locl Xl Nl hl el hkl Cl Ol Ex Fx Fy Vx Vl hxl hxs
      have Zl : n0 ≤ hl.size := Nat.le_trans Z0 Cl.2.1
      refine own_viaH (fun _ kq => XS.iload Xl.here hx rfl (hb hby at_147) rfl kq) ?_
      refine own_viaH (fun _ kq => XS.iconst Xl.here hx rfl (hb hby at_149) kq) ?_
      rcases Classical.em ((4 : Int32) < nn) with hg | hg
      · refine own_viaH (fun _ kq => XS.icmpNo Xl.here hx rfl (hb hby at_150) rfl (tlt hg).2.2.2 kq) ?_
        show own_FinH _ _ _ _ _ _ _ _ _ Tl (mkF m 153 #[.val (.int p1), .val (.int p2), .val (.int p3), .val (.int p4), .val (.int p5), .val (.ref a1_), .val (.int nn), .val (.int po), .val (.int cc), .val (.int fl), .val (.ref b2_), .unset, .unset, .unset] [])
        have hlt : 4 < n := own_kn (i := 4) rfl hN (by decide) hn4 hg
        refine own_viaH (fun _ kq => XS.aload Xl.here hx rfl (hb hby at_153) rfl rfl kq) ?_
        refine own_viaH (fun _ kq => XS.iconst Xl.here hx rfl (hb hby at_155) kq) ?_
        refine own_viaH (fun _ kq => XS.aload Xl.here hx rfl (hb hby at_156) rfl rfl kq) ?_
        refine own_viaH (fun _ kq => XS.iconst Xl.here hx rfl (hb hby at_158) kq) ?_
        refine own_viaH (fun _ kq => XS.iload Xl.here hx rfl (hb hby at_159) rfl kq) ?_
        refine own_viaH (fun _ kq => XS.iload Xl.here hx rfl (hb hby at_161) rfl kq) ?_
        show own_FinH _ _ _ _ _ _ _ _ _ Tl (mkF m 163 #[.val (.int p1), .val (.int p2), .val (.int p3), .val (.int p4), .val (.int p5), .val (.ref a1_), .val (.int nn), .val (.int po), .val (.int cc), .val (.int fl), .val (.ref b2_), .unset, .unset, .unset] [(.int cc), (.int po), (.int (4 : Int32)), (.ref a1_), (.int (4 : Int32)), (.ref b2_)])
        refine own_viaH (fun _ kq => XS.iload Xl.here hx rfl (hb hby at_163) rfl kq) ?_
        show own_FinH _ _ _ _ _ _ _ _ _ Tl (mkF m 165 #[.val (.int p1), .val (.int p2), .val (.int p3), .val (.int p4), .val (.int p5), .val (.ref a1_), .val (.int nn), .val (.int po), .val (.int cc), .val (.int fl), .val (.ref b2_), .unset, .unset, .unset] [(.int fl), (.int cc), (.int po), (.int (4 : Int32)), (.ref a1_), (.int (4 : Int32)), (.ref b2_)])
        obtain ⟨_, _, ⟨T174_, L174_, k174_, n174_⟩, -, X174_, ⟨Lc174_, hQ174_, l174_, y174_, z174_⟩, st174_⟩ := Jvm.LawKit.callS Xl hx (y := (⟨"com/example/lichen/lichen/webhook/EventTypeOfPinLaw", "pick", "(Ljava/lang/String;IICZ)C"⟩ : MethodName)) hown1_ (mvT hZ1_ (own_w hw 11 rfl)) (mvT hZ1_ (own_w hw 12 rfl)) (mvT hZ1_ (own_w hw 13 rfl)) (mvT hZ1_ (own_w hw 14 rfl)) (by decide) (backOf (W := 2) (own_rm_pick l Z a0 hw [] a1_ cz b1_ kb1_ (12 : Int32) own_v1 own_t1 fm (4 : Int32) 4 po cc fl hl n0 Zl Ol S1 P5 S2 r_fm Ex Fx Fy Vx own_lita1 (by decide) own_litr1 rfl (by decide) hcc) hZ1_ (own_w hw 14 rfl) (own_w hw 13 rfl) (by decide) (by decide)) (g := (mkF m 165 #[.val (.int p1), .val (.int p2), .val (.int p3), .val (.int p4), .val (.int p5), .val (.ref a1_), .val (.int nn), .val (.int po), .val (.int cc), .val (.int fl), .val (.ref b2_), .unset, .unset, .unset] [(.int fl), (.int cc), (.int po), (.int (4 : Int32)), (.ref a1_), (.int (4 : Int32)), (.ref b2_)])) rfl (by rw [hml]; rfl) (argsL := [(.ref a1_), (.int (4 : Int32)), (.int po), (.int cc), (.int fl)]) (rest := [(.int (4 : Int32)), (.ref b2_)]) (lenOf own_pd24 rfl) rfl (by show 2 * 0 + _ ≤ _; exact Nat.le_of_eq rfl) (hb hby at_165) (fun _ _ => ⟨rfl, el, (by decide : (0 + 2 + 1) + 0 ≤ _), (by decide : (0 + (48 + 4) + 19) + 0 ≤ _)⟩)
        dsimp only [Pt.U, Pt.locs, Pt.cells, Pt.slots] at X174_ l174_ y174_ z174_ st174_ hQ174_
        subst l174_ y174_ z174_
        obtain ⟨rk, rfl, Nq174_, hh174_, hrk⟩ := hQ174_
        have N174_ := Fr.app Nl Nq174_
        refine own_viaH (fun _ kq => st174_ _ kq) ?_
        show own_FinH _ _ _ _ _ _ _ _ _ T174_ (mkF m 168 #[.val (.int p1), .val (.int p2), .val (.int p3), .val (.int p4), .val (.int p5), .val (.ref a1_), .val (.int nn), .val (.int po), .val (.int cc), .val (.int fl), .val (.ref b2_), .unset, .unset, .unset] [(.int rk), (.int (4 : Int32)), (.ref b2_)])
        obtain ⟨c175_, Ar175_, q175_, S175_, M175_, H175_, G175_⟩ := (id Vl)
        have hin175_ : ¬ ((4 : Int32) < 0 ∨ c175_.slots.size ≤ ((4 : Int32)).toNatClampNeg) := inb_of S175_ (own_inb (i := 4) rfl hN hlt hn10)
        obtain ⟨T175_, h175_, X175_, e175_, W175_, st175_⟩ := stC X174_ hx hZ1_ hh174_ Ar175_ (j := (4 : Int32)) hin175_ (g := (mkF m 168 #[.val (.int p1), .val (.int p2), .val (.int p3), .val (.int p4), .val (.int p5), .val (.ref a1_), .val (.int nn), .val (.int po), .val (.int cc), .val (.int fl), .val (.ref b2_), .unset, .unset, .unset] [(.int rk), (.int (4 : Int32)), (.ref b2_)])) rfl rfl (hb hby at_168)
        have V175_ := Arv.set Ar175_ q175_ S175_ M175_ H175_ G175_ (fits_nar_char _) W175_ 4 (own_clamp (i := 4) rfl (by decide)) (by rw [List.length_map, hxl]; exact hlt)
        have U175_ : Arv Z h175_ b2_ k2_ .char nn (((xs.map Value.int)).set 4 (.int rk)) (.int 0) := by
          have hq := V175_
          rw [show nar .char rk = rk from (own_narch hrk)] at hq
          exact hq
        have N175_ := Fr.snoc X175_ N174_ g5_
        refine own_viaH (fun _ kq => st175_ _ kq) ?_
        show own_FinH _ _ _ _ _ _ _ _ _ T175_ (mkF m 169 #[.val (.int p1), .val (.int p2), .val (.int p3), .val (.int p4), .val (.int p5), .val (.ref a1_), .val (.int nn), .val (.int po), .val (.int cc), .val (.int fl), .val (.ref b2_), .unset, .unset, .unset] [])
        have Vz : Arv Z h175_ b2_ k2_ .char nn ((xs.set 4 rk).map Value.int) (.int 0) := by rw [List.map_set]; exact U175_
        have sf177_ : Safe Z own_EL T1_.vm hl b2_ := Safe.arv hZ1_.alike Vl (by decide)
        have C176_ := Cl.trans (CHr.wr W175_ sf177_ Cl.1)
        have H176_ := C176_.1
        exact s169 (xs.set 4 rk) T175_ _ X175_ N175_ _ e175_ (Nat.le_trans hkl (Keep.of_wr W175_).1) C176_ (Ol.wr W175_ g5_) (Ex.wr W175_) (Fx.other W175_ (Or.inl q3_)) (Fy.other W175_ (Or.inl q3_)) (Vx.other W175_ q4_) Vz (by rw [List.length_set]; exact hxl) (own_chs_set hxs hrk)
      · refine own_viaH (fun _ kq => XS.icmpYes Xl.here hx rfl (pc0 := 150) (pc' := 169) rfl (hb hby at_150) rfl (flt hg).2.2.2 (by decide) (by decide) kq) ?_
        show own_FinH _ _ _ _ _ _ _ _ _ Tl (mkF m 169 #[.val (.int p1), .val (.int p2), .val (.int p3), .val (.int p4), .val (.int p5), .val (.ref a1_), .val (.int nn), .val (.int po), .val (.int cc), .val (.int fl), .val (.ref b2_), .unset, .unset, .unset] [])
        exact s169 xs Tl _ Xl Nl _ el hkl Cl Ol Ex Fx Fy Vx Vl (by assumption) (by assumption)
     have s125 : ∀ (xs : List Int32) (Tl : State) (locl : List Loc) (Xl : Stand p l e room_1 (s.setVm T1_.vm) m #[(.int p1), (.int p2), (.int p3), (.int p4), (.int p5)] below meth cde Tl locl (0 + 2 + 1) (0 + (48 + 4) + 19)) (Nl : Fr n0 locl) (hl : Heap) (el : Tl.heap = hl) (hkl : h2_.size ≤ hl.size) (Cl : CHr Z own_EL s.vm h0 T1_.vm hl) (Ol : Old Z n0 hl) (Ex : Exa Z hl a1_ "java/lang/String") (Fx : Fld Z hl a1_ "java/lang/String" "coder" "B" (.int (0 : Int32))) (Fy : Fld Z hl a1_ "java/lang/String" "value" "[B" (.ref b1_)) (Vx : Arv Z hl b1_ kb1_ .byte (12 : Int32) own_v1 (.int 0)) (Vl : Arv Z hl b2_ k2_ .char nn (xs.map Value.int) (.int 0)) (hxl : xs.length = n) (hxs : own_chs xs), own_FinH p e s below Z own_EL (own_Q_law Z p1 p2 p3 p4 p5 cz fm va kv bt ct sb tb ktb sc tc ktc em h0 n0) room_1.cells room_1.slots Tl (mkF m 125 #[.val (.int p1), .val (.int p2), .val (.int p3), .val (.int p4), .val (.int p5), .val (.ref a1_), .val (.int nn), .val (.int po), .val (.int cc), .val (.int fl), .val (.ref b2_), .unset, .unset, .unset] []) := by
      intro xs Tl locl Xl Nl hl el hkl Cl Ol Ex Fx Fy Vx Vl hxl hxs
      have Zl : n0 ≤ hl.size := Nat.le_trans Z0 Cl.2.1
      refine own_viaH (fun _ kq => XS.iload Xl.here hx rfl (hb hby at_125) rfl kq) ?_
      refine own_viaH (fun _ kq => XS.iconst Xl.here hx rfl (hb hby at_127) kq) ?_
      rcases Classical.em ((3 : Int32) < nn) with hg | hg
      · refine own_viaH (fun _ kq => XS.icmpNo Xl.here hx rfl (hb hby at_128) rfl (tlt hg).2.2.2 kq) ?_
        show own_FinH _ _ _ _ _ _ _ _ _ Tl (mkF m 131 #[.val (.int p1), .val (.int p2), .val (.int p3), .val (.int p4), .val (.int p5), .val (.ref a1_), .val (.int nn), .val (.int po), .val (.int cc), .val (.int fl), .val (.ref b2_), .unset, .unset, .unset] [])
        have hlt : 3 < n := own_kn (i := 3) rfl hN (by decide) hn4 hg
        refine own_viaH (fun _ kq => XS.aload Xl.here hx rfl (hb hby at_131) rfl rfl kq) ?_
        refine own_viaH (fun _ kq => XS.iconst Xl.here hx rfl (hb hby at_133) kq) ?_
        refine own_viaH (fun _ kq => XS.aload Xl.here hx rfl (hb hby at_134) rfl rfl kq) ?_
        refine own_viaH (fun _ kq => XS.iconst Xl.here hx rfl (hb hby at_136) kq) ?_
        refine own_viaH (fun _ kq => XS.iload Xl.here hx rfl (hb hby at_137) rfl kq) ?_
        refine own_viaH (fun _ kq => XS.iload Xl.here hx rfl (hb hby at_139) rfl kq) ?_
        show own_FinH _ _ _ _ _ _ _ _ _ Tl (mkF m 141 #[.val (.int p1), .val (.int p2), .val (.int p3), .val (.int p4), .val (.int p5), .val (.ref a1_), .val (.int nn), .val (.int po), .val (.int cc), .val (.int fl), .val (.ref b2_), .unset, .unset, .unset] [(.int cc), (.int po), (.int (3 : Int32)), (.ref a1_), (.int (3 : Int32)), (.ref b2_)])
        refine own_viaH (fun _ kq => XS.iload Xl.here hx rfl (hb hby at_141) rfl kq) ?_
        show own_FinH _ _ _ _ _ _ _ _ _ Tl (mkF m 143 #[.val (.int p1), .val (.int p2), .val (.int p3), .val (.int p4), .val (.int p5), .val (.ref a1_), .val (.int nn), .val (.int po), .val (.int cc), .val (.int fl), .val (.ref b2_), .unset, .unset, .unset] [(.int fl), (.int cc), (.int po), (.int (3 : Int32)), (.ref a1_), (.int (3 : Int32)), (.ref b2_)])
        obtain ⟨_, _, ⟨T178_, L178_, k178_, n178_⟩, -, X178_, ⟨Lc178_, hQ178_, l178_, y178_, z178_⟩, st178_⟩ := Jvm.LawKit.callS Xl hx (y := (⟨"com/example/lichen/lichen/webhook/EventTypeOfPinLaw", "pick", "(Ljava/lang/String;IICZ)C"⟩ : MethodName)) hown1_ (mvT hZ1_ (own_w hw 11 rfl)) (mvT hZ1_ (own_w hw 12 rfl)) (mvT hZ1_ (own_w hw 13 rfl)) (mvT hZ1_ (own_w hw 14 rfl)) (by decide) (backOf (W := 2) (own_rm_pick l Z a0 hw [] a1_ cz b1_ kb1_ (12 : Int32) own_v1 own_t1 fm (3 : Int32) 3 po cc fl hl n0 Zl Ol S1 P5 S2 r_fm Ex Fx Fy Vx own_lita1 (by decide) own_litr1 rfl (by decide) hcc) hZ1_ (own_w hw 14 rfl) (own_w hw 13 rfl) (by decide) (by decide)) (g := (mkF m 143 #[.val (.int p1), .val (.int p2), .val (.int p3), .val (.int p4), .val (.int p5), .val (.ref a1_), .val (.int nn), .val (.int po), .val (.int cc), .val (.int fl), .val (.ref b2_), .unset, .unset, .unset] [(.int fl), (.int cc), (.int po), (.int (3 : Int32)), (.ref a1_), (.int (3 : Int32)), (.ref b2_)])) rfl (by rw [hml]; rfl) (argsL := [(.ref a1_), (.int (3 : Int32)), (.int po), (.int cc), (.int fl)]) (rest := [(.int (3 : Int32)), (.ref b2_)]) (lenOf own_pd24 rfl) rfl (by show 2 * 0 + _ ≤ _; exact Nat.le_of_eq rfl) (hb hby at_143) (fun _ _ => ⟨rfl, el, (by decide : (0 + 2 + 1) + 0 ≤ _), (by decide : (0 + (48 + 4) + 19) + 0 ≤ _)⟩)
        dsimp only [Pt.U, Pt.locs, Pt.cells, Pt.slots] at X178_ l178_ y178_ z178_ st178_ hQ178_
        subst l178_ y178_ z178_
        obtain ⟨rk, rfl, Nq178_, hh178_, hrk⟩ := hQ178_
        have N178_ := Fr.app Nl Nq178_
        refine own_viaH (fun _ kq => st178_ _ kq) ?_
        show own_FinH _ _ _ _ _ _ _ _ _ T178_ (mkF m 146 #[.val (.int p1), .val (.int p2), .val (.int p3), .val (.int p4), .val (.int p5), .val (.ref a1_), .val (.int nn), .val (.int po), .val (.int cc), .val (.int fl), .val (.ref b2_), .unset, .unset, .unset] [(.int rk), (.int (3 : Int32)), (.ref b2_)])
        obtain ⟨c179_, Ar179_, q179_, S179_, M179_, H179_, G179_⟩ := (id Vl)
        have hin179_ : ¬ ((3 : Int32) < 0 ∨ c179_.slots.size ≤ ((3 : Int32)).toNatClampNeg) := inb_of S179_ (own_inb (i := 3) rfl hN hlt hn10)
        obtain ⟨T179_, h179_, X179_, e179_, W179_, st179_⟩ := stC X178_ hx hZ1_ hh178_ Ar179_ (j := (3 : Int32)) hin179_ (g := (mkF m 146 #[.val (.int p1), .val (.int p2), .val (.int p3), .val (.int p4), .val (.int p5), .val (.ref a1_), .val (.int nn), .val (.int po), .val (.int cc), .val (.int fl), .val (.ref b2_), .unset, .unset, .unset] [(.int rk), (.int (3 : Int32)), (.ref b2_)])) rfl rfl (hb hby at_146)
        have V179_ := Arv.set Ar179_ q179_ S179_ M179_ H179_ G179_ (fits_nar_char _) W179_ 3 (own_clamp (i := 3) rfl (by decide)) (by rw [List.length_map, hxl]; exact hlt)
        have U179_ : Arv Z h179_ b2_ k2_ .char nn (((xs.map Value.int)).set 3 (.int rk)) (.int 0) := by
          have hq := V179_
          rw [show nar .char rk = rk from (own_narch hrk)] at hq
          exact hq
        have N179_ := Fr.snoc X179_ N178_ g5_
        refine own_viaH (fun _ kq => st179_ _ kq) ?_
        show own_FinH _ _ _ _ _ _ _ _ _ T179_ (mkF m 147 #[.val (.int p1), .val (.int p2), .val (.int p3), .val (.int p4), .val (.int p5), .val (.ref a1_), .val (.int nn), .val (.int po), .val (.int cc), .val (.int fl), .val (.ref b2_), .unset, .unset, .unset] [])
        have Vz : Arv Z h179_ b2_ k2_ .char nn ((xs.set 3 rk).map Value.int) (.int 0) := by rw [List.map_set]; exact U179_
        have sf181_ : Safe Z own_EL T1_.vm hl b2_ := Safe.arv hZ1_.alike Vl (by decide)
        have C180_ := Cl.trans (CHr.wr W179_ sf181_ Cl.1)
        have H180_ := C180_.1
        exact s147 (xs.set 3 rk) T179_ _ X179_ N179_ _ e179_ (Nat.le_trans hkl (Keep.of_wr W179_).1) C180_ (Ol.wr W179_ g5_) (Ex.wr W179_) (Fx.other W179_ (Or.inl q3_)) (Fy.other W179_ (Or.inl q3_)) (Vx.other W179_ q4_) Vz (by rw [List.length_set]; exact hxl) (own_chs_set hxs hrk)
      · refine own_viaH (fun _ kq => XS.icmpYes Xl.here hx rfl (pc0 := 128) (pc' := 147) rfl (hb hby at_128) rfl (flt hg).2.2.2 (by decide) (by decide) kq) ?_
        show own_FinH _ _ _ _ _ _ _ _ _ Tl (mkF m 147 #[.val (.int p1), .val (.int p2), .val (.int p3), .val (.int p4), .val (.int p5), .val (.ref a1_), .val (.int nn), .val (.int po), .val (.int cc), .val (.int fl), .val (.ref b2_), .unset, .unset, .unset] [])
        exact s147 xs Tl _ Xl Nl _ el hkl Cl Ol Ex Fx Fy Vx Vl (by assumption) (by assumption)
     have s103 : ∀ (xs : List Int32) (Tl : State) (locl : List Loc) (Xl : Stand p l e room_1 (s.setVm T1_.vm) m #[(.int p1), (.int p2), (.int p3), (.int p4), (.int p5)] below meth cde Tl locl (0 + 2 + 1) (0 + (48 + 4) + 19)) (Nl : Fr n0 locl) (hl : Heap) (el : Tl.heap = hl) (hkl : h2_.size ≤ hl.size) (Cl : CHr Z own_EL s.vm h0 T1_.vm hl) (Ol : Old Z n0 hl) (Ex : Exa Z hl a1_ "java/lang/String") (Fx : Fld Z hl a1_ "java/lang/String" "coder" "B" (.int (0 : Int32))) (Fy : Fld Z hl a1_ "java/lang/String" "value" "[B" (.ref b1_)) (Vx : Arv Z hl b1_ kb1_ .byte (12 : Int32) own_v1 (.int 0)) (Vl : Arv Z hl b2_ k2_ .char nn (xs.map Value.int) (.int 0)) (hxl : xs.length = n) (hxs : own_chs xs), own_FinH p e s below Z own_EL (own_Q_law Z p1 p2 p3 p4 p5 cz fm va kv bt ct sb tb ktb sc tc ktc em h0 n0) room_1.cells room_1.slots Tl (mkF m 103 #[.val (.int p1), .val (.int p2), .val (.int p3), .val (.int p4), .val (.int p5), .val (.ref a1_), .val (.int nn), .val (.int po), .val (.int cc), .val (.int fl), .val (.ref b2_), .unset, .unset, .unset] []) := by
      intro xs Tl locl Xl Nl hl el hkl Cl Ol Ex Fx Fy Vx Vl hxl hxs
      have Zl : n0 ≤ hl.size := Nat.le_trans Z0 Cl.2.1
      refine own_viaH (fun _ kq => XS.iload Xl.here hx rfl (hb hby at_103) rfl kq) ?_
      refine own_viaH (fun _ kq => XS.iconst Xl.here hx rfl (hb hby at_105) kq) ?_
      rcases Classical.em ((2 : Int32) < nn) with hg | hg
      · refine own_viaH (fun _ kq => XS.icmpNo Xl.here hx rfl (hb hby at_106) rfl (tlt hg).2.2.2 kq) ?_
        show own_FinH _ _ _ _ _ _ _ _ _ Tl (mkF m 109 #[.val (.int p1), .val (.int p2), .val (.int p3), .val (.int p4), .val (.int p5), .val (.ref a1_), .val (.int nn), .val (.int po), .val (.int cc), .val (.int fl), .val (.ref b2_), .unset, .unset, .unset] [])
        have hlt : 2 < n := own_kn (i := 2) rfl hN (by decide) hn4 hg
        refine own_viaH (fun _ kq => XS.aload Xl.here hx rfl (hb hby at_109) rfl rfl kq) ?_
        refine own_viaH (fun _ kq => XS.iconst Xl.here hx rfl (hb hby at_111) kq) ?_
        refine own_viaH (fun _ kq => XS.aload Xl.here hx rfl (hb hby at_112) rfl rfl kq) ?_
        refine own_viaH (fun _ kq => XS.iconst Xl.here hx rfl (hb hby at_114) kq) ?_
        refine own_viaH (fun _ kq => XS.iload Xl.here hx rfl (hb hby at_115) rfl kq) ?_
        refine own_viaH (fun _ kq => XS.iload Xl.here hx rfl (hb hby at_117) rfl kq) ?_
        show own_FinH _ _ _ _ _ _ _ _ _ Tl (mkF m 119 #[.val (.int p1), .val (.int p2), .val (.int p3), .val (.int p4), .val (.int p5), .val (.ref a1_), .val (.int nn), .val (.int po), .val (.int cc), .val (.int fl), .val (.ref b2_), .unset, .unset, .unset] [(.int cc), (.int po), (.int (2 : Int32)), (.ref a1_), (.int (2 : Int32)), (.ref b2_)])
        refine own_viaH (fun _ kq => XS.iload Xl.here hx rfl (hb hby at_119) rfl kq) ?_
        show own_FinH _ _ _ _ _ _ _ _ _ Tl (mkF m 121 #[.val (.int p1), .val (.int p2), .val (.int p3), .val (.int p4), .val (.int p5), .val (.ref a1_), .val (.int nn), .val (.int po), .val (.int cc), .val (.int fl), .val (.ref b2_), .unset, .unset, .unset] [(.int fl), (.int cc), (.int po), (.int (2 : Int32)), (.ref a1_), (.int (2 : Int32)), (.ref b2_)])
        obtain ⟨_, _, ⟨T182_, L182_, k182_, n182_⟩, -, X182_, ⟨Lc182_, hQ182_, l182_, y182_, z182_⟩, st182_⟩ := Jvm.LawKit.callS Xl hx (y := (⟨"com/example/lichen/lichen/webhook/EventTypeOfPinLaw", "pick", "(Ljava/lang/String;IICZ)C"⟩ : MethodName)) hown1_ (mvT hZ1_ (own_w hw 11 rfl)) (mvT hZ1_ (own_w hw 12 rfl)) (mvT hZ1_ (own_w hw 13 rfl)) (mvT hZ1_ (own_w hw 14 rfl)) (by decide) (backOf (W := 2) (own_rm_pick l Z a0 hw [] a1_ cz b1_ kb1_ (12 : Int32) own_v1 own_t1 fm (2 : Int32) 2 po cc fl hl n0 Zl Ol S1 P5 S2 r_fm Ex Fx Fy Vx own_lita1 (by decide) own_litr1 rfl (by decide) hcc) hZ1_ (own_w hw 14 rfl) (own_w hw 13 rfl) (by decide) (by decide)) (g := (mkF m 121 #[.val (.int p1), .val (.int p2), .val (.int p3), .val (.int p4), .val (.int p5), .val (.ref a1_), .val (.int nn), .val (.int po), .val (.int cc), .val (.int fl), .val (.ref b2_), .unset, .unset, .unset] [(.int fl), (.int cc), (.int po), (.int (2 : Int32)), (.ref a1_), (.int (2 : Int32)), (.ref b2_)])) rfl (by rw [hml]; rfl) (argsL := [(.ref a1_), (.int (2 : Int32)), (.int po), (.int cc), (.int fl)]) (rest := [(.int (2 : Int32)), (.ref b2_)]) (lenOf own_pd24 rfl) rfl (by show 2 * 0 + _ ≤ _; exact Nat.le_of_eq rfl) (hb hby at_121) (fun _ _ => ⟨rfl, el, (by decide : (0 + 2 + 1) + 0 ≤ _), (by decide : (0 + (48 + 4) + 19) + 0 ≤ _)⟩)
        dsimp only [Pt.U, Pt.locs, Pt.cells, Pt.slots] at X182_ l182_ y182_ z182_ st182_ hQ182_
        subst l182_ y182_ z182_
        obtain ⟨rk, rfl, Nq182_, hh182_, hrk⟩ := hQ182_
        have N182_ := Fr.app Nl Nq182_
        refine own_viaH (fun _ kq => st182_ _ kq) ?_
        show own_FinH _ _ _ _ _ _ _ _ _ T182_ (mkF m 124 #[.val (.int p1), .val (.int p2), .val (.int p3), .val (.int p4), .val (.int p5), .val (.ref a1_), .val (.int nn), .val (.int po), .val (.int cc), .val (.int fl), .val (.ref b2_), .unset, .unset, .unset] [(.int rk), (.int (2 : Int32)), (.ref b2_)])
        obtain ⟨c183_, Ar183_, q183_, S183_, M183_, H183_, G183_⟩ := (id Vl)
        have hin183_ : ¬ ((2 : Int32) < 0 ∨ c183_.slots.size ≤ ((2 : Int32)).toNatClampNeg) := inb_of S183_ (own_inb (i := 2) rfl hN hlt hn10)
        obtain ⟨T183_, h183_, X183_, e183_, W183_, st183_⟩ := stC X182_ hx hZ1_ hh182_ Ar183_ (j := (2 : Int32)) hin183_ (g := (mkF m 124 #[.val (.int p1), .val (.int p2), .val (.int p3), .val (.int p4), .val (.int p5), .val (.ref a1_), .val (.int nn), .val (.int po), .val (.int cc), .val (.int fl), .val (.ref b2_), .unset, .unset, .unset] [(.int rk), (.int (2 : Int32)), (.ref b2_)])) rfl rfl (hb hby at_124)
        have V183_ := Arv.set Ar183_ q183_ S183_ M183_ H183_ G183_ (fits_nar_char _) W183_ 2 (own_clamp (i := 2) rfl (by decide)) (by rw [List.length_map, hxl]; exact hlt)
        have U183_ : Arv Z h183_ b2_ k2_ .char nn (((xs.map Value.int)).set 2 (.int rk)) (.int 0) := by
          have hq := V183_
          rw [show nar .char rk = rk from (own_narch hrk)] at hq
          exact hq
        have N183_ := Fr.snoc X183_ N182_ g5_
        refine own_viaH (fun _ kq => st183_ _ kq) ?_
        show own_FinH _ _ _ _ _ _ _ _ _ T183_ (mkF m 125 #[.val (.int p1), .val (.int p2), .val (.int p3), .val (.int p4), .val (.int p5), .val (.ref a1_), .val (.int nn), .val (.int po), .val (.int cc), .val (.int fl), .val (.ref b2_), .unset, .unset, .unset] [])
        have Vz : Arv Z h183_ b2_ k2_ .char nn ((xs.set 2 rk).map Value.int) (.int 0) := by rw [List.map_set]; exact U183_
        have sf185_ : Safe Z own_EL T1_.vm hl b2_ := Safe.arv hZ1_.alike Vl (by decide)
        have C184_ := Cl.trans (CHr.wr W183_ sf185_ Cl.1)
        have H184_ := C184_.1
        exact s125 (xs.set 2 rk) T183_ _ X183_ N183_ _ e183_ (Nat.le_trans hkl (Keep.of_wr W183_).1) C184_ (Ol.wr W183_ g5_) (Ex.wr W183_) (Fx.other W183_ (Or.inl q3_)) (Fy.other W183_ (Or.inl q3_)) (Vx.other W183_ q4_) Vz (by rw [List.length_set]; exact hxl) (own_chs_set hxs hrk)
      · refine own_viaH (fun _ kq => XS.icmpYes Xl.here hx rfl (pc0 := 106) (pc' := 125) rfl (hb hby at_106) rfl (flt hg).2.2.2 (by decide) (by decide) kq) ?_
        show own_FinH _ _ _ _ _ _ _ _ _ Tl (mkF m 125 #[.val (.int p1), .val (.int p2), .val (.int p3), .val (.int p4), .val (.int p5), .val (.ref a1_), .val (.int nn), .val (.int po), .val (.int cc), .val (.int fl), .val (.ref b2_), .unset, .unset, .unset] [])
        exact s125 xs Tl _ Xl Nl _ el hkl Cl Ol Ex Fx Fy Vx Vl (by assumption) (by assumption)
     have s81 : ∀ (xs : List Int32) (Tl : State) (locl : List Loc) (Xl : Stand p l e room_1 (s.setVm T1_.vm) m #[(.int p1), (.int p2), (.int p3), (.int p4), (.int p5)] below meth cde Tl locl (0 + 2 + 1) (0 + (48 + 4) + 19)) (Nl : Fr n0 locl) (hl : Heap) (el : Tl.heap = hl) (hkl : h2_.size ≤ hl.size) (Cl : CHr Z own_EL s.vm h0 T1_.vm hl) (Ol : Old Z n0 hl) (Ex : Exa Z hl a1_ "java/lang/String") (Fx : Fld Z hl a1_ "java/lang/String" "coder" "B" (.int (0 : Int32))) (Fy : Fld Z hl a1_ "java/lang/String" "value" "[B" (.ref b1_)) (Vx : Arv Z hl b1_ kb1_ .byte (12 : Int32) own_v1 (.int 0)) (Vl : Arv Z hl b2_ k2_ .char nn (xs.map Value.int) (.int 0)) (hxl : xs.length = n) (hxs : own_chs xs), own_FinH p e s below Z own_EL (own_Q_law Z p1 p2 p3 p4 p5 cz fm va kv bt ct sb tb ktb sc tc ktc em h0 n0) room_1.cells room_1.slots Tl (mkF m 81 #[.val (.int p1), .val (.int p2), .val (.int p3), .val (.int p4), .val (.int p5), .val (.ref a1_), .val (.int nn), .val (.int po), .val (.int cc), .val (.int fl), .val (.ref b2_), .unset, .unset, .unset] []) := by
      intro xs Tl locl Xl Nl hl el hkl Cl Ol Ex Fx Fy Vx Vl hxl hxs
      have Zl : n0 ≤ hl.size := Nat.le_trans Z0 Cl.2.1
      refine own_viaH (fun _ kq => XS.iload Xl.here hx rfl (hb hby at_81) rfl kq) ?_
      refine own_viaH (fun _ kq => XS.iconst Xl.here hx rfl (hb hby at_83) kq) ?_
      rcases Classical.em ((1 : Int32) < nn) with hg | hg
      · refine own_viaH (fun _ kq => XS.icmpNo Xl.here hx rfl (hb hby at_84) rfl (tlt hg).2.2.2 kq) ?_
        show own_FinH _ _ _ _ _ _ _ _ _ Tl (mkF m 87 #[.val (.int p1), .val (.int p2), .val (.int p3), .val (.int p4), .val (.int p5), .val (.ref a1_), .val (.int nn), .val (.int po), .val (.int cc), .val (.int fl), .val (.ref b2_), .unset, .unset, .unset] [])
        have hlt : 1 < n := own_kn (i := 1) rfl hN (by decide) hn4 hg
        refine own_viaH (fun _ kq => XS.aload Xl.here hx rfl (hb hby at_87) rfl rfl kq) ?_
        refine own_viaH (fun _ kq => XS.iconst Xl.here hx rfl (hb hby at_89) kq) ?_
        refine own_viaH (fun _ kq => XS.aload Xl.here hx rfl (hb hby at_90) rfl rfl kq) ?_
        refine own_viaH (fun _ kq => XS.iconst Xl.here hx rfl (hb hby at_92) kq) ?_
        refine own_viaH (fun _ kq => XS.iload Xl.here hx rfl (hb hby at_93) rfl kq) ?_
        refine own_viaH (fun _ kq => XS.iload Xl.here hx rfl (hb hby at_95) rfl kq) ?_
        show own_FinH _ _ _ _ _ _ _ _ _ Tl (mkF m 97 #[.val (.int p1), .val (.int p2), .val (.int p3), .val (.int p4), .val (.int p5), .val (.ref a1_), .val (.int nn), .val (.int po), .val (.int cc), .val (.int fl), .val (.ref b2_), .unset, .unset, .unset] [(.int cc), (.int po), (.int (1 : Int32)), (.ref a1_), (.int (1 : Int32)), (.ref b2_)])
        refine own_viaH (fun _ kq => XS.iload Xl.here hx rfl (hb hby at_97) rfl kq) ?_
        show own_FinH _ _ _ _ _ _ _ _ _ Tl (mkF m 99 #[.val (.int p1), .val (.int p2), .val (.int p3), .val (.int p4), .val (.int p5), .val (.ref a1_), .val (.int nn), .val (.int po), .val (.int cc), .val (.int fl), .val (.ref b2_), .unset, .unset, .unset] [(.int fl), (.int cc), (.int po), (.int (1 : Int32)), (.ref a1_), (.int (1 : Int32)), (.ref b2_)])
        obtain ⟨_, _, ⟨T186_, L186_, k186_, n186_⟩, -, X186_, ⟨Lc186_, hQ186_, l186_, y186_, z186_⟩, st186_⟩ := Jvm.LawKit.callS Xl hx (y := (⟨"com/example/lichen/lichen/webhook/EventTypeOfPinLaw", "pick", "(Ljava/lang/String;IICZ)C"⟩ : MethodName)) hown1_ (mvT hZ1_ (own_w hw 11 rfl)) (mvT hZ1_ (own_w hw 12 rfl)) (mvT hZ1_ (own_w hw 13 rfl)) (mvT hZ1_ (own_w hw 14 rfl)) (by decide) (backOf (W := 2) (own_rm_pick l Z a0 hw [] a1_ cz b1_ kb1_ (12 : Int32) own_v1 own_t1 fm (1 : Int32) 1 po cc fl hl n0 Zl Ol S1 P5 S2 r_fm Ex Fx Fy Vx own_lita1 (by decide) own_litr1 rfl (by decide) hcc) hZ1_ (own_w hw 14 rfl) (own_w hw 13 rfl) (by decide) (by decide)) (g := (mkF m 99 #[.val (.int p1), .val (.int p2), .val (.int p3), .val (.int p4), .val (.int p5), .val (.ref a1_), .val (.int nn), .val (.int po), .val (.int cc), .val (.int fl), .val (.ref b2_), .unset, .unset, .unset] [(.int fl), (.int cc), (.int po), (.int (1 : Int32)), (.ref a1_), (.int (1 : Int32)), (.ref b2_)])) rfl (by rw [hml]; rfl) (argsL := [(.ref a1_), (.int (1 : Int32)), (.int po), (.int cc), (.int fl)]) (rest := [(.int (1 : Int32)), (.ref b2_)]) (lenOf own_pd24 rfl) rfl (by show 2 * 0 + _ ≤ _; exact Nat.le_of_eq rfl) (hb hby at_99) (fun _ _ => ⟨rfl, el, (by decide : (0 + 2 + 1) + 0 ≤ _), (by decide : (0 + (48 + 4) + 19) + 0 ≤ _)⟩)
        dsimp only [Pt.U, Pt.locs, Pt.cells, Pt.slots] at X186_ l186_ y186_ z186_ st186_ hQ186_
        subst l186_ y186_ z186_
        obtain ⟨rk, rfl, Nq186_, hh186_, hrk⟩ := hQ186_
        have N186_ := Fr.app Nl Nq186_
        refine own_viaH (fun _ kq => st186_ _ kq) ?_
        show own_FinH _ _ _ _ _ _ _ _ _ T186_ (mkF m 102 #[.val (.int p1), .val (.int p2), .val (.int p3), .val (.int p4), .val (.int p5), .val (.ref a1_), .val (.int nn), .val (.int po), .val (.int cc), .val (.int fl), .val (.ref b2_), .unset, .unset, .unset] [(.int rk), (.int (1 : Int32)), (.ref b2_)])
        obtain ⟨c187_, Ar187_, q187_, S187_, M187_, H187_, G187_⟩ := (id Vl)
        have hin187_ : ¬ ((1 : Int32) < 0 ∨ c187_.slots.size ≤ ((1 : Int32)).toNatClampNeg) := inb_of S187_ (own_inb (i := 1) rfl hN hlt hn10)
        obtain ⟨T187_, h187_, X187_, e187_, W187_, st187_⟩ := stC X186_ hx hZ1_ hh186_ Ar187_ (j := (1 : Int32)) hin187_ (g := (mkF m 102 #[.val (.int p1), .val (.int p2), .val (.int p3), .val (.int p4), .val (.int p5), .val (.ref a1_), .val (.int nn), .val (.int po), .val (.int cc), .val (.int fl), .val (.ref b2_), .unset, .unset, .unset] [(.int rk), (.int (1 : Int32)), (.ref b2_)])) rfl rfl (hb hby at_102)
        have V187_ := Arv.set Ar187_ q187_ S187_ M187_ H187_ G187_ (fits_nar_char _) W187_ 1 (own_clamp (i := 1) rfl (by decide)) (by rw [List.length_map, hxl]; exact hlt)
        have U187_ : Arv Z h187_ b2_ k2_ .char nn (((xs.map Value.int)).set 1 (.int rk)) (.int 0) := by
          have hq := V187_
          rw [show nar .char rk = rk from (own_narch hrk)] at hq
          exact hq
        have N187_ := Fr.snoc X187_ N186_ g5_
        refine own_viaH (fun _ kq => st187_ _ kq) ?_
        show own_FinH _ _ _ _ _ _ _ _ _ T187_ (mkF m 103 #[.val (.int p1), .val (.int p2), .val (.int p3), .val (.int p4), .val (.int p5), .val (.ref a1_), .val (.int nn), .val (.int po), .val (.int cc), .val (.int fl), .val (.ref b2_), .unset, .unset, .unset] [])
        have Vz : Arv Z h187_ b2_ k2_ .char nn ((xs.set 1 rk).map Value.int) (.int 0) := by rw [List.map_set]; exact U187_
        have sf189_ : Safe Z own_EL T1_.vm hl b2_ := Safe.arv hZ1_.alike Vl (by decide)
        have C188_ := Cl.trans (CHr.wr W187_ sf189_ Cl.1)
        have H188_ := C188_.1
        exact s103 (xs.set 1 rk) T187_ _ X187_ N187_ _ e187_ (Nat.le_trans hkl (Keep.of_wr W187_).1) C188_ (Ol.wr W187_ g5_) (Ex.wr W187_) (Fx.other W187_ (Or.inl q3_)) (Fy.other W187_ (Or.inl q3_)) (Vx.other W187_ q4_) Vz (by rw [List.length_set]; exact hxl) (own_chs_set hxs hrk)
      · refine own_viaH (fun _ kq => XS.icmpYes Xl.here hx rfl (pc0 := 84) (pc' := 103) rfl (hb hby at_84) rfl (flt hg).2.2.2 (by decide) (by decide) kq) ?_
        show own_FinH _ _ _ _ _ _ _ _ _ Tl (mkF m 103 #[.val (.int p1), .val (.int p2), .val (.int p3), .val (.int p4), .val (.int p5), .val (.ref a1_), .val (.int nn), .val (.int po), .val (.int cc), .val (.int fl), .val (.ref b2_), .unset, .unset, .unset] [])
        exact s103 xs Tl _ Xl Nl _ el hkl Cl Ol Ex Fx Fy Vx Vl (by assumption) (by assumption)
     have s60 : ∀ (xs : List Int32) (Tl : State) (locl : List Loc) (Xl : Stand p l e room_1 (s.setVm T1_.vm) m #[(.int p1), (.int p2), (.int p3), (.int p4), (.int p5)] below meth cde Tl locl (0 + 2 + 1) (0 + (48 + 4) + 19)) (Nl : Fr n0 locl) (hl : Heap) (el : Tl.heap = hl) (hkl : h2_.size ≤ hl.size) (Cl : CHr Z own_EL s.vm h0 T1_.vm hl) (Ol : Old Z n0 hl) (Ex : Exa Z hl a1_ "java/lang/String") (Fx : Fld Z hl a1_ "java/lang/String" "coder" "B" (.int (0 : Int32))) (Fy : Fld Z hl a1_ "java/lang/String" "value" "[B" (.ref b1_)) (Vx : Arv Z hl b1_ kb1_ .byte (12 : Int32) own_v1 (.int 0)) (Vl : Arv Z hl b2_ k2_ .char nn (xs.map Value.int) (.int 0)) (hxl : xs.length = n) (hxs : own_chs xs), own_FinH p e s below Z own_EL (own_Q_law Z p1 p2 p3 p4 p5 cz fm va kv bt ct sb tb ktb sc tc ktc em h0 n0) room_1.cells room_1.slots Tl (mkF m 60 #[.val (.int p1), .val (.int p2), .val (.int p3), .val (.int p4), .val (.int p5), .val (.ref a1_), .val (.int nn), .val (.int po), .val (.int cc), .val (.int fl), .val (.ref b2_), .unset, .unset, .unset] []) := by
      intro xs Tl locl Xl Nl hl el hkl Cl Ol Ex Fx Fy Vx Vl hxl hxs
      have Zl : n0 ≤ hl.size := Nat.le_trans Z0 Cl.2.1
      refine own_viaH (fun _ kq => XS.iload Xl.here hx rfl (hb hby at_60) rfl kq) ?_
      rcases Classical.em ((0 : Int32) < nn) with hg | hg
      · refine own_viaH (fun _ kq => XS.ifNo Xl.here hx rfl (hb hby at_62) rfl ((if0 _ _).trans (tlt hg).2.2.2) kq) ?_
        show own_FinH _ _ _ _ _ _ _ _ _ Tl (mkF m 65 #[.val (.int p1), .val (.int p2), .val (.int p3), .val (.int p4), .val (.int p5), .val (.ref a1_), .val (.int nn), .val (.int po), .val (.int cc), .val (.int fl), .val (.ref b2_), .unset, .unset, .unset] [])
        have hlt : 0 < n := own_kn (i := 0) rfl hN (by decide) hn4 hg
        refine own_viaH (fun _ kq => XS.aload Xl.here hx rfl (hb hby at_65) rfl rfl kq) ?_
        refine own_viaH (fun _ kq => XS.iconst Xl.here hx rfl (hb hby at_67) kq) ?_
        refine own_viaH (fun _ kq => XS.aload Xl.here hx rfl (hb hby at_68) rfl rfl kq) ?_
        refine own_viaH (fun _ kq => XS.iconst Xl.here hx rfl (hb hby at_70) kq) ?_
        refine own_viaH (fun _ kq => XS.iload Xl.here hx rfl (hb hby at_71) rfl kq) ?_
        refine own_viaH (fun _ kq => XS.iload Xl.here hx rfl (hb hby at_73) rfl kq) ?_
        refine own_viaH (fun _ kq => XS.iload Xl.here hx rfl (hb hby at_75) rfl kq) ?_
        show own_FinH _ _ _ _ _ _ _ _ _ Tl (mkF m 77 #[.val (.int p1), .val (.int p2), .val (.int p3), .val (.int p4), .val (.int p5), .val (.ref a1_), .val (.int nn), .val (.int po), .val (.int cc), .val (.int fl), .val (.ref b2_), .unset, .unset, .unset] [(.int fl), (.int cc), (.int po), (.int (0 : Int32)), (.ref a1_), (.int (0 : Int32)), (.ref b2_)])
        obtain ⟨_, _, ⟨T190_, L190_, k190_, n190_⟩, -, X190_, ⟨Lc190_, hQ190_, l190_, y190_, z190_⟩, st190_⟩ := Jvm.LawKit.callS Xl hx (y := (⟨"com/example/lichen/lichen/webhook/EventTypeOfPinLaw", "pick", "(Ljava/lang/String;IICZ)C"⟩ : MethodName)) hown1_ (mvT hZ1_ (own_w hw 11 rfl)) (mvT hZ1_ (own_w hw 12 rfl)) (mvT hZ1_ (own_w hw 13 rfl)) (mvT hZ1_ (own_w hw 14 rfl)) (by decide) (backOf (W := 2) (own_rm_pick l Z a0 hw [] a1_ cz b1_ kb1_ (12 : Int32) own_v1 own_t1 fm (0 : Int32) 0 po cc fl hl n0 Zl Ol S1 P5 S2 r_fm Ex Fx Fy Vx own_lita1 (by decide) own_litr1 rfl (by decide) hcc) hZ1_ (own_w hw 14 rfl) (own_w hw 13 rfl) (by decide) (by decide)) (g := (mkF m 77 #[.val (.int p1), .val (.int p2), .val (.int p3), .val (.int p4), .val (.int p5), .val (.ref a1_), .val (.int nn), .val (.int po), .val (.int cc), .val (.int fl), .val (.ref b2_), .unset, .unset, .unset] [(.int fl), (.int cc), (.int po), (.int (0 : Int32)), (.ref a1_), (.int (0 : Int32)), (.ref b2_)])) rfl (by rw [hml]; rfl) (argsL := [(.ref a1_), (.int (0 : Int32)), (.int po), (.int cc), (.int fl)]) (rest := [(.int (0 : Int32)), (.ref b2_)]) (lenOf own_pd24 rfl) rfl (by show 2 * 0 + _ ≤ _; exact Nat.le_of_eq rfl) (hb hby at_77) (fun _ _ => ⟨rfl, el, (by decide : (0 + 2 + 1) + 0 ≤ _), (by decide : (0 + (48 + 4) + 19) + 0 ≤ _)⟩)
        dsimp only [Pt.U, Pt.locs, Pt.cells, Pt.slots] at X190_ l190_ y190_ z190_ st190_ hQ190_
        subst l190_ y190_ z190_
        obtain ⟨rk, rfl, Nq190_, hh190_, hrk⟩ := hQ190_
        have N190_ := Fr.app Nl Nq190_
        refine own_viaH (fun _ kq => st190_ _ kq) ?_
        show own_FinH _ _ _ _ _ _ _ _ _ T190_ (mkF m 80 #[.val (.int p1), .val (.int p2), .val (.int p3), .val (.int p4), .val (.int p5), .val (.ref a1_), .val (.int nn), .val (.int po), .val (.int cc), .val (.int fl), .val (.ref b2_), .unset, .unset, .unset] [(.int rk), (.int (0 : Int32)), (.ref b2_)])
        obtain ⟨c191_, Ar191_, q191_, S191_, M191_, H191_, G191_⟩ := (id Vl)
        have hin191_ : ¬ ((0 : Int32) < 0 ∨ c191_.slots.size ≤ ((0 : Int32)).toNatClampNeg) := inb_of S191_ (own_inb (i := 0) rfl hN hlt hn10)
        obtain ⟨T191_, h191_, X191_, e191_, W191_, st191_⟩ := stC X190_ hx hZ1_ hh190_ Ar191_ (j := (0 : Int32)) hin191_ (g := (mkF m 80 #[.val (.int p1), .val (.int p2), .val (.int p3), .val (.int p4), .val (.int p5), .val (.ref a1_), .val (.int nn), .val (.int po), .val (.int cc), .val (.int fl), .val (.ref b2_), .unset, .unset, .unset] [(.int rk), (.int (0 : Int32)), (.ref b2_)])) rfl rfl (hb hby at_80)
        have V191_ := Arv.set Ar191_ q191_ S191_ M191_ H191_ G191_ (fits_nar_char _) W191_ 0 (own_clamp (i := 0) rfl (by decide)) (by rw [List.length_map, hxl]; exact hlt)
        have U191_ : Arv Z h191_ b2_ k2_ .char nn (((xs.map Value.int)).set 0 (.int rk)) (.int 0) := by
          have hq := V191_
          rw [show nar .char rk = rk from (own_narch hrk)] at hq
          exact hq
        have N191_ := Fr.snoc X191_ N190_ g5_
        refine own_viaH (fun _ kq => st191_ _ kq) ?_
        show own_FinH _ _ _ _ _ _ _ _ _ T191_ (mkF m 81 #[.val (.int p1), .val (.int p2), .val (.int p3), .val (.int p4), .val (.int p5), .val (.ref a1_), .val (.int nn), .val (.int po), .val (.int cc), .val (.int fl), .val (.ref b2_), .unset, .unset, .unset] [])
        have Vz : Arv Z h191_ b2_ k2_ .char nn ((xs.set 0 rk).map Value.int) (.int 0) := by rw [List.map_set]; exact U191_
        have sf193_ : Safe Z own_EL T1_.vm hl b2_ := Safe.arv hZ1_.alike Vl (by decide)
        have C192_ := Cl.trans (CHr.wr W191_ sf193_ Cl.1)
        have H192_ := C192_.1
        exact s81 (xs.set 0 rk) T191_ _ X191_ N191_ _ e191_ (Nat.le_trans hkl (Keep.of_wr W191_).1) C192_ (Ol.wr W191_ g5_) (Ex.wr W191_) (Fx.other W191_ (Or.inl q3_)) (Fy.other W191_ (Or.inl q3_)) (Vx.other W191_ q4_) Vz (by rw [List.length_set]; exact hxl) (own_chs_set hxs hrk)
      · refine own_viaH (fun _ kq => XS.ifYes Xl.here hx rfl (pc0 := 62) (pc' := 81) rfl (hb hby at_62) rfl ((if0 _ _).trans (flt hg).2.2.2) (by decide) (by decide) kq) ?_
        show own_FinH _ _ _ _ _ _ _ _ _ Tl (mkF m 81 #[.val (.int p1), .val (.int p2), .val (.int p3), .val (.int p4), .val (.int p5), .val (.ref a1_), .val (.int nn), .val (.int po), .val (.int cc), .val (.int fl), .val (.ref b2_), .unset, .unset, .unset] [])
        exact s81 xs Tl _ Xl Nl _ el hkl Cl Ol Ex Fx Fy Vx Vl (by assumption) (by assumption)
     have C194_ := C0.trans Cq1_
     have H194_ := C194_.1
     have C195_ := C194_.trans (CHr.ext E2_ H194_)
     have H195_ := C195_.1
     exact s60 (List.replicate n 0) T2_ _ X2_ N0 _ e2_ (Nat.le_refl _) C195_ ((O0.ext E1_).ext E2_) (rE1_.ext E2_) (rC1_.ext E2_) (rV1_.ext E2_) (rA1_.ext E2_) Vr List.length_replicate own_chs_rep
    rcases Classical.em ((p5 &&& (1 : Int32)) = (0 : Int32)) with hfl | hfl
    · refine own_viaH (fun _ kq => XS.ifYes X1_.here hx rfl (pc0 := 44) (pc' := 51) rfl (hb hby at_44) rfl ((if0 _ _).trans (teq hfl).1) (by decide) (by decide) kq) ?_
      show own_FinH _ _ _ _ _ _ _ _ _ T1_ (mkF m 51 #[.val (.int p1), .val (.int p2), .val (.int p3), .val (.int p4), .val (.int p5), .val (.ref a1_), .val (.int ((p2 &&& (2147483647 : Int32)) % (20 : Int32))), .val (.int ((p3 &&& (2147483647 : Int32)) % (20 : Int32))), .val (.int ((p4 &&& (65535 : Int32)).toUInt32.toUInt16.toUInt32.toInt32)), .unset, .unset, .unset, .unset, .unset] [])
      refine own_viaH (fun _ kq => XS.iconst X1_.here hx rfl (hb hby at_51) kq) ?_
      exact s52 _
    · refine own_viaH (fun _ kq => XS.ifNo X1_.here hx rfl (hb hby at_44) rfl ((if0 _ _).trans (feq hfl).1) kq) ?_
      show own_FinH _ _ _ _ _ _ _ _ _ T1_ (mkF m 47 #[.val (.int p1), .val (.int p2), .val (.int p3), .val (.int p4), .val (.int p5), .val (.ref a1_), .val (.int ((p2 &&& (2147483647 : Int32)) % (20 : Int32))), .val (.int ((p3 &&& (2147483647 : Int32)) % (20 : Int32))), .val (.int ((p4 &&& (65535 : Int32)).toUInt32.toUInt16.toUInt32.toInt32)), .unset, .unset, .unset, .unset, .unset] [])
      refine own_viaH (fun _ kq => XS.iconst X1_.here hx rfl (hb hby at_47) kq) ?_
      refine own_viaH (fun _ kq => XS.goto X1_.here hx rfl (pc0 := 48) (pc' := 52) rfl (hb hby at_48) (by decide) (by decide) kq) ?_
      exact s52 _
  · refine own_viaH (fun _ kq => XS.ifYes X0.here hx rfl (pc0 := 3) (pc' := 11) rfl (hb hby at_3) rfl ((if0 _ _).trans (feq h0_).2) (by decide) (by decide) kq) ?_
    show own_FinH _ _ _ _ _ _ _ _ _ s₁ (mkF m 11 #[.val (.int p1), .val (.int p2), .val (.int p3), .val (.int p4), .val (.int p5), .unset, .unset, .unset, .unset, .unset, .unset, .unset, .unset, .unset] [])
    obtain ⟨a196_, T196_, h196_, k196_, b196_, kb196_, X196_, e196_, E196_, hS196_, hk196_, hZ196_, hown196_, rE196_, rC196_, rV196_, rA196_, -, -, Cq196_, -, Sx196_, st196_⟩ := ldcCH X0 hx hZ hown (own_w hw 80 rfl) (own_atoms hw) e0 hS0 hk0 (own_ew hw) (List.mem_of_getElem? (i := 1) rfl) H0 (vs := [(.int (99 : Int32)), (.int (114 : Int32)), (.int (101 : Int32)), (.int (100 : Int32)), (.int (101 : Int32)), (.int (110 : Int32)), (.int (116 : Int32)), (.int (105 : Int32)), (.int (97 : Int32)), (.int (108 : Int32)), (.int (46 : Int32)), (.int (114 : Int32)), (.int (101 : Int32)), (.int (118 : Int32)), (.int (111 : Int32)), (.int (107 : Int32)), (.int (101 : Int32)), (.int (100 : Int32))]) (z := (18 : Int32)) ⟨by decide, by decide⟩ (by decide) (by decide) (g := (mkF m 11 #[.val (.int p1), .val (.int p2), .val (.int p3), .val (.int p4), .val (.int p5), .unset, .unset, .unset, .unset, .unset, .unset, .unset, .unset, .unset] [])) rfl (hb hby at_11) (n := 72) (by decide) (by decide) (by decide) (by decide)
    refine own_viaH (fun _ kq => st196_ _ kq) ?_
    show own_FinH _ _ _ _ _ _ _ _ _ T196_ (mkF m 13 #[.val (.int p1), .val (.int p2), .val (.int p3), .val (.int p4), .val (.int p5), .unset, .unset, .unset, .unset, .unset, .unset, .unset, .unset, .unset] [(.ref a196_)])
    refine own_viaH (fun _ kq => XS.astore X196_.here hx rfl (hb hby at_13) rfl rfl (l' := #[.val (.int p1), .val (.int p2), .val (.int p3), .val (.int p4), .val (.int p5), .val (.ref a196_), .unset, .unset, .unset, .unset, .unset, .unset, .unset, .unset]) rfl kq) ?_
    refine own_viaH (fun _ kq => XS.iloadN X196_.here hx rfl (hb hby at_15) rfl kq) ?_
    show own_FinH _ _ _ _ _ _ _ _ _ T196_ (mkF m 16 #[.val (.int p1), .val (.int p2), .val (.int p3), .val (.int p4), .val (.int p5), .val (.ref a196_), .unset, .unset, .unset, .unset, .unset, .unset, .unset, .unset] [(.int p2)])
    refine own_viaH (fun _ kq => X196_.ldcInt hx hown196_ (mvT hZ196_ (own_w hw 8 rfl)) (g := (mkF m 16 #[.val (.int p1), .val (.int p2), .val (.int p3), .val (.int p4), .val (.int p5), .val (.ref a196_), .unset, .unset, .unset, .unset, .unset, .unset, .unset, .unset] [(.int p2)])) rfl (hb hby at_16) _ kq) ?_
    show own_FinH _ _ _ _ _ _ _ _ _ T196_ (mkF m 18 #[.val (.int p1), .val (.int p2), .val (.int p3), .val (.int p4), .val (.int p5), .val (.ref a196_), .unset, .unset, .unset, .unset, .unset, .unset, .unset, .unset] [(.int (2147483647 : Int32)), (.int p2)])
    refine own_viaH (fun _ kq => XS.iand X196_.here hx rfl (hb hby at_18) rfl kq) ?_
    refine own_viaH (fun _ kq => XS.bipush X196_.here hx rfl (hb hby at_19) kq) ?_
    show own_FinH _ _ _ _ _ _ _ _ _ T196_ (mkF m 21 #[.val (.int p1), .val (.int p2), .val (.int p3), .val (.int p4), .val (.int p5), .val (.ref a196_), .unset, .unset, .unset, .unset, .unset, .unset, .unset, .unset] [(.int (20 : Int32)), (.int (p2 &&& (2147483647 : Int32)))])
    refine own_viaH (fun _ kq => iremM (g := (mkF m 21 #[.val (.int p1), .val (.int p2), .val (.int p3), .val (.int p4), .val (.int p5), .val (.ref a196_), .unset, .unset, .unset, .unset, .unset, .unset, .unset, .unset] [(.int (20 : Int32)), (.int (p2 &&& (2147483647 : Int32)))])) X196_ hx rfl (hb hby at_21) rfl (by decide) kq) ?_
    show own_FinH _ _ _ _ _ _ _ _ _ T196_ (mkF m 22 #[.val (.int p1), .val (.int p2), .val (.int p3), .val (.int p4), .val (.int p5), .val (.ref a196_), .unset, .unset, .unset, .unset, .unset, .unset, .unset, .unset] [(.int ((p2 &&& (2147483647 : Int32)) % (20 : Int32)))])
    refine own_viaH (fun _ kq => XS.istore X196_.here hx rfl (hb hby at_22) rfl (l' := #[.val (.int p1), .val (.int p2), .val (.int p3), .val (.int p4), .val (.int p5), .val (.ref a196_), .val (.int ((p2 &&& (2147483647 : Int32)) % (20 : Int32))), .unset, .unset, .unset, .unset, .unset, .unset, .unset]) rfl kq) ?_
    refine own_viaH (fun _ kq => XS.iloadN X196_.here hx rfl (hb hby at_24) rfl kq) ?_
    show own_FinH _ _ _ _ _ _ _ _ _ T196_ (mkF m 25 #[.val (.int p1), .val (.int p2), .val (.int p3), .val (.int p4), .val (.int p5), .val (.ref a196_), .val (.int ((p2 &&& (2147483647 : Int32)) % (20 : Int32))), .unset, .unset, .unset, .unset, .unset, .unset, .unset] [(.int p3)])
    refine own_viaH (fun _ kq => X196_.ldcInt hx hown196_ (mvT hZ196_ (own_w hw 8 rfl)) (g := (mkF m 25 #[.val (.int p1), .val (.int p2), .val (.int p3), .val (.int p4), .val (.int p5), .val (.ref a196_), .val (.int ((p2 &&& (2147483647 : Int32)) % (20 : Int32))), .unset, .unset, .unset, .unset, .unset, .unset, .unset] [(.int p3)])) rfl (hb hby at_25) _ kq) ?_
    show own_FinH _ _ _ _ _ _ _ _ _ T196_ (mkF m 27 #[.val (.int p1), .val (.int p2), .val (.int p3), .val (.int p4), .val (.int p5), .val (.ref a196_), .val (.int ((p2 &&& (2147483647 : Int32)) % (20 : Int32))), .unset, .unset, .unset, .unset, .unset, .unset, .unset] [(.int (2147483647 : Int32)), (.int p3)])
    refine own_viaH (fun _ kq => XS.iand X196_.here hx rfl (hb hby at_27) rfl kq) ?_
    refine own_viaH (fun _ kq => XS.bipush X196_.here hx rfl (hb hby at_28) kq) ?_
    show own_FinH _ _ _ _ _ _ _ _ _ T196_ (mkF m 30 #[.val (.int p1), .val (.int p2), .val (.int p3), .val (.int p4), .val (.int p5), .val (.ref a196_), .val (.int ((p2 &&& (2147483647 : Int32)) % (20 : Int32))), .unset, .unset, .unset, .unset, .unset, .unset, .unset] [(.int (20 : Int32)), (.int (p3 &&& (2147483647 : Int32)))])
    refine own_viaH (fun _ kq => iremM (g := (mkF m 30 #[.val (.int p1), .val (.int p2), .val (.int p3), .val (.int p4), .val (.int p5), .val (.ref a196_), .val (.int ((p2 &&& (2147483647 : Int32)) % (20 : Int32))), .unset, .unset, .unset, .unset, .unset, .unset, .unset] [(.int (20 : Int32)), (.int (p3 &&& (2147483647 : Int32)))])) X196_ hx rfl (hb hby at_30) rfl (by decide) kq) ?_
    show own_FinH _ _ _ _ _ _ _ _ _ T196_ (mkF m 31 #[.val (.int p1), .val (.int p2), .val (.int p3), .val (.int p4), .val (.int p5), .val (.ref a196_), .val (.int ((p2 &&& (2147483647 : Int32)) % (20 : Int32))), .unset, .unset, .unset, .unset, .unset, .unset, .unset] [(.int ((p3 &&& (2147483647 : Int32)) % (20 : Int32)))])
    refine own_viaH (fun _ kq => XS.istore X196_.here hx rfl (hb hby at_31) rfl (l' := #[.val (.int p1), .val (.int p2), .val (.int p3), .val (.int p4), .val (.int p5), .val (.ref a196_), .val (.int ((p2 &&& (2147483647 : Int32)) % (20 : Int32))), .val (.int ((p3 &&& (2147483647 : Int32)) % (20 : Int32))), .unset, .unset, .unset, .unset, .unset, .unset]) rfl kq) ?_
    refine own_viaH (fun _ kq => XS.iloadN X196_.here hx rfl (hb hby at_33) rfl kq) ?_
    show own_FinH _ _ _ _ _ _ _ _ _ T196_ (mkF m 34 #[.val (.int p1), .val (.int p2), .val (.int p3), .val (.int p4), .val (.int p5), .val (.ref a196_), .val (.int ((p2 &&& (2147483647 : Int32)) % (20 : Int32))), .val (.int ((p3 &&& (2147483647 : Int32)) % (20 : Int32))), .unset, .unset, .unset, .unset, .unset, .unset] [(.int p4)])
    refine own_viaH (fun _ kq => X196_.ldcInt hx hown196_ (mvT hZ196_ (own_w hw 9 rfl)) (g := (mkF m 34 #[.val (.int p1), .val (.int p2), .val (.int p3), .val (.int p4), .val (.int p5), .val (.ref a196_), .val (.int ((p2 &&& (2147483647 : Int32)) % (20 : Int32))), .val (.int ((p3 &&& (2147483647 : Int32)) % (20 : Int32))), .unset, .unset, .unset, .unset, .unset, .unset] [(.int p4)])) rfl (hb hby at_34) _ kq) ?_
    show own_FinH _ _ _ _ _ _ _ _ _ T196_ (mkF m 36 #[.val (.int p1), .val (.int p2), .val (.int p3), .val (.int p4), .val (.int p5), .val (.ref a196_), .val (.int ((p2 &&& (2147483647 : Int32)) % (20 : Int32))), .val (.int ((p3 &&& (2147483647 : Int32)) % (20 : Int32))), .unset, .unset, .unset, .unset, .unset, .unset] [(.int (65535 : Int32)), (.int p4)])
    refine own_viaH (fun _ kq => XS.iand X196_.here hx rfl (hb hby at_36) rfl kq) ?_
    refine own_viaH (fun _ kq => XS.i2c X196_.here hx rfl (hb hby at_37) rfl kq) ?_
    refine own_viaH (fun _ kq => XS.istore X196_.here hx rfl (hb hby at_38) rfl (l' := #[.val (.int p1), .val (.int p2), .val (.int p3), .val (.int p4), .val (.int p5), .val (.ref a196_), .val (.int ((p2 &&& (2147483647 : Int32)) % (20 : Int32))), .val (.int ((p3 &&& (2147483647 : Int32)) % (20 : Int32))), .val (.int ((p4 &&& (65535 : Int32)).toUInt32.toUInt16.toUInt32.toInt32)), .unset, .unset, .unset, .unset, .unset]) rfl kq) ?_
    refine own_viaH (fun _ kq => XS.iload X196_.here hx rfl (hb hby at_40) rfl kq) ?_
    refine own_viaH (fun _ kq => XS.iconst X196_.here hx rfl (hb hby at_42) kq) ?_
    refine own_viaH (fun _ kq => XS.iand X196_.here hx rfl (hb hby at_43) rfl kq) ?_
    have s52 : ∀ (fl : Int32), own_FinH p e s below Z own_EL (own_Q_law Z p1 p2 p3 p4 p5 cz fm va kv bt ct sb tb ktb sc tc ktc em h0 n0) room_1.cells room_1.slots T196_ (mkF m 52 #[.val (.int p1), .val (.int p2), .val (.int p3), .val (.int p4), .val (.int p5), .val (.ref a196_), .val (.int ((p2 &&& (2147483647 : Int32)) % (20 : Int32))), .val (.int ((p3 &&& (2147483647 : Int32)) % (20 : Int32))), .val (.int ((p4 &&& (65535 : Int32)).toUInt32.toUInt16.toUInt32.toInt32)), .unset, .unset, .unset, .unset, .unset] [(.int fl)]) := by
     intro fl
     refine own_viaH (fun _ kq => XS.istore X196_.here hx rfl (hb hby at_52) rfl (l' := #[.val (.int p1), .val (.int p2), .val (.int p3), .val (.int p4), .val (.int p5), .val (.ref a196_), .val (.int ((p2 &&& (2147483647 : Int32)) % (20 : Int32))), .val (.int ((p3 &&& (2147483647 : Int32)) % (20 : Int32))), .val (.int ((p4 &&& (65535 : Int32)).toUInt32.toUInt16.toUInt32.toInt32)), .val (.int fl), .unset, .unset, .unset, .unset]) rfl kq) ?_
     obtain ⟨nn, hnn⟩ : ∃ z, z = ((p2 &&& (2147483647 : Int32)) % (20 : Int32)) := ⟨_, rfl⟩
     obtain ⟨cc, hcc_⟩ : ∃ z, z = ((p4 &&& (65535 : Int32)).toUInt32.toUInt16.toUInt32.toInt32) := ⟨_, rfl⟩
     have hcc : own_chr cc := by rw [hcc_]; exact own_i2c_chr _
     obtain ⟨n, hN, hn19⟩ : ∃ n : Nat, nn = Int32.ofNat n ∧ n ≤ 19 := by rw [hnn]; exact own_n20 p2
     obtain ⟨po, hpo⟩ : ∃ z, z = ((p3 &&& (2147483647 : Int32)) % (20 : Int32)) := ⟨_, rfl⟩
     have hn4 : n ≤ 4000 := Nat.le_trans hn19 (by decide)
     have hn10 : n ≤ 10000 := Nat.le_trans hn19 (by decide)
     rw [← hnn, ← hcc_, ← hpo]
     show own_FinH _ _ _ _ _ _ _ _ _ T196_ (mkF m 54 #[.val (.int p1), .val (.int p2), .val (.int p3), .val (.int p4), .val (.int p5), .val (.ref a196_), .val (.int nn), .val (.int po), .val (.int cc), .val (.int fl), .unset, .unset, .unset, .unset] [])
     refine own_viaH (fun _ kq => XS.iload X196_.here hx rfl (hb hby at_54) rfl kq) ?_
     show own_FinH _ _ _ _ _ _ _ _ _ T196_ (mkF m 56 #[.val (.int p1), .val (.int p2), .val (.int p3), .val (.int p4), .val (.int p5), .val (.ref a196_), .val (.int nn), .val (.int po), .val (.int cc), .val (.int fl), .unset, .unset, .unset, .unset] [(.int nn)])
     obtain ⟨T197_, h197_, k197_, X197_, e197_, E197_, A197_, st197_⟩ := newP X196_ hx hZ196_ (own_w hw 10 rfl) e196_ (g := (mkF m 56 #[.val (.int p1), .val (.int p2), .val (.int p3), .val (.int p4), .val (.int p5), .val (.ref a196_), .val (.int nn), .val (.int po), .val (.int cc), .val (.int fl), .unset, .unset, .unset, .unset] [(.int nn)])) rfl (hb hby at_56) rfl (own_nneg hN hn10) (cap := 19) (by rw [own_clamp hN hn10]; exact hn19) (by decide) (by decide) (by decide)
     obtain ⟨b197_, g197_⟩ : ∃ z, z = h196_.size := ⟨_, rfl⟩
     rw [← g197_] at A197_ st197_
     have V197_ : Arv Z h197_ b197_ k197_ .char nn (List.replicate n (.int (0 : Int32))) (.int (0 : Int32)) := (Arv.new A197_ (own_nneg hN hn10)).pad (pad_rep [] (.int (0 : Int32)) n)
     refine own_viaH (fun _ kq => st197_ _ kq) ?_
     show own_FinH _ _ _ _ _ _ _ _ _ T197_ (mkF m 58 #[.val (.int p1), .val (.int p2), .val (.int p3), .val (.int p4), .val (.int p5), .val (.ref a196_), .val (.int nn), .val (.int po), .val (.int cc), .val (.int fl), .unset, .unset, .unset, .unset] [(.ref b197_)])
     refine own_viaH (fun _ kq => XS.astore X197_.here hx rfl (hb hby at_58) rfl rfl (l' := #[.val (.int p1), .val (.int p2), .val (.int p3), .val (.int p4), .val (.int p5), .val (.ref a196_), .val (.int nn), .val (.int po), .val (.int cc), .val (.int fl), .val (.ref b197_), .unset, .unset, .unset]) rfl kq) ?_
     have Vr : Arv Z h197_ b197_ k197_ .char nn ((List.replicate n (0 : Int32)).map Value.int) (.int 0) := by rw [List.map_replicate]; exact V197_
     have q198_ : a196_ ≠ b197_ := Nat.ne_of_lt (Nat.lt_of_lt_of_le rE196_.lt (Nat.le_of_eq g197_.symm))
     have q199_ : b196_ ≠ b197_ := Nat.ne_of_lt (Nat.lt_of_lt_of_le rA196_.lt (Nat.le_of_eq g197_.symm))
     have g200_ : n0 ≤ b197_ := Nat.le_trans (Nat.le_trans Z0 E196_.1) (Nat.le_of_eq g197_.symm)
     have s516 : ∀ (xs : List Int32) (Tl : State) (locl : List Loc) (Xl : Stand p l e room_1 (s.setVm T196_.vm) m #[(.int p1), (.int p2), (.int p3), (.int p4), (.int p5)] below meth cde Tl locl (0 + 2 + 1) (0 + (72 + 4) + 19)) (Nl : Fr n0 locl) (hl : Heap) (el : Tl.heap = hl) (hkl : h197_.size ≤ hl.size) (Cl : CHr Z own_EL s.vm h0 T196_.vm hl) (Ol : Old Z n0 hl) (Vl : Arv Z hl b197_ k197_ .char nn (xs.map Value.int) (.int 0)) (hxl : xs.length = n) (hxs : own_chs xs), own_FinH p e s below Z own_EL (own_Q_law Z p1 p2 p3 p4 p5 cz fm va kv bt ct sb tb ktb sc tc ktc em h0 n0) room_1.cells room_1.slots Tl (mkF m 516 #[.val (.int p1), .val (.int p2), .val (.int p3), .val (.int p4), .val (.int p5), .val (.ref a196_), .val (.int nn), .val (.int po), .val (.int cc), .val (.int fl), .val (.ref b197_), .unset, .unset, .unset] []) := by
      intro xs Tl locl Xl Nl hl el hkl Cl Ol Vl hxl hxs
      have Zl : n0 ≤ hl.size := Nat.le_trans Z0 Cl.2.1
      rcases Nat.eq_zero_or_pos n with hz | hp
      · have exs_ : xs = [] := List.eq_nil_of_length_eq_zero (hxl.trans hz)
        have Vz : Arv Z hl b197_ k197_ .char (0 : Int32) [] (.int 0) := by
          have v := Vl
          rw [exs_, hN, hz] at v
          exact v
        obtain ⟨T201_, h201_, X201_, e201_, E201_, A201_, D201_, -, st201_⟩ := newO Xl hx hZ196_ hown196_ (own_w hw 50 rfl) (own_w hw 2 rfl) (own_w hw 1 rfl) el (g := (mkF m 516 #[.val (.int p1), .val (.int p2), .val (.int p3), .val (.int p4), .val (.int p5), .val (.ref a196_), .val (.int nn), .val (.int po), .val (.int cc), .val (.int fl), .val (.ref b197_), .unset, .unset, .unset] [])) rfl (hb hby at_516) (by decide) (by decide)
        obtain ⟨b201_, g201_⟩ : ∃ z, z = hl.size := ⟨_, rfl⟩
        rw [← g201_] at A201_ D201_ st201_
        have F202_ : Fld Z h201_ b201_ "java/lang/String" "value" "[B" .null := D201_ (Or.inr (own_w hw 4 rfl)) (ty := (.array .byte)) (by decide)
        have F203_ : Fld Z h201_ b201_ "java/lang/String" "coder" "B" (.int (0 : Int32)) := D201_ (Or.inr (own_w hw 5 rfl)) (ty := .byte) (by decide)
        refine own_viaH (fun _ kq => st201_ _ kq) ?_
        show own_FinH _ _ _ _ _ _ _ _ _ T201_ (mkF m 519 #[.val (.int p1), .val (.int p2), .val (.int p3), .val (.int p4), .val (.int p5), .val (.ref a196_), .val (.int nn), .val (.int po), .val (.int cc), .val (.int fl), .val (.ref b197_), .unset, .unset, .unset] [(.ref b201_)])
        refine own_viaH (fun _ kq => XS.dup X201_.here hx rfl (hb hby at_519) rfl rfl kq) ?_
        refine own_viaH (fun _ kq => XS.aload X201_.here hx rfl (hb hby at_520) rfl rfl kq) ?_
        show own_FinH _ _ _ _ _ _ _ _ _ T201_ (mkF m 522 #[.val (.int p1), .val (.int p2), .val (.int p3), .val (.int p4), .val (.int p5), .val (.ref a196_), .val (.int nn), .val (.int po), .val (.int cc), .val (.int fl), .val (.ref b197_), .unset, .unset, .unset] [(.ref b197_), (.ref b201_), (.ref b201_)])
        have g205_ : n0 ≤ b201_ := Nat.le_trans Zl (Nat.le_of_eq g201_.symm)
        have C206_ := Cl.trans (CHr.ext E201_ Cl.1)
        have H206_ := C206_.1
        obtain ⟨_, _, ⟨T204_, L204_, k204_, n204_⟩, -, Y204_, hSq204_, hgq204_, ⟨Lc204_, hQ204_, l204_, y204_, z204_, Cq204_⟩, st204_⟩ := X201_.specialBackS hx (y := (⟨"java/lang/String", "<init>", "([C)V"⟩ : MethodName)) rfl hown196_ (mvT hZ196_ (own_w hw 51 rfl)) (mvT hZ196_ (own_w hw 52 rfl)) (mvT hZ196_ (own_w hw 53 rfl)) (by decide) (backOfSH (s := s) (vm0 := T196_.vm) (W := 1) (own_rm_sInit1 l Z a0 hw [] b201_ b197_ k197_ (.int (0 : Int32)) h201_ n0 (Nat.le_trans Zl E201_.1) A201_ F202_ F203_ (Vz.ext E201_) g205_) hZ196_ (own_w hw 53 rfl) (own_w hw 1 rfl) (by decide) (by decide) (own_ew hw) H206_) (g := (mkF m 522 #[.val (.int p1), .val (.int p2), .val (.int p3), .val (.int p4), .val (.int p5), .val (.ref a196_), .val (.int nn), .val (.int po), .val (.int cc), .val (.int fl), .val (.ref b197_), .unset, .unset, .unset] [(.ref b197_), (.ref b201_), (.ref b201_)])) rfl (by rw [hml]; rfl) (Steps.refl _) (a := b201_) (argsL := [(.ref b197_)]) (rest := [(.ref b201_)]) (lenOf own_pd21 rfl) rfl (by show 2 * 0 + _ ≤ _; exact Nat.le_of_eq rfl) (hb hby at_522) (fun _ _ => ⟨rfl, e201_, (by decide : (0 + 2 + 1) + 1 + 4 ≤ _), (by decide : (0 + (72 + 4) + 19) + 4 + 8 ≤ _)⟩)
        dsimp only [Pt.U, Pt.locs, Pt.cells, Pt.slots] at Y204_ l204_ y204_ z204_ st204_ hQ204_ hSq204_ hgq204_ Cq204_
        subst l204_ y204_ z204_
        obtain ⟨X204_, hS204_, hZ204_, hown204_⟩ := rebS hS196_ (by rw [e201_]; exact (Nat.le_trans (Nat.le_trans (Nat.le_trans hk196_ E197_.1) hkl) E201_.1)) Y204_ hSq204_ hgq204_ hZ196_ hown196_
        obtain ⟨ti, kti, rfl, Nq204_, K204_, r207_, r208_, r209_, r210_⟩ := hQ204_
        have N204_ := Fr.app Nl Nq204_
        refine own_viaH (fun _ kq => st204_.trans kq) ?_
        show own_FinH _ _ _ _ _ _ _ _ _ T204_ (mkF m 525 #[.val (.int p1), .val (.int p2), .val (.int p3), .val (.int p4), .val (.int p5), .val (.ref a196_), .val (.int nn), .val (.int po), .val (.int cc), .val (.int fl), .val (.ref b197_), .unset, .unset, .unset] [(.ref b201_)])
        refine own_viaH (fun _ kq => XS.astore X204_.here hx rfl (hb hby at_525) rfl rfl (l' := #[.val (.int p1), .val (.int p2), .val (.int p3), .val (.int p4), .val (.int p5), .val (.ref a196_), .val (.int nn), .val (.int po), .val (.int cc), .val (.int fl), .val (.ref b197_), .val (.ref b201_), .unset, .unset]) rfl kq) ?_
        refine own_viaH (fun _ kq => XS.aconstNull X204_.here hx rfl (hb hby at_527) kq) ?_
        refine own_viaH (fun _ kq => XS.astore X204_.here hx rfl (hb hby at_528) rfl rfl (l' := #[.val (.int p1), .val (.int p2), .val (.int p3), .val (.int p4), .val (.int p5), .val (.ref a196_), .val (.int nn), .val (.int po), .val (.int cc), .val (.int fl), .val (.ref b197_), .val (.ref b201_), .val .null, .unset]) rfl kq) ?_
        refine own_viaH (fun _ kq => XS.aload X204_.here hx rfl (hb hby at_530) rfl rfl kq) ?_
        show own_FinH _ _ _ _ _ _ _ _ _ T204_ (mkF m 532 #[.val (.int p1), .val (.int p2), .val (.int p3), .val (.int p4), .val (.int p5), .val (.ref a196_), .val (.int nn), .val (.int po), .val (.int cc), .val (.int fl), .val (.ref b197_), .val (.ref b201_), .val .null, .unset] [(.ref b201_)])
        have C212_ := C206_.trans Cq204_
        have H212_ := C212_.1
        obtain ⟨a211_, T211_, h211_, k211_, b211_, kb211_, X211_, e211_, E211_, hS211_, hk211_, hZ211_, hown211_, rE211_, rC211_, rV211_, rA211_, -, -, Cq211_, -, Sx211_, st211_⟩ := ldcCH X204_ hx hZ204_ hown204_ (own_w hw 0 rfl) (own_atoms hw) rfl hS204_ (Nat.le_refl _) (own_ew hw) (List.mem_of_getElem? (i := 0) rfl) H212_ (vs := [(.int (98 : Int32)), (.int (97 : Int32)), (.int (116 : Int32)), (.int (99 : Int32)), (.int (104 : Int32)), (.int (46 : Int32)), (.int (115 : Int32)), (.int (105 : Int32)), (.int (103 : Int32)), (.int (110 : Int32)), (.int (101 : Int32)), (.int (100 : Int32))]) (z := (12 : Int32)) ⟨by decide, by decide⟩ (by decide) (by decide) (g := (mkF m 532 #[.val (.int p1), .val (.int p2), .val (.int p3), .val (.int p4), .val (.int p5), .val (.ref a196_), .val (.int nn), .val (.int po), .val (.int cc), .val (.int fl), .val (.ref b197_), .val (.ref b201_), .val .null, .unset] [(.ref b201_)])) rfl (hb hby at_532) (n := 48) (by decide) (by decide) (by decide) (by decide)
        refine own_viaH (fun _ kq => st211_ _ kq) ?_
        show own_FinH _ _ _ _ _ _ _ _ _ T211_ (mkF m 534 #[.val (.int p1), .val (.int p2), .val (.int p3), .val (.int p4), .val (.int p5), .val (.ref a196_), .val (.int nn), .val (.int po), .val (.int cc), .val (.int fl), .val (.ref b197_), .val (.ref b201_), .val .null, .unset] [(.ref a211_), (.ref b201_)])
        have sf214_ : Safe Z own_EL T196_.vm hl b201_ := Safe.new (Nat.le_of_eq g201_.symm)
        have sf215_ : Safe Z own_EL T196_.vm h201_ b201_ := Safe.ext E201_ Cl.1 sf214_
        have sf216_ : Safe Z own_EL T204_.vm T204_.heap b201_ := Cq204_.safe (A201_).lt sf215_
        have sf217_ : Safe Z own_EL T211_.vm h211_ b201_ := Cq211_.safe (r207_).lt sf216_
        have q213_ : b201_ ≠ a211_ := (Sx211_ _ sf217_).1
        obtain ⟨cq218_, kq218_, q218_a, q218_b, q218_c⟩ := isOf hZ211_ e211_ (r207_.ext E211_)
        obtain ⟨_, _, ⟨T218_, L218_, k218_, n218_⟩, -, X218_, ⟨Lc218_, hQ218_, l218_, y218_, z218_⟩, st218_⟩ := X211_.virtualBack hx (y := (⟨"java/lang/String", "equals", "(Ljava/lang/Object;)Z"⟩ : MethodName)) (z := (⟨"java/lang/String", "equals", "(Ljava/lang/Object;)Z"⟩ : MethodName)) hown211_ (mvT hZ211_ (own_w hw 71 rfl)) (mvT hZ211_ (own_w hw 72 rfl)) (notFace_of_selects (args := #[]) (mvT hZ211_ (own_w hw 74 rfl))) (mvT hZ211_ (own_w hw 74 rfl)) (mvT hZ211_ (own_w hw 73 rfl)) (by decide) (backOf (W := 0) (own_rm_eqS l Z a0 hw [] b201_ cz ti kti (0 : Int32) (0 : Int32) [] ([] : List Int32) a211_ b211_ kb211_ (0 : Int32) (12 : Int32) [(.int (98 : Int32)), (.int (97 : Int32)), (.int (116 : Int32)), (.int (99 : Int32)), (.int (104 : Int32)), (.int (46 : Int32)), (.int (115 : Int32)), (.int (105 : Int32)), (.int (103 : Int32)), (.int (110 : Int32)), (.int (101 : Int32)), (.int (100 : Int32))] own_t1 h211_ n0 (Nat.le_trans Zl (Nat.le_trans (Nat.le_trans E201_.1 K204_.1) E211_.1)) (((Ol.ext E201_).keep K204_ (allS g205_ all0)).ext E211_) S1 P5 (r207_.ext E211_) (r208_.ext E211_) (r209_.ext E211_) (r210_.ext E211_) own_cod_nil (by simp) own_chs_nil rE211_ rC211_ rV211_ rA211_ own_lit1 (by decide) own_litr1 q213_) hZ211_ (own_w hw 75 rfl) (own_w hw 1 rfl) (by decide) (by decide)) q218_a q218_c (g := (mkF m 534 #[.val (.int p1), .val (.int p2), .val (.int p3), .val (.int p4), .val (.int p5), .val (.ref a196_), .val (.int nn), .val (.int po), .val (.int cc), .val (.int fl), .val (.ref b197_), .val (.ref b201_), .val .null, .unset] [(.ref a211_), (.ref b201_)])) rfl (by rw [hml]; rfl) (Steps.refl _) (argsL := [(.ref a211_)]) (rest := []) (lenOf own_pd18 rfl) rfl (by show 2 * 0 + _ ≤ _; exact Nat.le_of_eq rfl) (hb hby at_534) (fun _ _ => ⟨rfl, e211_, (by decide : (0 + 2 + 1) + 1 + 4 + 2 + 0 ≤ _), (by decide : (0 + (72 + 4) + 19) + 4 + 8 + (48 + 4) + 0 ≤ _)⟩)
        dsimp only [Pt.U, Pt.locs, Pt.cells, Pt.slots] at X218_ l218_ y218_ z218_ st218_ hQ218_
        subst l218_ y218_ z218_
        obtain ⟨re1, rfl, Nq218_, hh218_, hre1⟩ := hQ218_
        have N218_ := Fr.app N204_ Nq218_
        refine own_viaH (fun _ kq => st218_.trans kq) ?_
        show own_FinH _ _ _ _ _ _ _ _ _ T218_ (mkF m 537 #[.val (.int p1), .val (.int p2), .val (.int p3), .val (.int p4), .val (.int p5), .val (.ref a196_), .val (.int nn), .val (.int po), .val (.int cc), .val (.int fl), .val (.ref b197_), .val (.ref b201_), .val .null, .unset] [(.int re1)])
        rcases Classical.em (re1 = (0 : Int32)) with hs1 | hs1
        · refine own_viaH (fun _ kq => XS.ifYes X218_.here hx rfl (pc0 := 537) (pc' := 548) rfl (hb hby at_537) rfl ((if0 _ _).trans (teq hs1).1) (by decide) (by decide) kq) ?_
          show own_FinH _ _ _ _ _ _ _ _ _ T218_ (mkF m 548 #[.val (.int p1), .val (.int p2), .val (.int p3), .val (.int p4), .val (.int p5), .val (.ref a196_), .val (.int nn), .val (.int po), .val (.int cc), .val (.int fl), .val (.ref b197_), .val (.ref b201_), .val .null, .unset] [])
          refine own_viaH (fun _ kq => XS.aload X218_.here hx rfl (hb hby at_548) rfl rfl kq) ?_
          show own_FinH _ _ _ _ _ _ _ _ _ T218_ (mkF m 550 #[.val (.int p1), .val (.int p2), .val (.int p3), .val (.int p4), .val (.int p5), .val (.ref a196_), .val (.int nn), .val (.int po), .val (.int cc), .val (.int fl), .val (.ref b197_), .val (.ref b201_), .val .null, .unset] [(.ref b201_)])
          have C230_ := C212_.trans Cq211_
          have H230_ := C230_.1
          obtain ⟨a229_, T229_, h229_, k229_, b229_, kb229_, X229_, e229_, E229_, hS229_, hk229_, hZ229_, hown229_, rE229_, rC229_, rV229_, rA229_, -, -, Cq229_, -, Sx229_, st229_⟩ := ldcCH X218_ hx hZ211_ hown211_ (own_w hw 80 rfl) (own_atoms hw) hh218_ hS211_ hk211_ (own_ew hw) (List.mem_of_getElem? (i := 1) rfl) H230_ (vs := [(.int (99 : Int32)), (.int (114 : Int32)), (.int (101 : Int32)), (.int (100 : Int32)), (.int (101 : Int32)), (.int (110 : Int32)), (.int (116 : Int32)), (.int (105 : Int32)), (.int (97 : Int32)), (.int (108 : Int32)), (.int (46 : Int32)), (.int (114 : Int32)), (.int (101 : Int32)), (.int (118 : Int32)), (.int (111 : Int32)), (.int (107 : Int32)), (.int (101 : Int32)), (.int (100 : Int32))]) (z := (18 : Int32)) ⟨by decide, by decide⟩ (by decide) (by decide) (g := (mkF m 550 #[.val (.int p1), .val (.int p2), .val (.int p3), .val (.int p4), .val (.int p5), .val (.ref a196_), .val (.int nn), .val (.int po), .val (.int cc), .val (.int fl), .val (.ref b197_), .val (.ref b201_), .val .null, .unset] [(.ref b201_)])) rfl (hb hby at_550) (n := 72) (by decide) (by decide) (by decide) (by decide)
          refine own_viaH (fun _ kq => st229_ _ kq) ?_
          show own_FinH _ _ _ _ _ _ _ _ _ T229_ (mkF m 552 #[.val (.int p1), .val (.int p2), .val (.int p3), .val (.int p4), .val (.int p5), .val (.ref a196_), .val (.int nn), .val (.int po), .val (.int cc), .val (.int fl), .val (.ref b197_), .val (.ref b201_), .val .null, .unset] [(.ref a229_), (.ref b201_)])
          have sf232_ : Safe Z own_EL T196_.vm h201_ b201_ := Safe.ext E201_ Cl.1 sf214_
          have sf233_ : Safe Z own_EL T204_.vm T204_.heap b201_ := Cq204_.safe (A201_).lt sf232_
          have sf234_ : Safe Z own_EL T211_.vm h211_ b201_ := Cq211_.safe (r207_).lt sf233_
          have sf235_ : Safe Z own_EL T229_.vm h229_ b201_ := Cq229_.safe ((r207_.ext E211_)).lt sf234_
          have q231_ : b201_ ≠ a229_ := (Sx229_ _ sf235_).1
          have f237_ := ((((Ol.ext E201_).keep K204_ (allS g205_ all0)).ext E211_).ext E229_)
          obtain ⟨cq236_, kq236_, q236_a, q236_b, q236_c⟩ := isOf hZ229_ e229_ ((r207_.ext E211_).ext E229_)
          obtain ⟨_, _, ⟨T236_, L236_, k236_, n236_⟩, -, X236_, ⟨Lc236_, hQ236_, l236_, y236_, z236_⟩, st236_⟩ := X229_.virtualBack hx (y := (⟨"java/lang/String", "equals", "(Ljava/lang/Object;)Z"⟩ : MethodName)) (z := (⟨"java/lang/String", "equals", "(Ljava/lang/Object;)Z"⟩ : MethodName)) hown229_ (mvT hZ229_ (own_w hw 71 rfl)) (mvT hZ229_ (own_w hw 72 rfl)) (notFace_of_selects (args := #[]) (mvT hZ229_ (own_w hw 74 rfl))) (mvT hZ229_ (own_w hw 74 rfl)) (mvT hZ229_ (own_w hw 73 rfl)) (by decide) (backOf (W := 0) (own_rm_eqS l Z a0 hw [] b201_ cz ti kti (0 : Int32) (0 : Int32) [] ([] : List Int32) a229_ b229_ kb229_ (0 : Int32) (18 : Int32) [(.int (99 : Int32)), (.int (114 : Int32)), (.int (101 : Int32)), (.int (100 : Int32)), (.int (101 : Int32)), (.int (110 : Int32)), (.int (116 : Int32)), (.int (105 : Int32)), (.int (97 : Int32)), (.int (108 : Int32)), (.int (46 : Int32)), (.int (114 : Int32)), (.int (101 : Int32)), (.int (118 : Int32)), (.int (111 : Int32)), (.int (107 : Int32)), (.int (101 : Int32)), (.int (100 : Int32))] own_t2 h229_ n0 (Nat.le_trans Zl (Nat.le_trans (Nat.le_trans (Nat.le_trans E201_.1 K204_.1) E211_.1) E229_.1)) f237_ S1 P5 ((r207_.ext E211_).ext E229_) ((r208_.ext E211_).ext E229_) ((r209_.ext E211_).ext E229_) ((r210_.ext E211_).ext E229_) own_cod_nil (by simp) own_chs_nil rE229_ rC229_ rV229_ rA229_ own_lit2 (by decide) own_litr2 q231_) hZ229_ (own_w hw 75 rfl) (own_w hw 1 rfl) (by decide) (by decide)) q236_a q236_c (g := (mkF m 552 #[.val (.int p1), .val (.int p2), .val (.int p3), .val (.int p4), .val (.int p5), .val (.ref a196_), .val (.int nn), .val (.int po), .val (.int cc), .val (.int fl), .val (.ref b197_), .val (.ref b201_), .val .null, .unset] [(.ref a229_), (.ref b201_)])) rfl (by rw [hml]; rfl) (Steps.refl _) (argsL := [(.ref a229_)]) (rest := []) (lenOf own_pd18 rfl) rfl (by show 2 * 0 + _ ≤ _; exact Nat.le_of_eq rfl) (hb hby at_552) (fun _ _ => ⟨rfl, e229_, (by decide : (0 + 2 + 1) + 1 + 4 + 2 + 0 + 2 + 0 ≤ _), (by decide : (0 + (72 + 4) + 19) + 4 + 8 + (48 + 4) + 0 + (72 + 4) + 0 ≤ _)⟩)
          dsimp only [Pt.U, Pt.locs, Pt.cells, Pt.slots] at X236_ l236_ y236_ z236_ st236_ hQ236_
          subst l236_ y236_ z236_
          obtain ⟨re2, rfl, Nq236_, hh236_, hre2⟩ := hQ236_
          have N236_ := Fr.app N218_ Nq236_
          refine own_viaH (fun _ kq => st236_.trans kq) ?_
          show own_FinH _ _ _ _ _ _ _ _ _ T236_ (mkF m 555 #[.val (.int p1), .val (.int p2), .val (.int p3), .val (.int p4), .val (.int p5), .val (.ref a196_), .val (.int nn), .val (.int po), .val (.int cc), .val (.int fl), .val (.ref b197_), .val (.ref b201_), .val .null, .unset] [(.int re2)])
          rcases Classical.em (re2 = (0 : Int32)) with hs2 | hs2
          · refine own_viaH (fun _ kq => XS.ifYes X236_.here hx rfl (pc0 := 555) (pc' := 563) rfl (hb hby at_555) rfl ((if0 _ _).trans (teq hs2).1) (by decide) (by decide) kq) ?_
            show own_FinH _ _ _ _ _ _ _ _ _ T236_ (mkF m 563 #[.val (.int p1), .val (.int p2), .val (.int p3), .val (.int p4), .val (.int p5), .val (.ref a196_), .val (.int nn), .val (.int po), .val (.int cc), .val (.int fl), .val (.ref b197_), .val (.ref b201_), .val .null, .unset] [])
            refine own_viaH (fun _ kq => XS.aload X236_.here hx rfl (hb hby at_563) rfl rfl kq) ?_
            show own_FinH _ _ _ _ _ _ _ _ _ T236_ (mkF m 565 #[.val (.int p1), .val (.int p2), .val (.int p3), .val (.int p4), .val (.int p5), .val (.ref a196_), .val (.int nn), .val (.int po), .val (.int cc), .val (.int fl), .val (.ref b197_), .val (.ref b201_), .val .null, .unset] [(.ref b201_)])
            have q248_ : sb ≠ b201_ := Nat.ne_of_lt (Nat.lt_of_lt_of_le (Esb.ext Ol.2).lt (Nat.le_of_eq g201_.symm))
            have q249_ : sc ≠ b201_ := Nat.ne_of_lt (Nat.lt_of_lt_of_le (Esc.ext Ol.2).lt (Nat.le_of_eq g201_.symm))
            obtain ⟨_, _, ⟨T250_, L250_, k250_, n250_⟩, -, X250_, ⟨Lc250_, hQ250_, l250_, y250_, z250_⟩, st250_⟩ := Jvm.LawKit.callS X236_ hx (y := (⟨"com/example/lichen/lichen/webhook/EventType", "of", "(Ljava/lang/String;)Ljava/util/Optional;"⟩ : MethodName)) hown229_ (mvT hZ229_ (own_w hw 81 rfl)) (mvT hZ229_ (own_w hw 82 rfl)) (mvT hZ229_ (own_w hw 83 rfl)) (mvT hZ229_ (own_w hw 84 rfl)) (by decide) (backOf (W := 0) (own_rm_ofN l Z a0 hw [] b201_ cz ti kti (0 : Int32) (0 : Int32) [] ([] : List Int32) va kv bt ct sb tb ktb sc tc ktc em h229_ n0 (Nat.le_trans Zl (Nat.le_trans (Nat.le_trans (Nat.le_trans E201_.1 K204_.1) E211_.1) E229_.1)) f237_ S1 P5 Sv Se ((r207_.ext E211_).ext E229_) ((r208_.ext E211_).ext E229_) ((r209_.ext E211_).ext E229_) ((r210_.ext E211_).ext E229_) own_cod_nil (by simp) own_chs_nil Eva Vva Ebt Fbt Esb Fcsb Fvsb Vtb Ect Fct Esc Fcsc Fvsc Vtc Eem Fem q248_ q249_ (hre1.resolve_left fun q => absurd (q.1.symm.trans hs1) (by decide)).2 (hre2.resolve_left fun q => absurd (q.1.symm.trans hs2) (by decide)).2) hZ229_ (own_w hw 84 rfl) (own_w hw 83 rfl) (by decide) (by decide)) (g := (mkF m 565 #[.val (.int p1), .val (.int p2), .val (.int p3), .val (.int p4), .val (.int p5), .val (.ref a196_), .val (.int nn), .val (.int po), .val (.int cc), .val (.int fl), .val (.ref b197_), .val (.ref b201_), .val .null, .unset] [(.ref b201_)])) rfl (by rw [hml]; rfl) (argsL := [(.ref b201_)]) (rest := []) (lenOf own_pd22 rfl) rfl (by show 2 * 0 + _ ≤ _; exact Nat.le_of_eq rfl) (hb hby at_565) (fun _ _ => ⟨rfl, hh236_, (by decide : (0 + 2 + 1) + 1 + 4 + 2 + 0 + 2 + 0 + 1 ≤ _), (by decide : (0 + (72 + 4) + 19) + 4 + 8 + (48 + 4) + 0 + (72 + 4) + 0 + 2 ≤ _)⟩)
            dsimp only [Pt.U, Pt.locs, Pt.cells, Pt.slots] at X250_ l250_ y250_ z250_ st250_ hQ250_
            subst l250_ y250_ z250_
            obtain ⟨oo, rfl, Nq250_, K250_, r251_, r252_⟩ := hQ250_
            have N250_ := Fr.app N236_ Nq250_
            refine own_viaH (fun _ kq => st250_ _ kq) ?_
            show own_FinH _ _ _ _ _ _ _ _ _ T250_ (mkF m 568 #[.val (.int p1), .val (.int p2), .val (.int p3), .val (.int p4), .val (.int p5), .val (.ref a196_), .val (.int nn), .val (.int po), .val (.int cc), .val (.int fl), .val (.ref b197_), .val (.ref b201_), .val .null, .unset] [(.ref oo)])
            refine own_viaH (fun _ kq => XS.astore X250_.here hx rfl (hb hby at_568) rfl rfl (l' := #[.val (.int p1), .val (.int p2), .val (.int p3), .val (.int p4), .val (.int p5), .val (.ref a196_), .val (.int nn), .val (.int po), .val (.int cc), .val (.int fl), .val (.ref b197_), .val (.ref b201_), .val .null, .val (.ref oo)]) rfl kq) ?_
            refine own_viaH (fun _ kq => XS.aload X250_.here hx rfl (hb hby at_570) rfl rfl kq) ?_
            refine own_viaH (fun _ kq => XS.ifnonnullNo X250_.here hx rfl (hb hby at_572) rfl kq) ?_
            show own_FinH _ _ _ _ _ _ _ _ _ T250_ (mkF m 575 #[.val (.int p1), .val (.int p2), .val (.int p3), .val (.int p4), .val (.int p5), .val (.ref a196_), .val (.int nn), .val (.int po), .val (.int cc), .val (.int fl), .val (.ref b197_), .val (.ref b201_), .val .null, .val (.ref oo)] [])
            refine own_viaH (fun _ kq => XS.aload X250_.here hx rfl (hb hby at_575) rfl rfl kq) ?_
            show own_FinH _ _ _ _ _ _ _ _ _ T250_ (mkF m 577 #[.val (.int p1), .val (.int p2), .val (.int p3), .val (.int p4), .val (.int p5), .val (.ref a196_), .val (.int nn), .val (.int po), .val (.int cc), .val (.int fl), .val (.ref b197_), .val (.ref b201_), .val .null, .val (.ref oo)] [(.ref oo)])
            obtain ⟨cq253_, kq253_, q253_a, q253_b, q253_c⟩ := isOf hZ229_ rfl r251_
            obtain ⟨_, _, ⟨T253_, L253_, k253_, n253_⟩, -, X253_, ⟨Lc253_, hQ253_, l253_, y253_, z253_⟩, st253_⟩ := X250_.virtualBack hx (y := (⟨"java/util/Optional", "isPresent", "()Z"⟩ : MethodName)) (z := (⟨"java/util/Optional", "isPresent", "()Z"⟩ : MethodName)) hown229_ (mvT hZ229_ (own_w hw 110 rfl)) (mvT hZ229_ (own_w hw 111 rfl)) (notFace_of_selects (args := #[]) (mvT hZ229_ (own_w hw 113 rfl))) (mvT hZ229_ (own_w hw 113 rfl)) (mvT hZ229_ (own_w hw 112 rfl)) (by decide) (backOf (W := 0) (own_rm_isP0 l Z a0 hw [] oo T250_.heap n0 (Nat.le_trans Zl (Nat.le_trans (Nat.le_trans (Nat.le_trans (Nat.le_trans E201_.1 K204_.1) E211_.1) E229_.1) K250_.1)) r252_) hZ229_ (own_w hw 114 rfl) (own_w hw 107 rfl) (by decide) (by decide)) q253_a q253_c (g := (mkF m 577 #[.val (.int p1), .val (.int p2), .val (.int p3), .val (.int p4), .val (.int p5), .val (.ref a196_), .val (.int nn), .val (.int po), .val (.int cc), .val (.int fl), .val (.ref b197_), .val (.ref b201_), .val .null, .val (.ref oo)] [(.ref oo)])) rfl (by rw [hml]; rfl) (Steps.refl _) (argsL := []) (rest := []) (lenOf own_pd11 rfl) rfl (by show 2 * 0 + _ ≤ _; exact Nat.le_of_eq rfl) (hb hby at_577) (fun _ _ => ⟨rfl, rfl, (by decide : (0 + 2 + 1) + 1 + 4 + 2 + 0 + 2 + 0 + 1 + 0 ≤ _), (by decide : (0 + (72 + 4) + 19) + 4 + 8 + (48 + 4) + 0 + (72 + 4) + 0 + 2 + 0 ≤ _)⟩)
            dsimp only [Pt.U, Pt.locs, Pt.cells, Pt.slots] at X253_ l253_ y253_ z253_ st253_ hQ253_
            subst l253_ y253_ z253_
            obtain ⟨rfl, Nq253_, hh253_⟩ := hQ253_
            have N253_ := Fr.app N250_ Nq253_
            refine own_viaH (fun _ kq => st253_.trans kq) ?_
            show own_FinH _ _ _ _ _ _ _ _ _ T253_ (mkF m 580 #[.val (.int p1), .val (.int p2), .val (.int p3), .val (.int p4), .val (.int p5), .val (.ref a196_), .val (.int nn), .val (.int po), .val (.int cc), .val (.int fl), .val (.ref b197_), .val (.ref b201_), .val .null, .val (.ref oo)] [(.int (0 : Int32))])
            refine own_viaH (fun _ kq => XS.ifNo X253_.here hx rfl (hb hby at_580) rfl ((if0 _ _).trans (teq rfl).2) kq) ?_
            show own_FinH _ _ _ _ _ _ _ _ _ T253_ (mkF m 583 #[.val (.int p1), .val (.int p2), .val (.int p3), .val (.int p4), .val (.int p5), .val (.ref a196_), .val (.int nn), .val (.int po), .val (.int cc), .val (.int fl), .val (.ref b197_), .val (.ref b201_), .val .null, .val (.ref oo)] [])
            refine own_viaH (fun _ kq => XS.iconst X253_.here hx rfl (hb hby at_583) kq) ?_
            refine own_viaH (fun _ kq => XS.goto X253_.here hx rfl (pc0 := 584) (pc' := 588) rfl (hb hby at_584) (by decide) (by decide) kq) ?_
            show own_FinH _ _ _ _ _ _ _ _ _ T253_ (mkF m 588 #[.val (.int p1), .val (.int p2), .val (.int p3), .val (.int p4), .val (.int p5), .val (.ref a196_), .val (.int nn), .val (.int po), .val (.int cc), .val (.int fl), .val (.ref b197_), .val (.ref b201_), .val .null, .val (.ref oo)] [(.int (1 : Int32))])
            have C254_ := C230_.trans Cq229_
            have H254_ := C254_.1
            have C255_ := C254_.trans (CHr.keep K250_ sf0 H254_)
            have H255_ := C255_.1
            exact own_retNH X253_ hx (t := .boolean) Bd.returns Bd.notSynchronized (own_ew hw) hZ229_ hS229_ (Nat.le_trans hk229_ K250_.1) hh C255_ (by simp) (hb hby at_588) hh253_ rfl ⟨rfl, N253_⟩ (by decide) (by decide)
          · refine own_viaH (fun _ kq => XS.ifNo X236_.here hx rfl (hb hby at_555) rfl ((if0 _ _).trans (feq hs2).1) kq) ?_
            show own_FinH _ _ _ _ _ _ _ _ _ T236_ (mkF m 558 #[.val (.int p1), .val (.int p2), .val (.int p3), .val (.int p4), .val (.int p5), .val (.ref a196_), .val (.int nn), .val (.int po), .val (.int cc), .val (.int fl), .val (.ref b197_), .val (.ref b201_), .val .null, .unset] [])
            obtain ⟨T238_, X238_, e238_, st238_⟩ := getS2 X236_ hx hZ229_ hown229_ (host := "") (Or.inl (own_w hw 157 rfl)) Via.refl hh236_ (Sc.ext f237_.2) (g := (mkF m 558 #[.val (.int p1), .val (.int p2), .val (.int p3), .val (.int p4), .val (.int p5), .val (.ref a196_), .val (.int nn), .val (.int po), .val (.int cc), .val (.int fl), .val (.ref b197_), .val (.ref b201_), .val .null, .unset] [])) rfl (hb hby at_558)
            refine own_viaH (fun _ kq => st238_ _ kq) ?_
            show own_FinH _ _ _ _ _ _ _ _ _ T238_ (mkF m 561 #[.val (.int p1), .val (.int p2), .val (.int p3), .val (.int p4), .val (.int p5), .val (.ref a196_), .val (.int nn), .val (.int po), .val (.int cc), .val (.int fl), .val (.ref b197_), .val (.ref b201_), .val .null, .unset] [(.ref ct)])
            refine own_viaH (fun _ kq => XS.astore X238_.here hx rfl (hb hby at_561) rfl rfl (l' := #[.val (.int p1), .val (.int p2), .val (.int p3), .val (.int p4), .val (.int p5), .val (.ref a196_), .val (.int nn), .val (.int po), .val (.int cc), .val (.int fl), .val (.ref b197_), .val (.ref b201_), .val (.ref ct), .unset]) rfl kq) ?_
            refine own_viaH (fun _ kq => XS.aload X238_.here hx rfl (hb hby at_563) rfl rfl kq) ?_
            show own_FinH _ _ _ _ _ _ _ _ _ T238_ (mkF m 565 #[.val (.int p1), .val (.int p2), .val (.int p3), .val (.int p4), .val (.int p5), .val (.ref a196_), .val (.int nn), .val (.int po), .val (.int cc), .val (.int fl), .val (.ref b197_), .val (.ref b201_), .val (.ref ct), .unset] [(.ref b201_)])
            have q239_ : sb ≠ b201_ := Nat.ne_of_lt (Nat.lt_of_lt_of_le (Esb.ext Ol.2).lt (Nat.le_of_eq g201_.symm))
            have q240_ : sc ≠ b201_ := Nat.ne_of_lt (Nat.lt_of_lt_of_le (Esc.ext Ol.2).lt (Nat.le_of_eq g201_.symm))
            obtain ⟨_, _, ⟨T241_, L241_, k241_, n241_⟩, -, X241_, ⟨Lc241_, hQ241_, l241_, y241_, z241_⟩, st241_⟩ := Jvm.LawKit.callS X238_ hx (y := (⟨"com/example/lichen/lichen/webhook/EventType", "of", "(Ljava/lang/String;)Ljava/util/Optional;"⟩ : MethodName)) hown229_ (mvT hZ229_ (own_w hw 81 rfl)) (mvT hZ229_ (own_w hw 82 rfl)) (mvT hZ229_ (own_w hw 83 rfl)) (mvT hZ229_ (own_w hw 84 rfl)) (by decide) (backOf (W := 0) (own_rm_ofC l Z a0 hw [] b201_ cz ti kti (0 : Int32) (0 : Int32) [] ([] : List Int32) va kv bt ct sb tb ktb sc tc ktc em h229_ n0 (Nat.le_trans Zl (Nat.le_trans (Nat.le_trans (Nat.le_trans E201_.1 K204_.1) E211_.1) E229_.1)) f237_ S1 P5 Sv Se ((r207_.ext E211_).ext E229_) ((r208_.ext E211_).ext E229_) ((r209_.ext E211_).ext E229_) ((r210_.ext E211_).ext E229_) own_cod_nil (by simp) own_chs_nil Eva Vva Ebt Fbt Esb Fcsb Fvsb Vtb Ect Fct Esc Fcsc Fvsc Vtc Eem Fem q239_ q240_ (hre1.resolve_left fun q => absurd (q.1.symm.trans hs1) (by decide)).2 (hre2.resolve_right fun q => hs2 q.1).2) hZ229_ (own_w hw 84 rfl) (own_w hw 83 rfl) (by decide) (by decide)) (g := (mkF m 565 #[.val (.int p1), .val (.int p2), .val (.int p3), .val (.int p4), .val (.int p5), .val (.ref a196_), .val (.int nn), .val (.int po), .val (.int cc), .val (.int fl), .val (.ref b197_), .val (.ref b201_), .val (.ref ct), .unset] [(.ref b201_)])) rfl (by rw [hml]; rfl) (argsL := [(.ref b201_)]) (rest := []) (lenOf own_pd22 rfl) rfl (by show 2 * 0 + _ ≤ _; exact Nat.le_of_eq rfl) (hb hby at_565) (fun _ _ => ⟨rfl, e238_, (by decide : (0 + 2 + 1) + 1 + 4 + 2 + 0 + 2 + 0 + 2 ≤ _), (by decide : (0 + (72 + 4) + 19) + 4 + 8 + (48 + 4) + 0 + (72 + 4) + 0 + 3 ≤ _)⟩)
            dsimp only [Pt.U, Pt.locs, Pt.cells, Pt.slots] at X241_ l241_ y241_ z241_ st241_ hQ241_
            subst l241_ y241_ z241_
            obtain ⟨oo, rfl, Nq241_, K241_, r242_, r243_⟩ := hQ241_
            have N241_ := Fr.app N236_ Nq241_
            refine own_viaH (fun _ kq => st241_ _ kq) ?_
            show own_FinH _ _ _ _ _ _ _ _ _ T241_ (mkF m 568 #[.val (.int p1), .val (.int p2), .val (.int p3), .val (.int p4), .val (.int p5), .val (.ref a196_), .val (.int nn), .val (.int po), .val (.int cc), .val (.int fl), .val (.ref b197_), .val (.ref b201_), .val (.ref ct), .unset] [(.ref oo)])
            refine own_viaH (fun _ kq => XS.astore X241_.here hx rfl (hb hby at_568) rfl rfl (l' := #[.val (.int p1), .val (.int p2), .val (.int p3), .val (.int p4), .val (.int p5), .val (.ref a196_), .val (.int nn), .val (.int po), .val (.int cc), .val (.int fl), .val (.ref b197_), .val (.ref b201_), .val (.ref ct), .val (.ref oo)]) rfl kq) ?_
            refine own_viaH (fun _ kq => XS.aload X241_.here hx rfl (hb hby at_570) rfl rfl kq) ?_
            refine own_viaH (fun _ kq => XS.ifnonnullYes X241_.here hx rfl (pc0 := 572) (pc' := 589) rfl (hb hby at_572) rfl (by decide) (by decide) kq) ?_
            show own_FinH _ _ _ _ _ _ _ _ _ T241_ (mkF m 589 #[.val (.int p1), .val (.int p2), .val (.int p3), .val (.int p4), .val (.int p5), .val (.ref a196_), .val (.int nn), .val (.int po), .val (.int cc), .val (.int fl), .val (.ref b197_), .val (.ref b201_), .val (.ref ct), .val (.ref oo)] [])
            refine own_viaH (fun _ kq => XS.aload X241_.here hx rfl (hb hby at_589) rfl rfl kq) ?_
            show own_FinH _ _ _ _ _ _ _ _ _ T241_ (mkF m 591 #[.val (.int p1), .val (.int p2), .val (.int p3), .val (.int p4), .val (.int p5), .val (.ref a196_), .val (.int nn), .val (.int po), .val (.int cc), .val (.int fl), .val (.ref b197_), .val (.ref b201_), .val (.ref ct), .val (.ref oo)] [(.ref oo)])
            obtain ⟨cq244_, kq244_, q244_a, q244_b, q244_c⟩ := isOf hZ229_ rfl r242_
            obtain ⟨_, _, ⟨T244_, L244_, k244_, n244_⟩, -, X244_, ⟨Lc244_, hQ244_, l244_, y244_, z244_⟩, st244_⟩ := X241_.virtualBack hx (y := (⟨"java/util/Optional", "isPresent", "()Z"⟩ : MethodName)) (z := (⟨"java/util/Optional", "isPresent", "()Z"⟩ : MethodName)) hown229_ (mvT hZ229_ (own_w hw 110 rfl)) (mvT hZ229_ (own_w hw 111 rfl)) (notFace_of_selects (args := #[]) (mvT hZ229_ (own_w hw 113 rfl))) (mvT hZ229_ (own_w hw 113 rfl)) (mvT hZ229_ (own_w hw 112 rfl)) (by decide) (backOf (W := 0) (own_rm_isP1 l Z a0 hw [] oo ct T241_.heap n0 (Nat.le_trans Zl (Nat.le_trans (Nat.le_trans (Nat.le_trans (Nat.le_trans E201_.1 K204_.1) E211_.1) E229_.1) K241_.1)) r243_) hZ229_ (own_w hw 114 rfl) (own_w hw 107 rfl) (by decide) (by decide)) q244_a q244_c (g := (mkF m 591 #[.val (.int p1), .val (.int p2), .val (.int p3), .val (.int p4), .val (.int p5), .val (.ref a196_), .val (.int nn), .val (.int po), .val (.int cc), .val (.int fl), .val (.ref b197_), .val (.ref b201_), .val (.ref ct), .val (.ref oo)] [(.ref oo)])) rfl (by rw [hml]; rfl) (Steps.refl _) (argsL := []) (rest := []) (lenOf own_pd11 rfl) rfl (by show 2 * 0 + _ ≤ _; exact Nat.le_of_eq rfl) (hb hby at_591) (fun _ _ => ⟨rfl, rfl, (by decide : (0 + 2 + 1) + 1 + 4 + 2 + 0 + 2 + 0 + 2 + 0 ≤ _), (by decide : (0 + (72 + 4) + 19) + 4 + 8 + (48 + 4) + 0 + (72 + 4) + 0 + 3 + 0 ≤ _)⟩)
            dsimp only [Pt.U, Pt.locs, Pt.cells, Pt.slots] at X244_ l244_ y244_ z244_ st244_ hQ244_
            subst l244_ y244_ z244_
            obtain ⟨rfl, Nq244_, hh244_⟩ := hQ244_
            have N244_ := Fr.app N241_ Nq244_
            refine own_viaH (fun _ kq => st244_.trans kq) ?_
            show own_FinH _ _ _ _ _ _ _ _ _ T244_ (mkF m 594 #[.val (.int p1), .val (.int p2), .val (.int p3), .val (.int p4), .val (.int p5), .val (.ref a196_), .val (.int nn), .val (.int po), .val (.int cc), .val (.int fl), .val (.ref b197_), .val (.ref b201_), .val (.ref ct), .val (.ref oo)] [(.int (1 : Int32))])
            refine own_viaH (fun _ kq => XS.ifNo X244_.here hx rfl (hb hby at_594) rfl ((if0 _ _).trans (feq (by decide)).1) kq) ?_
            show own_FinH _ _ _ _ _ _ _ _ _ T244_ (mkF m 597 #[.val (.int p1), .val (.int p2), .val (.int p3), .val (.int p4), .val (.int p5), .val (.ref a196_), .val (.int nn), .val (.int po), .val (.int cc), .val (.int fl), .val (.ref b197_), .val (.ref b201_), .val (.ref ct), .val (.ref oo)] [])
            refine own_viaH (fun _ kq => XS.aload X244_.here hx rfl (hb hby at_597) rfl rfl kq) ?_
            show own_FinH _ _ _ _ _ _ _ _ _ T244_ (mkF m 599 #[.val (.int p1), .val (.int p2), .val (.int p3), .val (.int p4), .val (.int p5), .val (.ref a196_), .val (.int nn), .val (.int po), .val (.int cc), .val (.int fl), .val (.ref b197_), .val (.ref b201_), .val (.ref ct), .val (.ref oo)] [(.ref oo)])
            obtain ⟨cq245_, kq245_, q245_a, q245_b, q245_c⟩ := isOf hZ229_ hh244_ r242_
            obtain ⟨_, _, ⟨T245_, L245_, k245_, n245_⟩, -, X245_, ⟨Lc245_, hQ245_, l245_, y245_, z245_⟩, st245_⟩ := X244_.virtualBack hx (y := (⟨"java/util/Optional", "get", "()Ljava/lang/Object;"⟩ : MethodName)) (z := (⟨"java/util/Optional", "get", "()Ljava/lang/Object;"⟩ : MethodName)) hown229_ (mvT hZ229_ (own_w hw 152 rfl)) (mvT hZ229_ (own_w hw 153 rfl)) (notFace_of_selects (args := #[]) (mvT hZ229_ (own_w hw 155 rfl))) (mvT hZ229_ (own_w hw 155 rfl)) (mvT hZ229_ (own_w hw 154 rfl)) (by decide) (backOf (W := 0) (own_rm_optG l Z a0 hw [] oo ct T241_.heap n0 (Nat.le_trans Zl (Nat.le_trans (Nat.le_trans (Nat.le_trans (Nat.le_trans E201_.1 K204_.1) E211_.1) E229_.1) K241_.1)) r243_) hZ229_ (own_w hw 156 rfl) (own_w hw 107 rfl) (by decide) (by decide)) q245_a q245_c (g := (mkF m 599 #[.val (.int p1), .val (.int p2), .val (.int p3), .val (.int p4), .val (.int p5), .val (.ref a196_), .val (.int nn), .val (.int po), .val (.int cc), .val (.int fl), .val (.ref b197_), .val (.ref b201_), .val (.ref ct), .val (.ref oo)] [(.ref oo)])) rfl (by rw [hml]; rfl) (Steps.refl _) (argsL := []) (rest := []) (lenOf own_pd23 rfl) rfl (by show 2 * 0 + _ ≤ _; exact Nat.le_of_eq rfl) (hb hby at_599) (fun _ _ => ⟨rfl, hh244_, (by decide : (0 + 2 + 1) + 1 + 4 + 2 + 0 + 2 + 0 + 2 + 0 + 0 ≤ _), (by decide : (0 + (72 + 4) + 19) + 4 + 8 + (48 + 4) + 0 + (72 + 4) + 0 + 3 + 0 + 0 ≤ _)⟩)
            dsimp only [Pt.U, Pt.locs, Pt.cells, Pt.slots] at X245_ l245_ y245_ z245_ st245_ hQ245_
            subst l245_ y245_ z245_
            obtain ⟨rfl, Nq245_, hh245_⟩ := hQ245_
            have N245_ := Fr.app N244_ Nq245_
            refine own_viaH (fun _ kq => st245_.trans kq) ?_
            show own_FinH _ _ _ _ _ _ _ _ _ T245_ (mkF m 602 #[.val (.int p1), .val (.int p2), .val (.int p3), .val (.int p4), .val (.int p5), .val (.ref a196_), .val (.int nn), .val (.int po), .val (.int cc), .val (.int fl), .val (.ref b197_), .val (.ref b201_), .val (.ref ct), .val (.ref oo)] [(.ref ct)])
            refine own_viaH (fun _ kq => XS.aload X245_.here hx rfl (hb hby at_602) rfl rfl kq) ?_
            show own_FinH _ _ _ _ _ _ _ _ _ T245_ (mkF m 604 #[.val (.int p1), .val (.int p2), .val (.int p3), .val (.int p4), .val (.int p5), .val (.ref a196_), .val (.int nn), .val (.int po), .val (.int cc), .val (.int fl), .val (.ref b197_), .val (.ref b201_), .val (.ref ct), .val (.ref oo)] [(.ref ct), (.ref ct)])
            refine own_viaH (fun _ kq => Jvm.RoadKit.acmp (g := (mkF m 604 #[.val (.int p1), .val (.int p2), .val (.int p3), .val (.int p4), .val (.int p5), .val (.ref a196_), .val (.int nn), .val (.int po), .val (.int cc), .val (.int fl), .val (.ref b197_), .val (.ref b201_), .val (.ref ct), .val (.ref oo)] [(.ref ct), (.ref ct)])) X245_ hx rfl rfl rfl (pc0 := 604) (pc' := 607) (same := true) rfl (hb hby at_604) rfl (decide_eq_true rfl) (by decide) (by decide) kq) ?_
            show own_FinH _ _ _ _ _ _ _ _ _ T245_ (mkF m 607 #[.val (.int p1), .val (.int p2), .val (.int p3), .val (.int p4), .val (.int p5), .val (.ref a196_), .val (.int nn), .val (.int po), .val (.int cc), .val (.int fl), .val (.ref b197_), .val (.ref b201_), .val (.ref ct), .val (.ref oo)] [])
            refine own_viaH (fun _ kq => XS.iconst X245_.here hx rfl (hb hby at_607) kq) ?_
            refine own_viaH (fun _ kq => XS.goto X245_.here hx rfl (pc0 := 608) (pc' := 612) rfl (hb hby at_608) (by decide) (by decide) kq) ?_
            show own_FinH _ _ _ _ _ _ _ _ _ T245_ (mkF m 612 #[.val (.int p1), .val (.int p2), .val (.int p3), .val (.int p4), .val (.int p5), .val (.ref a196_), .val (.int nn), .val (.int po), .val (.int cc), .val (.int fl), .val (.ref b197_), .val (.ref b201_), .val (.ref ct), .val (.ref oo)] [(.int (1 : Int32))])
            have C246_ := C230_.trans Cq229_
            have H246_ := C246_.1
            have C247_ := C246_.trans (CHr.keep K241_ sf0 H246_)
            have H247_ := C247_.1
            exact own_retNH X245_ hx (t := .boolean) Bd.returns Bd.notSynchronized (own_ew hw) hZ229_ hS229_ (Nat.le_trans hk229_ K241_.1) hh C247_ (by simp) (hb hby at_612) hh245_ rfl ⟨rfl, N245_⟩ (by decide) (by decide)
        · refine own_viaH (fun _ kq => XS.ifNo X218_.here hx rfl (hb hby at_537) rfl ((if0 _ _).trans (feq hs1).1) kq) ?_
          show own_FinH _ _ _ _ _ _ _ _ _ T218_ (mkF m 540 #[.val (.int p1), .val (.int p2), .val (.int p3), .val (.int p4), .val (.int p5), .val (.ref a196_), .val (.int nn), .val (.int po), .val (.int cc), .val (.int fl), .val (.ref b197_), .val (.ref b201_), .val .null, .unset] [])
          obtain ⟨T219_, X219_, e219_, st219_⟩ := getS2 X218_ hx hZ211_ hown211_ (host := "") (Or.inl (own_w hw 137 rfl)) Via.refl hh218_ (Sb.ext (((Ol.ext E201_).keep K204_ (allS g205_ all0)).ext E211_).2) (g := (mkF m 540 #[.val (.int p1), .val (.int p2), .val (.int p3), .val (.int p4), .val (.int p5), .val (.ref a196_), .val (.int nn), .val (.int po), .val (.int cc), .val (.int fl), .val (.ref b197_), .val (.ref b201_), .val .null, .unset] [])) rfl (hb hby at_540)
          refine own_viaH (fun _ kq => st219_ _ kq) ?_
          show own_FinH _ _ _ _ _ _ _ _ _ T219_ (mkF m 543 #[.val (.int p1), .val (.int p2), .val (.int p3), .val (.int p4), .val (.int p5), .val (.ref a196_), .val (.int nn), .val (.int po), .val (.int cc), .val (.int fl), .val (.ref b197_), .val (.ref b201_), .val .null, .unset] [(.ref bt)])
          refine own_viaH (fun _ kq => XS.astore X219_.here hx rfl (hb hby at_543) rfl rfl (l' := #[.val (.int p1), .val (.int p2), .val (.int p3), .val (.int p4), .val (.int p5), .val (.ref a196_), .val (.int nn), .val (.int po), .val (.int cc), .val (.int fl), .val (.ref b197_), .val (.ref b201_), .val (.ref bt), .unset]) rfl kq) ?_
          refine own_viaH (fun _ kq => XS.goto X219_.here hx rfl (pc0 := 545) (pc' := 563) rfl (hb hby at_545) (by decide) (by decide) kq) ?_
          refine own_viaH (fun _ kq => XS.aload X219_.here hx rfl (hb hby at_563) rfl rfl kq) ?_
          show own_FinH _ _ _ _ _ _ _ _ _ T219_ (mkF m 565 #[.val (.int p1), .val (.int p2), .val (.int p3), .val (.int p4), .val (.int p5), .val (.ref a196_), .val (.int nn), .val (.int po), .val (.int cc), .val (.int fl), .val (.ref b197_), .val (.ref b201_), .val (.ref bt), .unset] [(.ref b201_)])
          have q220_ : sb ≠ b201_ := Nat.ne_of_lt (Nat.lt_of_lt_of_le (Esb.ext Ol.2).lt (Nat.le_of_eq g201_.symm))
          have q221_ : sc ≠ b201_ := Nat.ne_of_lt (Nat.lt_of_lt_of_le (Esc.ext Ol.2).lt (Nat.le_of_eq g201_.symm))
          obtain ⟨_, _, ⟨T222_, L222_, k222_, n222_⟩, -, X222_, ⟨Lc222_, hQ222_, l222_, y222_, z222_⟩, st222_⟩ := Jvm.LawKit.callS X219_ hx (y := (⟨"com/example/lichen/lichen/webhook/EventType", "of", "(Ljava/lang/String;)Ljava/util/Optional;"⟩ : MethodName)) hown211_ (mvT hZ211_ (own_w hw 81 rfl)) (mvT hZ211_ (own_w hw 82 rfl)) (mvT hZ211_ (own_w hw 83 rfl)) (mvT hZ211_ (own_w hw 84 rfl)) (by decide) (backOf (W := 0) (own_rm_ofB l Z a0 hw [] b201_ cz ti kti (0 : Int32) (0 : Int32) [] ([] : List Int32) va kv bt ct sb tb ktb sc tc ktc em h211_ n0 (Nat.le_trans Zl (Nat.le_trans (Nat.le_trans E201_.1 K204_.1) E211_.1)) (((Ol.ext E201_).keep K204_ (allS g205_ all0)).ext E211_) S1 P5 Sv Se (r207_.ext E211_) (r208_.ext E211_) (r209_.ext E211_) (r210_.ext E211_) own_cod_nil (by simp) own_chs_nil Eva Vva Ebt Fbt Esb Fcsb Fvsb Vtb Ect Fct Esc Fcsc Fvsc Vtc Eem Fem q220_ q221_ (hre1.resolve_right fun q => hs1 q.1).2) hZ211_ (own_w hw 84 rfl) (own_w hw 83 rfl) (by decide) (by decide)) (g := (mkF m 565 #[.val (.int p1), .val (.int p2), .val (.int p3), .val (.int p4), .val (.int p5), .val (.ref a196_), .val (.int nn), .val (.int po), .val (.int cc), .val (.int fl), .val (.ref b197_), .val (.ref b201_), .val (.ref bt), .unset] [(.ref b201_)])) rfl (by rw [hml]; rfl) (argsL := [(.ref b201_)]) (rest := []) (lenOf own_pd22 rfl) rfl (by show 2 * 0 + _ ≤ _; exact Nat.le_of_eq rfl) (hb hby at_565) (fun _ _ => ⟨rfl, e219_, (by decide : (0 + 2 + 1) + 1 + 4 + 2 + 0 + 2 ≤ _), (by decide : (0 + (72 + 4) + 19) + 4 + 8 + (48 + 4) + 0 + 3 ≤ _)⟩)
          dsimp only [Pt.U, Pt.locs, Pt.cells, Pt.slots] at X222_ l222_ y222_ z222_ st222_ hQ222_
          subst l222_ y222_ z222_
          obtain ⟨oo, rfl, Nq222_, K222_, r223_, r224_⟩ := hQ222_
          have N222_ := Fr.app N218_ Nq222_
          refine own_viaH (fun _ kq => st222_ _ kq) ?_
          show own_FinH _ _ _ _ _ _ _ _ _ T222_ (mkF m 568 #[.val (.int p1), .val (.int p2), .val (.int p3), .val (.int p4), .val (.int p5), .val (.ref a196_), .val (.int nn), .val (.int po), .val (.int cc), .val (.int fl), .val (.ref b197_), .val (.ref b201_), .val (.ref bt), .unset] [(.ref oo)])
          refine own_viaH (fun _ kq => XS.astore X222_.here hx rfl (hb hby at_568) rfl rfl (l' := #[.val (.int p1), .val (.int p2), .val (.int p3), .val (.int p4), .val (.int p5), .val (.ref a196_), .val (.int nn), .val (.int po), .val (.int cc), .val (.int fl), .val (.ref b197_), .val (.ref b201_), .val (.ref bt), .val (.ref oo)]) rfl kq) ?_
          refine own_viaH (fun _ kq => XS.aload X222_.here hx rfl (hb hby at_570) rfl rfl kq) ?_
          refine own_viaH (fun _ kq => XS.ifnonnullYes X222_.here hx rfl (pc0 := 572) (pc' := 589) rfl (hb hby at_572) rfl (by decide) (by decide) kq) ?_
          show own_FinH _ _ _ _ _ _ _ _ _ T222_ (mkF m 589 #[.val (.int p1), .val (.int p2), .val (.int p3), .val (.int p4), .val (.int p5), .val (.ref a196_), .val (.int nn), .val (.int po), .val (.int cc), .val (.int fl), .val (.ref b197_), .val (.ref b201_), .val (.ref bt), .val (.ref oo)] [])
          refine own_viaH (fun _ kq => XS.aload X222_.here hx rfl (hb hby at_589) rfl rfl kq) ?_
          show own_FinH _ _ _ _ _ _ _ _ _ T222_ (mkF m 591 #[.val (.int p1), .val (.int p2), .val (.int p3), .val (.int p4), .val (.int p5), .val (.ref a196_), .val (.int nn), .val (.int po), .val (.int cc), .val (.int fl), .val (.ref b197_), .val (.ref b201_), .val (.ref bt), .val (.ref oo)] [(.ref oo)])
          obtain ⟨cq225_, kq225_, q225_a, q225_b, q225_c⟩ := isOf hZ211_ rfl r223_
          obtain ⟨_, _, ⟨T225_, L225_, k225_, n225_⟩, -, X225_, ⟨Lc225_, hQ225_, l225_, y225_, z225_⟩, st225_⟩ := X222_.virtualBack hx (y := (⟨"java/util/Optional", "isPresent", "()Z"⟩ : MethodName)) (z := (⟨"java/util/Optional", "isPresent", "()Z"⟩ : MethodName)) hown211_ (mvT hZ211_ (own_w hw 110 rfl)) (mvT hZ211_ (own_w hw 111 rfl)) (notFace_of_selects (args := #[]) (mvT hZ211_ (own_w hw 113 rfl))) (mvT hZ211_ (own_w hw 113 rfl)) (mvT hZ211_ (own_w hw 112 rfl)) (by decide) (backOf (W := 0) (own_rm_isP1 l Z a0 hw [] oo bt T222_.heap n0 (Nat.le_trans Zl (Nat.le_trans (Nat.le_trans (Nat.le_trans E201_.1 K204_.1) E211_.1) K222_.1)) r224_) hZ211_ (own_w hw 114 rfl) (own_w hw 107 rfl) (by decide) (by decide)) q225_a q225_c (g := (mkF m 591 #[.val (.int p1), .val (.int p2), .val (.int p3), .val (.int p4), .val (.int p5), .val (.ref a196_), .val (.int nn), .val (.int po), .val (.int cc), .val (.int fl), .val (.ref b197_), .val (.ref b201_), .val (.ref bt), .val (.ref oo)] [(.ref oo)])) rfl (by rw [hml]; rfl) (Steps.refl _) (argsL := []) (rest := []) (lenOf own_pd11 rfl) rfl (by show 2 * 0 + _ ≤ _; exact Nat.le_of_eq rfl) (hb hby at_591) (fun _ _ => ⟨rfl, rfl, (by decide : (0 + 2 + 1) + 1 + 4 + 2 + 0 + 2 + 0 ≤ _), (by decide : (0 + (72 + 4) + 19) + 4 + 8 + (48 + 4) + 0 + 3 + 0 ≤ _)⟩)
          dsimp only [Pt.U, Pt.locs, Pt.cells, Pt.slots] at X225_ l225_ y225_ z225_ st225_ hQ225_
          subst l225_ y225_ z225_
          obtain ⟨rfl, Nq225_, hh225_⟩ := hQ225_
          have N225_ := Fr.app N222_ Nq225_
          refine own_viaH (fun _ kq => st225_.trans kq) ?_
          show own_FinH _ _ _ _ _ _ _ _ _ T225_ (mkF m 594 #[.val (.int p1), .val (.int p2), .val (.int p3), .val (.int p4), .val (.int p5), .val (.ref a196_), .val (.int nn), .val (.int po), .val (.int cc), .val (.int fl), .val (.ref b197_), .val (.ref b201_), .val (.ref bt), .val (.ref oo)] [(.int (1 : Int32))])
          refine own_viaH (fun _ kq => XS.ifNo X225_.here hx rfl (hb hby at_594) rfl ((if0 _ _).trans (feq (by decide)).1) kq) ?_
          show own_FinH _ _ _ _ _ _ _ _ _ T225_ (mkF m 597 #[.val (.int p1), .val (.int p2), .val (.int p3), .val (.int p4), .val (.int p5), .val (.ref a196_), .val (.int nn), .val (.int po), .val (.int cc), .val (.int fl), .val (.ref b197_), .val (.ref b201_), .val (.ref bt), .val (.ref oo)] [])
          refine own_viaH (fun _ kq => XS.aload X225_.here hx rfl (hb hby at_597) rfl rfl kq) ?_
          show own_FinH _ _ _ _ _ _ _ _ _ T225_ (mkF m 599 #[.val (.int p1), .val (.int p2), .val (.int p3), .val (.int p4), .val (.int p5), .val (.ref a196_), .val (.int nn), .val (.int po), .val (.int cc), .val (.int fl), .val (.ref b197_), .val (.ref b201_), .val (.ref bt), .val (.ref oo)] [(.ref oo)])
          obtain ⟨cq226_, kq226_, q226_a, q226_b, q226_c⟩ := isOf hZ211_ hh225_ r223_
          obtain ⟨_, _, ⟨T226_, L226_, k226_, n226_⟩, -, X226_, ⟨Lc226_, hQ226_, l226_, y226_, z226_⟩, st226_⟩ := X225_.virtualBack hx (y := (⟨"java/util/Optional", "get", "()Ljava/lang/Object;"⟩ : MethodName)) (z := (⟨"java/util/Optional", "get", "()Ljava/lang/Object;"⟩ : MethodName)) hown211_ (mvT hZ211_ (own_w hw 152 rfl)) (mvT hZ211_ (own_w hw 153 rfl)) (notFace_of_selects (args := #[]) (mvT hZ211_ (own_w hw 155 rfl))) (mvT hZ211_ (own_w hw 155 rfl)) (mvT hZ211_ (own_w hw 154 rfl)) (by decide) (backOf (W := 0) (own_rm_optG l Z a0 hw [] oo bt T222_.heap n0 (Nat.le_trans Zl (Nat.le_trans (Nat.le_trans (Nat.le_trans E201_.1 K204_.1) E211_.1) K222_.1)) r224_) hZ211_ (own_w hw 156 rfl) (own_w hw 107 rfl) (by decide) (by decide)) q226_a q226_c (g := (mkF m 599 #[.val (.int p1), .val (.int p2), .val (.int p3), .val (.int p4), .val (.int p5), .val (.ref a196_), .val (.int nn), .val (.int po), .val (.int cc), .val (.int fl), .val (.ref b197_), .val (.ref b201_), .val (.ref bt), .val (.ref oo)] [(.ref oo)])) rfl (by rw [hml]; rfl) (Steps.refl _) (argsL := []) (rest := []) (lenOf own_pd23 rfl) rfl (by show 2 * 0 + _ ≤ _; exact Nat.le_of_eq rfl) (hb hby at_599) (fun _ _ => ⟨rfl, hh225_, (by decide : (0 + 2 + 1) + 1 + 4 + 2 + 0 + 2 + 0 + 0 ≤ _), (by decide : (0 + (72 + 4) + 19) + 4 + 8 + (48 + 4) + 0 + 3 + 0 + 0 ≤ _)⟩)
          dsimp only [Pt.U, Pt.locs, Pt.cells, Pt.slots] at X226_ l226_ y226_ z226_ st226_ hQ226_
          subst l226_ y226_ z226_
          obtain ⟨rfl, Nq226_, hh226_⟩ := hQ226_
          have N226_ := Fr.app N225_ Nq226_
          refine own_viaH (fun _ kq => st226_.trans kq) ?_
          show own_FinH _ _ _ _ _ _ _ _ _ T226_ (mkF m 602 #[.val (.int p1), .val (.int p2), .val (.int p3), .val (.int p4), .val (.int p5), .val (.ref a196_), .val (.int nn), .val (.int po), .val (.int cc), .val (.int fl), .val (.ref b197_), .val (.ref b201_), .val (.ref bt), .val (.ref oo)] [(.ref bt)])
          refine own_viaH (fun _ kq => XS.aload X226_.here hx rfl (hb hby at_602) rfl rfl kq) ?_
          show own_FinH _ _ _ _ _ _ _ _ _ T226_ (mkF m 604 #[.val (.int p1), .val (.int p2), .val (.int p3), .val (.int p4), .val (.int p5), .val (.ref a196_), .val (.int nn), .val (.int po), .val (.int cc), .val (.int fl), .val (.ref b197_), .val (.ref b201_), .val (.ref bt), .val (.ref oo)] [(.ref bt), (.ref bt)])
          refine own_viaH (fun _ kq => Jvm.RoadKit.acmp (g := (mkF m 604 #[.val (.int p1), .val (.int p2), .val (.int p3), .val (.int p4), .val (.int p5), .val (.ref a196_), .val (.int nn), .val (.int po), .val (.int cc), .val (.int fl), .val (.ref b197_), .val (.ref b201_), .val (.ref bt), .val (.ref oo)] [(.ref bt), (.ref bt)])) X226_ hx rfl rfl rfl (pc0 := 604) (pc' := 607) (same := true) rfl (hb hby at_604) rfl (decide_eq_true rfl) (by decide) (by decide) kq) ?_
          show own_FinH _ _ _ _ _ _ _ _ _ T226_ (mkF m 607 #[.val (.int p1), .val (.int p2), .val (.int p3), .val (.int p4), .val (.int p5), .val (.ref a196_), .val (.int nn), .val (.int po), .val (.int cc), .val (.int fl), .val (.ref b197_), .val (.ref b201_), .val (.ref bt), .val (.ref oo)] [])
          refine own_viaH (fun _ kq => XS.iconst X226_.here hx rfl (hb hby at_607) kq) ?_
          refine own_viaH (fun _ kq => XS.goto X226_.here hx rfl (pc0 := 608) (pc' := 612) rfl (hb hby at_608) (by decide) (by decide) kq) ?_
          show own_FinH _ _ _ _ _ _ _ _ _ T226_ (mkF m 612 #[.val (.int p1), .val (.int p2), .val (.int p3), .val (.int p4), .val (.int p5), .val (.ref a196_), .val (.int nn), .val (.int po), .val (.int cc), .val (.int fl), .val (.ref b197_), .val (.ref b201_), .val (.ref bt), .val (.ref oo)] [(.int (1 : Int32))])
          have C227_ := C212_.trans Cq211_
          have H227_ := C227_.1
          have C228_ := C227_.trans (CHr.keep K222_ sf0 H227_)
          have H228_ := C228_.1
          exact own_retNH X226_ hx (t := .boolean) Bd.returns Bd.notSynchronized (own_ew hw) hZ211_ hS211_ (Nat.le_trans hk211_ K222_.1) hh C228_ (by simp) (hb hby at_612) hh226_ rfl ⟨rfl, N226_⟩ (by decide) (by decide)
      · obtain ⟨T256_, h256_, X256_, e256_, E256_, A256_, D256_, -, st256_⟩ := newO Xl hx hZ196_ hown196_ (own_w hw 50 rfl) (own_w hw 2 rfl) (own_w hw 1 rfl) el (g := (mkF m 516 #[.val (.int p1), .val (.int p2), .val (.int p3), .val (.int p4), .val (.int p5), .val (.ref a196_), .val (.int nn), .val (.int po), .val (.int cc), .val (.int fl), .val (.ref b197_), .unset, .unset, .unset] [])) rfl (hb hby at_516) (by decide) (by decide)
        obtain ⟨b256_, g256_⟩ : ∃ z, z = hl.size := ⟨_, rfl⟩
        rw [← g256_] at A256_ D256_ st256_
        have F257_ : Fld Z h256_ b256_ "java/lang/String" "value" "[B" .null := D256_ (Or.inr (own_w hw 4 rfl)) (ty := (.array .byte)) (by decide)
        have F258_ : Fld Z h256_ b256_ "java/lang/String" "coder" "B" (.int (0 : Int32)) := D256_ (Or.inr (own_w hw 5 rfl)) (ty := .byte) (by decide)
        refine own_viaH (fun _ kq => st256_ _ kq) ?_
        show own_FinH _ _ _ _ _ _ _ _ _ T256_ (mkF m 519 #[.val (.int p1), .val (.int p2), .val (.int p3), .val (.int p4), .val (.int p5), .val (.ref a196_), .val (.int nn), .val (.int po), .val (.int cc), .val (.int fl), .val (.ref b197_), .unset, .unset, .unset] [(.ref b256_)])
        refine own_viaH (fun _ kq => XS.dup X256_.here hx rfl (hb hby at_519) rfl rfl kq) ?_
        refine own_viaH (fun _ kq => XS.aload X256_.here hx rfl (hb hby at_520) rfl rfl kq) ?_
        show own_FinH _ _ _ _ _ _ _ _ _ T256_ (mkF m 522 #[.val (.int p1), .val (.int p2), .val (.int p3), .val (.int p4), .val (.int p5), .val (.ref a196_), .val (.int nn), .val (.int po), .val (.int cc), .val (.int fl), .val (.ref b197_), .unset, .unset, .unset] [(.ref b197_), (.ref b256_), (.ref b256_)])
        have g260_ : n0 ≤ b256_ := Nat.le_trans Zl (Nat.le_of_eq g256_.symm)
        obtain ⟨_, _, ⟨T259_, L259_, k259_, n259_⟩, -, X259_, ⟨Lc259_, hQ259_, l259_, y259_, z259_⟩, st259_⟩ := X256_.specialBack hx (y := (⟨"java/lang/String", "<init>", "([C)V"⟩ : MethodName)) rfl hown196_ (mvT hZ196_ (own_w hw 51 rfl)) (mvT hZ196_ (own_w hw 52 rfl)) (mvT hZ196_ (own_w hw 53 rfl)) (by decide) (backOf (W := 1) (own_rm_sInitC l Z a0 hw [] b256_ cz .null (.int (0 : Int32)) b197_ k197_ nn xs h256_ n0 (Nat.le_trans Zl E256_.1) (Ol.ext E256_) S1 P5 S3 S4 S5 A256_ F257_ F258_ g260_ (Vl.ext E256_) (by rw [hxl]; exact hN) (by rw [hxl]; exact hn19) (by rw [hxl]; exact hp) hxs) hZ196_ (own_w hw 53 rfl) (own_w hw 1 rfl) (by decide) (by decide)) (g := (mkF m 522 #[.val (.int p1), .val (.int p2), .val (.int p3), .val (.int p4), .val (.int p5), .val (.ref a196_), .val (.int nn), .val (.int po), .val (.int cc), .val (.int fl), .val (.ref b197_), .unset, .unset, .unset] [(.ref b197_), (.ref b256_), (.ref b256_)])) rfl (by rw [hml]; rfl) (Steps.refl _) (a := b256_) (argsL := [(.ref b197_)]) (rest := [(.ref b256_)]) (lenOf own_pd21 rfl) rfl (by show 2 * 0 + _ ≤ _; exact Nat.le_of_eq rfl) (hb hby at_522) (fun _ _ => ⟨rfl, e256_, (by decide : (0 + 2 + 1) + 1 + 2 ≤ _), (by decide : (0 + (72 + 4) + 19) + 4 + 57 ≤ _)⟩)
        dsimp only [Pt.U, Pt.locs, Pt.cells, Pt.slots] at X259_ l259_ y259_ z259_ st259_ hQ259_
        subst l259_ y259_ z259_
        obtain ⟨ti, kti, cdi, Ni, vsi, rfl, Nq259_, K259_, r261_, r262_, r263_, r264_, r265_, hci⟩ := hQ259_
        have N259_ := Fr.app Nl Nq259_
        refine own_viaH (fun _ kq => st259_.trans kq) ?_
        show own_FinH _ _ _ _ _ _ _ _ _ T259_ (mkF m 525 #[.val (.int p1), .val (.int p2), .val (.int p3), .val (.int p4), .val (.int p5), .val (.ref a196_), .val (.int nn), .val (.int po), .val (.int cc), .val (.int fl), .val (.ref b197_), .unset, .unset, .unset] [(.ref b256_)])
        refine own_viaH (fun _ kq => XS.astore X259_.here hx rfl (hb hby at_525) rfl rfl (l' := #[.val (.int p1), .val (.int p2), .val (.int p3), .val (.int p4), .val (.int p5), .val (.ref a196_), .val (.int nn), .val (.int po), .val (.int cc), .val (.int fl), .val (.ref b197_), .val (.ref b256_), .unset, .unset]) rfl kq) ?_
        refine own_viaH (fun _ kq => XS.aconstNull X259_.here hx rfl (hb hby at_527) kq) ?_
        refine own_viaH (fun _ kq => XS.astore X259_.here hx rfl (hb hby at_528) rfl rfl (l' := #[.val (.int p1), .val (.int p2), .val (.int p3), .val (.int p4), .val (.int p5), .val (.ref a196_), .val (.int nn), .val (.int po), .val (.int cc), .val (.int fl), .val (.ref b197_), .val (.ref b256_), .val .null, .unset]) rfl kq) ?_
        refine own_viaH (fun _ kq => XS.aload X259_.here hx rfl (hb hby at_530) rfl rfl kq) ?_
        show own_FinH _ _ _ _ _ _ _ _ _ T259_ (mkF m 532 #[.val (.int p1), .val (.int p2), .val (.int p3), .val (.int p4), .val (.int p5), .val (.ref a196_), .val (.int nn), .val (.int po), .val (.int cc), .val (.int fl), .val (.ref b197_), .val (.ref b256_), .val .null, .unset] [(.ref b256_)])
        have C267_ := Cl.trans (CHr.ext E256_ Cl.1)
        have H267_ := C267_.1
        have sf269_ : Safe Z own_EL T196_.vm hl b256_ := Safe.new (Nat.le_of_eq g256_.symm)
        have sf270_ : Safe Z own_EL T196_.vm h256_ b256_ := Safe.ext E256_ Cl.1 sf269_
        have C268_ := C267_.trans (CHr.keep K259_ (sfS sf270_ sf0) H267_)
        have H268_ := C268_.1
        obtain ⟨a266_, T266_, h266_, k266_, b266_, kb266_, X266_, e266_, E266_, hS266_, hk266_, hZ266_, hown266_, rE266_, rC266_, rV266_, rA266_, -, -, Cq266_, -, Sx266_, st266_⟩ := ldcCH X259_ hx hZ196_ hown196_ (own_w hw 0 rfl) (own_atoms hw) rfl hS196_ (Nat.le_trans (Nat.le_trans (Nat.le_trans hk196_ E197_.1) hkl) (Nat.le_trans E256_.1 K259_.1)) (own_ew hw) (List.mem_of_getElem? (i := 0) rfl) H268_ (vs := [(.int (98 : Int32)), (.int (97 : Int32)), (.int (116 : Int32)), (.int (99 : Int32)), (.int (104 : Int32)), (.int (46 : Int32)), (.int (115 : Int32)), (.int (105 : Int32)), (.int (103 : Int32)), (.int (110 : Int32)), (.int (101 : Int32)), (.int (100 : Int32))]) (z := (12 : Int32)) ⟨by decide, by decide⟩ (by decide) (by decide) (g := (mkF m 532 #[.val (.int p1), .val (.int p2), .val (.int p3), .val (.int p4), .val (.int p5), .val (.ref a196_), .val (.int nn), .val (.int po), .val (.int cc), .val (.int fl), .val (.ref b197_), .val (.ref b256_), .val .null, .unset] [(.ref b256_)])) rfl (hb hby at_532) (n := 48) (by decide) (by decide) (by decide) (by decide)
        refine own_viaH (fun _ kq => st266_ _ kq) ?_
        show own_FinH _ _ _ _ _ _ _ _ _ T266_ (mkF m 534 #[.val (.int p1), .val (.int p2), .val (.int p3), .val (.int p4), .val (.int p5), .val (.ref a196_), .val (.int nn), .val (.int po), .val (.int cc), .val (.int fl), .val (.ref b197_), .val (.ref b256_), .val .null, .unset] [(.ref a266_), (.ref b256_)])
        have sf272_ : Safe Z own_EL T196_.vm h256_ b256_ := Safe.ext E256_ Cl.1 sf269_
        have sf273_ : Safe Z own_EL T196_.vm T259_.heap b256_ := Safe.keep K259_ (sfS sf272_ sf0) H267_ sf272_
        have sf274_ : Safe Z own_EL T266_.vm h266_ b256_ := Cq266_.safe (r261_).lt sf273_
        have q271_ : b256_ ≠ a266_ := (Sx266_ _ sf274_).1
        obtain ⟨cq275_, kq275_, q275_a, q275_b, q275_c⟩ := isOf hZ266_ e266_ (r261_.ext E266_)
        obtain ⟨_, _, ⟨T275_, L275_, k275_, n275_⟩, -, X275_, ⟨Lc275_, hQ275_, l275_, y275_, z275_⟩, st275_⟩ := X266_.virtualBack hx (y := (⟨"java/lang/String", "equals", "(Ljava/lang/Object;)Z"⟩ : MethodName)) (z := (⟨"java/lang/String", "equals", "(Ljava/lang/Object;)Z"⟩ : MethodName)) hown266_ (mvT hZ266_ (own_w hw 71 rfl)) (mvT hZ266_ (own_w hw 72 rfl)) (notFace_of_selects (args := #[]) (mvT hZ266_ (own_w hw 74 rfl))) (mvT hZ266_ (own_w hw 74 rfl)) (mvT hZ266_ (own_w hw 73 rfl)) (by decide) (backOf (W := 0) (own_rm_eqS l Z a0 hw [] b256_ cz ti kti cdi Ni vsi xs a266_ b266_ kb266_ (0 : Int32) (12 : Int32) [(.int (98 : Int32)), (.int (97 : Int32)), (.int (116 : Int32)), (.int (99 : Int32)), (.int (104 : Int32)), (.int (46 : Int32)), (.int (115 : Int32)), (.int (105 : Int32)), (.int (103 : Int32)), (.int (110 : Int32)), (.int (101 : Int32)), (.int (100 : Int32))] own_t1 h266_ n0 (Nat.le_trans Zl (Nat.le_trans (Nat.le_trans E256_.1 K259_.1) E266_.1)) (((Ol.ext E256_).keep K259_ (allS g260_ all0)).ext E266_) S1 P5 (r261_.ext E266_) (r262_.ext E266_) (r263_.ext E266_) (r265_.ext E266_) hci (by rw [hxl]; exact hn4) hxs rE266_ rC266_ rV266_ rA266_ own_lit1 (by decide) own_litr1 q271_) hZ266_ (own_w hw 75 rfl) (own_w hw 1 rfl) (by decide) (by decide)) q275_a q275_c (g := (mkF m 534 #[.val (.int p1), .val (.int p2), .val (.int p3), .val (.int p4), .val (.int p5), .val (.ref a196_), .val (.int nn), .val (.int po), .val (.int cc), .val (.int fl), .val (.ref b197_), .val (.ref b256_), .val .null, .unset] [(.ref a266_), (.ref b256_)])) rfl (by rw [hml]; rfl) (Steps.refl _) (argsL := [(.ref a266_)]) (rest := []) (lenOf own_pd18 rfl) rfl (by show 2 * 0 + _ ≤ _; exact Nat.le_of_eq rfl) (hb hby at_534) (fun _ _ => ⟨rfl, e266_, (by decide : (0 + 2 + 1) + 1 + 2 + 2 + 0 ≤ _), (by decide : (0 + (72 + 4) + 19) + 4 + 57 + (48 + 4) + 0 ≤ _)⟩)
        dsimp only [Pt.U, Pt.locs, Pt.cells, Pt.slots] at X275_ l275_ y275_ z275_ st275_ hQ275_
        subst l275_ y275_ z275_
        obtain ⟨re1, rfl, Nq275_, hh275_, hre1⟩ := hQ275_
        have N275_ := Fr.app N259_ Nq275_
        refine own_viaH (fun _ kq => st275_.trans kq) ?_
        show own_FinH _ _ _ _ _ _ _ _ _ T275_ (mkF m 537 #[.val (.int p1), .val (.int p2), .val (.int p3), .val (.int p4), .val (.int p5), .val (.ref a196_), .val (.int nn), .val (.int po), .val (.int cc), .val (.int fl), .val (.ref b197_), .val (.ref b256_), .val .null, .unset] [(.int re1)])
        rcases Classical.em (re1 = (0 : Int32)) with hs1 | hs1
        · refine own_viaH (fun _ kq => XS.ifYes X275_.here hx rfl (pc0 := 537) (pc' := 548) rfl (hb hby at_537) rfl ((if0 _ _).trans (teq hs1).1) (by decide) (by decide) kq) ?_
          show own_FinH _ _ _ _ _ _ _ _ _ T275_ (mkF m 548 #[.val (.int p1), .val (.int p2), .val (.int p3), .val (.int p4), .val (.int p5), .val (.ref a196_), .val (.int nn), .val (.int po), .val (.int cc), .val (.int fl), .val (.ref b197_), .val (.ref b256_), .val .null, .unset] [])
          refine own_viaH (fun _ kq => XS.aload X275_.here hx rfl (hb hby at_548) rfl rfl kq) ?_
          show own_FinH _ _ _ _ _ _ _ _ _ T275_ (mkF m 550 #[.val (.int p1), .val (.int p2), .val (.int p3), .val (.int p4), .val (.int p5), .val (.ref a196_), .val (.int nn), .val (.int po), .val (.int cc), .val (.int fl), .val (.ref b197_), .val (.ref b256_), .val .null, .unset] [(.ref b256_)])
          have C287_ := C268_.trans Cq266_
          have H287_ := C287_.1
          obtain ⟨a286_, T286_, h286_, k286_, b286_, kb286_, X286_, e286_, E286_, hS286_, hk286_, hZ286_, hown286_, rE286_, rC286_, rV286_, rA286_, -, -, Cq286_, -, Sx286_, st286_⟩ := ldcCH X275_ hx hZ266_ hown266_ (own_w hw 80 rfl) (own_atoms hw) hh275_ hS266_ hk266_ (own_ew hw) (List.mem_of_getElem? (i := 1) rfl) H287_ (vs := [(.int (99 : Int32)), (.int (114 : Int32)), (.int (101 : Int32)), (.int (100 : Int32)), (.int (101 : Int32)), (.int (110 : Int32)), (.int (116 : Int32)), (.int (105 : Int32)), (.int (97 : Int32)), (.int (108 : Int32)), (.int (46 : Int32)), (.int (114 : Int32)), (.int (101 : Int32)), (.int (118 : Int32)), (.int (111 : Int32)), (.int (107 : Int32)), (.int (101 : Int32)), (.int (100 : Int32))]) (z := (18 : Int32)) ⟨by decide, by decide⟩ (by decide) (by decide) (g := (mkF m 550 #[.val (.int p1), .val (.int p2), .val (.int p3), .val (.int p4), .val (.int p5), .val (.ref a196_), .val (.int nn), .val (.int po), .val (.int cc), .val (.int fl), .val (.ref b197_), .val (.ref b256_), .val .null, .unset] [(.ref b256_)])) rfl (hb hby at_550) (n := 72) (by decide) (by decide) (by decide) (by decide)
          refine own_viaH (fun _ kq => st286_ _ kq) ?_
          show own_FinH _ _ _ _ _ _ _ _ _ T286_ (mkF m 552 #[.val (.int p1), .val (.int p2), .val (.int p3), .val (.int p4), .val (.int p5), .val (.ref a196_), .val (.int nn), .val (.int po), .val (.int cc), .val (.int fl), .val (.ref b197_), .val (.ref b256_), .val .null, .unset] [(.ref a286_), (.ref b256_)])
          have sf289_ : Safe Z own_EL T196_.vm h256_ b256_ := Safe.ext E256_ Cl.1 sf269_
          have sf290_ : Safe Z own_EL T196_.vm T259_.heap b256_ := Safe.keep K259_ (sfS sf289_ sf0) H267_ sf289_
          have sf291_ : Safe Z own_EL T266_.vm h266_ b256_ := Cq266_.safe (r261_).lt sf290_
          have sf292_ : Safe Z own_EL T286_.vm h286_ b256_ := Cq286_.safe ((r261_.ext E266_)).lt sf291_
          have q288_ : b256_ ≠ a286_ := (Sx286_ _ sf292_).1
          have f294_ := ((((Ol.ext E256_).keep K259_ (allS g260_ all0)).ext E266_).ext E286_)
          obtain ⟨cq293_, kq293_, q293_a, q293_b, q293_c⟩ := isOf hZ286_ e286_ ((r261_.ext E266_).ext E286_)
          obtain ⟨_, _, ⟨T293_, L293_, k293_, n293_⟩, -, X293_, ⟨Lc293_, hQ293_, l293_, y293_, z293_⟩, st293_⟩ := X286_.virtualBack hx (y := (⟨"java/lang/String", "equals", "(Ljava/lang/Object;)Z"⟩ : MethodName)) (z := (⟨"java/lang/String", "equals", "(Ljava/lang/Object;)Z"⟩ : MethodName)) hown286_ (mvT hZ286_ (own_w hw 71 rfl)) (mvT hZ286_ (own_w hw 72 rfl)) (notFace_of_selects (args := #[]) (mvT hZ286_ (own_w hw 74 rfl))) (mvT hZ286_ (own_w hw 74 rfl)) (mvT hZ286_ (own_w hw 73 rfl)) (by decide) (backOf (W := 0) (own_rm_eqS l Z a0 hw [] b256_ cz ti kti cdi Ni vsi xs a286_ b286_ kb286_ (0 : Int32) (18 : Int32) [(.int (99 : Int32)), (.int (114 : Int32)), (.int (101 : Int32)), (.int (100 : Int32)), (.int (101 : Int32)), (.int (110 : Int32)), (.int (116 : Int32)), (.int (105 : Int32)), (.int (97 : Int32)), (.int (108 : Int32)), (.int (46 : Int32)), (.int (114 : Int32)), (.int (101 : Int32)), (.int (118 : Int32)), (.int (111 : Int32)), (.int (107 : Int32)), (.int (101 : Int32)), (.int (100 : Int32))] own_t2 h286_ n0 (Nat.le_trans Zl (Nat.le_trans (Nat.le_trans (Nat.le_trans E256_.1 K259_.1) E266_.1) E286_.1)) f294_ S1 P5 ((r261_.ext E266_).ext E286_) ((r262_.ext E266_).ext E286_) ((r263_.ext E266_).ext E286_) ((r265_.ext E266_).ext E286_) hci (by rw [hxl]; exact hn4) hxs rE286_ rC286_ rV286_ rA286_ own_lit2 (by decide) own_litr2 q288_) hZ286_ (own_w hw 75 rfl) (own_w hw 1 rfl) (by decide) (by decide)) q293_a q293_c (g := (mkF m 552 #[.val (.int p1), .val (.int p2), .val (.int p3), .val (.int p4), .val (.int p5), .val (.ref a196_), .val (.int nn), .val (.int po), .val (.int cc), .val (.int fl), .val (.ref b197_), .val (.ref b256_), .val .null, .unset] [(.ref a286_), (.ref b256_)])) rfl (by rw [hml]; rfl) (Steps.refl _) (argsL := [(.ref a286_)]) (rest := []) (lenOf own_pd18 rfl) rfl (by show 2 * 0 + _ ≤ _; exact Nat.le_of_eq rfl) (hb hby at_552) (fun _ _ => ⟨rfl, e286_, (by decide : (0 + 2 + 1) + 1 + 2 + 2 + 0 + 2 + 0 ≤ _), (by decide : (0 + (72 + 4) + 19) + 4 + 57 + (48 + 4) + 0 + (72 + 4) + 0 ≤ _)⟩)
          dsimp only [Pt.U, Pt.locs, Pt.cells, Pt.slots] at X293_ l293_ y293_ z293_ st293_ hQ293_
          subst l293_ y293_ z293_
          obtain ⟨re2, rfl, Nq293_, hh293_, hre2⟩ := hQ293_
          have N293_ := Fr.app N275_ Nq293_
          refine own_viaH (fun _ kq => st293_.trans kq) ?_
          show own_FinH _ _ _ _ _ _ _ _ _ T293_ (mkF m 555 #[.val (.int p1), .val (.int p2), .val (.int p3), .val (.int p4), .val (.int p5), .val (.ref a196_), .val (.int nn), .val (.int po), .val (.int cc), .val (.int fl), .val (.ref b197_), .val (.ref b256_), .val .null, .unset] [(.int re2)])
          rcases Classical.em (re2 = (0 : Int32)) with hs2 | hs2
          · refine own_viaH (fun _ kq => XS.ifYes X293_.here hx rfl (pc0 := 555) (pc' := 563) rfl (hb hby at_555) rfl ((if0 _ _).trans (teq hs2).1) (by decide) (by decide) kq) ?_
            show own_FinH _ _ _ _ _ _ _ _ _ T293_ (mkF m 563 #[.val (.int p1), .val (.int p2), .val (.int p3), .val (.int p4), .val (.int p5), .val (.ref a196_), .val (.int nn), .val (.int po), .val (.int cc), .val (.int fl), .val (.ref b197_), .val (.ref b256_), .val .null, .unset] [])
            refine own_viaH (fun _ kq => XS.aload X293_.here hx rfl (hb hby at_563) rfl rfl kq) ?_
            show own_FinH _ _ _ _ _ _ _ _ _ T293_ (mkF m 565 #[.val (.int p1), .val (.int p2), .val (.int p3), .val (.int p4), .val (.int p5), .val (.ref a196_), .val (.int nn), .val (.int po), .val (.int cc), .val (.int fl), .val (.ref b197_), .val (.ref b256_), .val .null, .unset] [(.ref b256_)])
            have q305_ : sb ≠ b256_ := Nat.ne_of_lt (Nat.lt_of_lt_of_le (Esb.ext Ol.2).lt (Nat.le_of_eq g256_.symm))
            have q306_ : sc ≠ b256_ := Nat.ne_of_lt (Nat.lt_of_lt_of_le (Esc.ext Ol.2).lt (Nat.le_of_eq g256_.symm))
            obtain ⟨_, _, ⟨T307_, L307_, k307_, n307_⟩, -, X307_, ⟨Lc307_, hQ307_, l307_, y307_, z307_⟩, st307_⟩ := Jvm.LawKit.callS X293_ hx (y := (⟨"com/example/lichen/lichen/webhook/EventType", "of", "(Ljava/lang/String;)Ljava/util/Optional;"⟩ : MethodName)) hown286_ (mvT hZ286_ (own_w hw 81 rfl)) (mvT hZ286_ (own_w hw 82 rfl)) (mvT hZ286_ (own_w hw 83 rfl)) (mvT hZ286_ (own_w hw 84 rfl)) (by decide) (backOf (W := 0) (own_rm_ofN l Z a0 hw [] b256_ cz ti kti cdi Ni vsi xs va kv bt ct sb tb ktb sc tc ktc em h286_ n0 (Nat.le_trans Zl (Nat.le_trans (Nat.le_trans (Nat.le_trans E256_.1 K259_.1) E266_.1) E286_.1)) f294_ S1 P5 Sv Se ((r261_.ext E266_).ext E286_) ((r262_.ext E266_).ext E286_) ((r263_.ext E266_).ext E286_) ((r265_.ext E266_).ext E286_) hci (by rw [hxl]; exact hn4) hxs Eva Vva Ebt Fbt Esb Fcsb Fvsb Vtb Ect Fct Esc Fcsc Fvsc Vtc Eem Fem q305_ q306_ (hre1.resolve_left fun q => absurd (q.1.symm.trans hs1) (by decide)).2 (hre2.resolve_left fun q => absurd (q.1.symm.trans hs2) (by decide)).2) hZ286_ (own_w hw 84 rfl) (own_w hw 83 rfl) (by decide) (by decide)) (g := (mkF m 565 #[.val (.int p1), .val (.int p2), .val (.int p3), .val (.int p4), .val (.int p5), .val (.ref a196_), .val (.int nn), .val (.int po), .val (.int cc), .val (.int fl), .val (.ref b197_), .val (.ref b256_), .val .null, .unset] [(.ref b256_)])) rfl (by rw [hml]; rfl) (argsL := [(.ref b256_)]) (rest := []) (lenOf own_pd22 rfl) rfl (by show 2 * 0 + _ ≤ _; exact Nat.le_of_eq rfl) (hb hby at_565) (fun _ _ => ⟨rfl, hh293_, (by decide : (0 + 2 + 1) + 1 + 2 + 2 + 0 + 2 + 0 + 1 ≤ _), (by decide : (0 + (72 + 4) + 19) + 4 + 57 + (48 + 4) + 0 + (72 + 4) + 0 + 2 ≤ _)⟩)
            dsimp only [Pt.U, Pt.locs, Pt.cells, Pt.slots] at X307_ l307_ y307_ z307_ st307_ hQ307_
            subst l307_ y307_ z307_
            obtain ⟨oo, rfl, Nq307_, K307_, r308_, r309_⟩ := hQ307_
            have N307_ := Fr.app N293_ Nq307_
            refine own_viaH (fun _ kq => st307_ _ kq) ?_
            show own_FinH _ _ _ _ _ _ _ _ _ T307_ (mkF m 568 #[.val (.int p1), .val (.int p2), .val (.int p3), .val (.int p4), .val (.int p5), .val (.ref a196_), .val (.int nn), .val (.int po), .val (.int cc), .val (.int fl), .val (.ref b197_), .val (.ref b256_), .val .null, .unset] [(.ref oo)])
            refine own_viaH (fun _ kq => XS.astore X307_.here hx rfl (hb hby at_568) rfl rfl (l' := #[.val (.int p1), .val (.int p2), .val (.int p3), .val (.int p4), .val (.int p5), .val (.ref a196_), .val (.int nn), .val (.int po), .val (.int cc), .val (.int fl), .val (.ref b197_), .val (.ref b256_), .val .null, .val (.ref oo)]) rfl kq) ?_
            refine own_viaH (fun _ kq => XS.aload X307_.here hx rfl (hb hby at_570) rfl rfl kq) ?_
            refine own_viaH (fun _ kq => XS.ifnonnullNo X307_.here hx rfl (hb hby at_572) rfl kq) ?_
            show own_FinH _ _ _ _ _ _ _ _ _ T307_ (mkF m 575 #[.val (.int p1), .val (.int p2), .val (.int p3), .val (.int p4), .val (.int p5), .val (.ref a196_), .val (.int nn), .val (.int po), .val (.int cc), .val (.int fl), .val (.ref b197_), .val (.ref b256_), .val .null, .val (.ref oo)] [])
            refine own_viaH (fun _ kq => XS.aload X307_.here hx rfl (hb hby at_575) rfl rfl kq) ?_
            show own_FinH _ _ _ _ _ _ _ _ _ T307_ (mkF m 577 #[.val (.int p1), .val (.int p2), .val (.int p3), .val (.int p4), .val (.int p5), .val (.ref a196_), .val (.int nn), .val (.int po), .val (.int cc), .val (.int fl), .val (.ref b197_), .val (.ref b256_), .val .null, .val (.ref oo)] [(.ref oo)])
            obtain ⟨cq310_, kq310_, q310_a, q310_b, q310_c⟩ := isOf hZ286_ rfl r308_
            obtain ⟨_, _, ⟨T310_, L310_, k310_, n310_⟩, -, X310_, ⟨Lc310_, hQ310_, l310_, y310_, z310_⟩, st310_⟩ := X307_.virtualBack hx (y := (⟨"java/util/Optional", "isPresent", "()Z"⟩ : MethodName)) (z := (⟨"java/util/Optional", "isPresent", "()Z"⟩ : MethodName)) hown286_ (mvT hZ286_ (own_w hw 110 rfl)) (mvT hZ286_ (own_w hw 111 rfl)) (notFace_of_selects (args := #[]) (mvT hZ286_ (own_w hw 113 rfl))) (mvT hZ286_ (own_w hw 113 rfl)) (mvT hZ286_ (own_w hw 112 rfl)) (by decide) (backOf (W := 0) (own_rm_isP0 l Z a0 hw [] oo T307_.heap n0 (Nat.le_trans Zl (Nat.le_trans (Nat.le_trans (Nat.le_trans (Nat.le_trans E256_.1 K259_.1) E266_.1) E286_.1) K307_.1)) r309_) hZ286_ (own_w hw 114 rfl) (own_w hw 107 rfl) (by decide) (by decide)) q310_a q310_c (g := (mkF m 577 #[.val (.int p1), .val (.int p2), .val (.int p3), .val (.int p4), .val (.int p5), .val (.ref a196_), .val (.int nn), .val (.int po), .val (.int cc), .val (.int fl), .val (.ref b197_), .val (.ref b256_), .val .null, .val (.ref oo)] [(.ref oo)])) rfl (by rw [hml]; rfl) (Steps.refl _) (argsL := []) (rest := []) (lenOf own_pd11 rfl) rfl (by show 2 * 0 + _ ≤ _; exact Nat.le_of_eq rfl) (hb hby at_577) (fun _ _ => ⟨rfl, rfl, (by decide : (0 + 2 + 1) + 1 + 2 + 2 + 0 + 2 + 0 + 1 + 0 ≤ _), (by decide : (0 + (72 + 4) + 19) + 4 + 57 + (48 + 4) + 0 + (72 + 4) + 0 + 2 + 0 ≤ _)⟩)
            dsimp only [Pt.U, Pt.locs, Pt.cells, Pt.slots] at X310_ l310_ y310_ z310_ st310_ hQ310_
            subst l310_ y310_ z310_
            obtain ⟨rfl, Nq310_, hh310_⟩ := hQ310_
            have N310_ := Fr.app N307_ Nq310_
            refine own_viaH (fun _ kq => st310_.trans kq) ?_
            show own_FinH _ _ _ _ _ _ _ _ _ T310_ (mkF m 580 #[.val (.int p1), .val (.int p2), .val (.int p3), .val (.int p4), .val (.int p5), .val (.ref a196_), .val (.int nn), .val (.int po), .val (.int cc), .val (.int fl), .val (.ref b197_), .val (.ref b256_), .val .null, .val (.ref oo)] [(.int (0 : Int32))])
            refine own_viaH (fun _ kq => XS.ifNo X310_.here hx rfl (hb hby at_580) rfl ((if0 _ _).trans (teq rfl).2) kq) ?_
            show own_FinH _ _ _ _ _ _ _ _ _ T310_ (mkF m 583 #[.val (.int p1), .val (.int p2), .val (.int p3), .val (.int p4), .val (.int p5), .val (.ref a196_), .val (.int nn), .val (.int po), .val (.int cc), .val (.int fl), .val (.ref b197_), .val (.ref b256_), .val .null, .val (.ref oo)] [])
            refine own_viaH (fun _ kq => XS.iconst X310_.here hx rfl (hb hby at_583) kq) ?_
            refine own_viaH (fun _ kq => XS.goto X310_.here hx rfl (pc0 := 584) (pc' := 588) rfl (hb hby at_584) (by decide) (by decide) kq) ?_
            show own_FinH _ _ _ _ _ _ _ _ _ T310_ (mkF m 588 #[.val (.int p1), .val (.int p2), .val (.int p3), .val (.int p4), .val (.int p5), .val (.ref a196_), .val (.int nn), .val (.int po), .val (.int cc), .val (.int fl), .val (.ref b197_), .val (.ref b256_), .val .null, .val (.ref oo)] [(.int (1 : Int32))])
            have C311_ := C287_.trans Cq286_
            have H311_ := C311_.1
            have C312_ := C311_.trans (CHr.keep K307_ sf0 H311_)
            have H312_ := C312_.1
            exact own_retNH X310_ hx (t := .boolean) Bd.returns Bd.notSynchronized (own_ew hw) hZ286_ hS286_ (Nat.le_trans hk286_ K307_.1) hh C312_ (by simp) (hb hby at_588) hh310_ rfl ⟨rfl, N310_⟩ (by decide) (by decide)
          · refine own_viaH (fun _ kq => XS.ifNo X293_.here hx rfl (hb hby at_555) rfl ((if0 _ _).trans (feq hs2).1) kq) ?_
            show own_FinH _ _ _ _ _ _ _ _ _ T293_ (mkF m 558 #[.val (.int p1), .val (.int p2), .val (.int p3), .val (.int p4), .val (.int p5), .val (.ref a196_), .val (.int nn), .val (.int po), .val (.int cc), .val (.int fl), .val (.ref b197_), .val (.ref b256_), .val .null, .unset] [])
            obtain ⟨T295_, X295_, e295_, st295_⟩ := getS2 X293_ hx hZ286_ hown286_ (host := "") (Or.inl (own_w hw 157 rfl)) Via.refl hh293_ (Sc.ext f294_.2) (g := (mkF m 558 #[.val (.int p1), .val (.int p2), .val (.int p3), .val (.int p4), .val (.int p5), .val (.ref a196_), .val (.int nn), .val (.int po), .val (.int cc), .val (.int fl), .val (.ref b197_), .val (.ref b256_), .val .null, .unset] [])) rfl (hb hby at_558)
            refine own_viaH (fun _ kq => st295_ _ kq) ?_
            show own_FinH _ _ _ _ _ _ _ _ _ T295_ (mkF m 561 #[.val (.int p1), .val (.int p2), .val (.int p3), .val (.int p4), .val (.int p5), .val (.ref a196_), .val (.int nn), .val (.int po), .val (.int cc), .val (.int fl), .val (.ref b197_), .val (.ref b256_), .val .null, .unset] [(.ref ct)])
            refine own_viaH (fun _ kq => XS.astore X295_.here hx rfl (hb hby at_561) rfl rfl (l' := #[.val (.int p1), .val (.int p2), .val (.int p3), .val (.int p4), .val (.int p5), .val (.ref a196_), .val (.int nn), .val (.int po), .val (.int cc), .val (.int fl), .val (.ref b197_), .val (.ref b256_), .val (.ref ct), .unset]) rfl kq) ?_
            refine own_viaH (fun _ kq => XS.aload X295_.here hx rfl (hb hby at_563) rfl rfl kq) ?_
            show own_FinH _ _ _ _ _ _ _ _ _ T295_ (mkF m 565 #[.val (.int p1), .val (.int p2), .val (.int p3), .val (.int p4), .val (.int p5), .val (.ref a196_), .val (.int nn), .val (.int po), .val (.int cc), .val (.int fl), .val (.ref b197_), .val (.ref b256_), .val (.ref ct), .unset] [(.ref b256_)])
            have q296_ : sb ≠ b256_ := Nat.ne_of_lt (Nat.lt_of_lt_of_le (Esb.ext Ol.2).lt (Nat.le_of_eq g256_.symm))
            have q297_ : sc ≠ b256_ := Nat.ne_of_lt (Nat.lt_of_lt_of_le (Esc.ext Ol.2).lt (Nat.le_of_eq g256_.symm))
            obtain ⟨_, _, ⟨T298_, L298_, k298_, n298_⟩, -, X298_, ⟨Lc298_, hQ298_, l298_, y298_, z298_⟩, st298_⟩ := Jvm.LawKit.callS X295_ hx (y := (⟨"com/example/lichen/lichen/webhook/EventType", "of", "(Ljava/lang/String;)Ljava/util/Optional;"⟩ : MethodName)) hown286_ (mvT hZ286_ (own_w hw 81 rfl)) (mvT hZ286_ (own_w hw 82 rfl)) (mvT hZ286_ (own_w hw 83 rfl)) (mvT hZ286_ (own_w hw 84 rfl)) (by decide) (backOf (W := 0) (own_rm_ofC l Z a0 hw [] b256_ cz ti kti cdi Ni vsi xs va kv bt ct sb tb ktb sc tc ktc em h286_ n0 (Nat.le_trans Zl (Nat.le_trans (Nat.le_trans (Nat.le_trans E256_.1 K259_.1) E266_.1) E286_.1)) f294_ S1 P5 Sv Se ((r261_.ext E266_).ext E286_) ((r262_.ext E266_).ext E286_) ((r263_.ext E266_).ext E286_) ((r265_.ext E266_).ext E286_) hci (by rw [hxl]; exact hn4) hxs Eva Vva Ebt Fbt Esb Fcsb Fvsb Vtb Ect Fct Esc Fcsc Fvsc Vtc Eem Fem q296_ q297_ (hre1.resolve_left fun q => absurd (q.1.symm.trans hs1) (by decide)).2 (hre2.resolve_right fun q => hs2 q.1).2) hZ286_ (own_w hw 84 rfl) (own_w hw 83 rfl) (by decide) (by decide)) (g := (mkF m 565 #[.val (.int p1), .val (.int p2), .val (.int p3), .val (.int p4), .val (.int p5), .val (.ref a196_), .val (.int nn), .val (.int po), .val (.int cc), .val (.int fl), .val (.ref b197_), .val (.ref b256_), .val (.ref ct), .unset] [(.ref b256_)])) rfl (by rw [hml]; rfl) (argsL := [(.ref b256_)]) (rest := []) (lenOf own_pd22 rfl) rfl (by show 2 * 0 + _ ≤ _; exact Nat.le_of_eq rfl) (hb hby at_565) (fun _ _ => ⟨rfl, e295_, (by decide : (0 + 2 + 1) + 1 + 2 + 2 + 0 + 2 + 0 + 2 ≤ _), (by decide : (0 + (72 + 4) + 19) + 4 + 57 + (48 + 4) + 0 + (72 + 4) + 0 + 3 ≤ _)⟩)
            dsimp only [Pt.U, Pt.locs, Pt.cells, Pt.slots] at X298_ l298_ y298_ z298_ st298_ hQ298_
            subst l298_ y298_ z298_
            obtain ⟨oo, rfl, Nq298_, K298_, r299_, r300_⟩ := hQ298_
            have N298_ := Fr.app N293_ Nq298_
            refine own_viaH (fun _ kq => st298_ _ kq) ?_
            show own_FinH _ _ _ _ _ _ _ _ _ T298_ (mkF m 568 #[.val (.int p1), .val (.int p2), .val (.int p3), .val (.int p4), .val (.int p5), .val (.ref a196_), .val (.int nn), .val (.int po), .val (.int cc), .val (.int fl), .val (.ref b197_), .val (.ref b256_), .val (.ref ct), .unset] [(.ref oo)])
            refine own_viaH (fun _ kq => XS.astore X298_.here hx rfl (hb hby at_568) rfl rfl (l' := #[.val (.int p1), .val (.int p2), .val (.int p3), .val (.int p4), .val (.int p5), .val (.ref a196_), .val (.int nn), .val (.int po), .val (.int cc), .val (.int fl), .val (.ref b197_), .val (.ref b256_), .val (.ref ct), .val (.ref oo)]) rfl kq) ?_
            refine own_viaH (fun _ kq => XS.aload X298_.here hx rfl (hb hby at_570) rfl rfl kq) ?_
            refine own_viaH (fun _ kq => XS.ifnonnullYes X298_.here hx rfl (pc0 := 572) (pc' := 589) rfl (hb hby at_572) rfl (by decide) (by decide) kq) ?_
            show own_FinH _ _ _ _ _ _ _ _ _ T298_ (mkF m 589 #[.val (.int p1), .val (.int p2), .val (.int p3), .val (.int p4), .val (.int p5), .val (.ref a196_), .val (.int nn), .val (.int po), .val (.int cc), .val (.int fl), .val (.ref b197_), .val (.ref b256_), .val (.ref ct), .val (.ref oo)] [])
            refine own_viaH (fun _ kq => XS.aload X298_.here hx rfl (hb hby at_589) rfl rfl kq) ?_
            show own_FinH _ _ _ _ _ _ _ _ _ T298_ (mkF m 591 #[.val (.int p1), .val (.int p2), .val (.int p3), .val (.int p4), .val (.int p5), .val (.ref a196_), .val (.int nn), .val (.int po), .val (.int cc), .val (.int fl), .val (.ref b197_), .val (.ref b256_), .val (.ref ct), .val (.ref oo)] [(.ref oo)])
            obtain ⟨cq301_, kq301_, q301_a, q301_b, q301_c⟩ := isOf hZ286_ rfl r299_
            obtain ⟨_, _, ⟨T301_, L301_, k301_, n301_⟩, -, X301_, ⟨Lc301_, hQ301_, l301_, y301_, z301_⟩, st301_⟩ := X298_.virtualBack hx (y := (⟨"java/util/Optional", "isPresent", "()Z"⟩ : MethodName)) (z := (⟨"java/util/Optional", "isPresent", "()Z"⟩ : MethodName)) hown286_ (mvT hZ286_ (own_w hw 110 rfl)) (mvT hZ286_ (own_w hw 111 rfl)) (notFace_of_selects (args := #[]) (mvT hZ286_ (own_w hw 113 rfl))) (mvT hZ286_ (own_w hw 113 rfl)) (mvT hZ286_ (own_w hw 112 rfl)) (by decide) (backOf (W := 0) (own_rm_isP1 l Z a0 hw [] oo ct T298_.heap n0 (Nat.le_trans Zl (Nat.le_trans (Nat.le_trans (Nat.le_trans (Nat.le_trans E256_.1 K259_.1) E266_.1) E286_.1) K298_.1)) r300_) hZ286_ (own_w hw 114 rfl) (own_w hw 107 rfl) (by decide) (by decide)) q301_a q301_c (g := (mkF m 591 #[.val (.int p1), .val (.int p2), .val (.int p3), .val (.int p4), .val (.int p5), .val (.ref a196_), .val (.int nn), .val (.int po), .val (.int cc), .val (.int fl), .val (.ref b197_), .val (.ref b256_), .val (.ref ct), .val (.ref oo)] [(.ref oo)])) rfl (by rw [hml]; rfl) (Steps.refl _) (argsL := []) (rest := []) (lenOf own_pd11 rfl) rfl (by show 2 * 0 + _ ≤ _; exact Nat.le_of_eq rfl) (hb hby at_591) (fun _ _ => ⟨rfl, rfl, (by decide : (0 + 2 + 1) + 1 + 2 + 2 + 0 + 2 + 0 + 2 + 0 ≤ _), (by decide : (0 + (72 + 4) + 19) + 4 + 57 + (48 + 4) + 0 + (72 + 4) + 0 + 3 + 0 ≤ _)⟩)
            dsimp only [Pt.U, Pt.locs, Pt.cells, Pt.slots] at X301_ l301_ y301_ z301_ st301_ hQ301_
            subst l301_ y301_ z301_
            obtain ⟨rfl, Nq301_, hh301_⟩ := hQ301_
            have N301_ := Fr.app N298_ Nq301_
            refine own_viaH (fun _ kq => st301_.trans kq) ?_
            show own_FinH _ _ _ _ _ _ _ _ _ T301_ (mkF m 594 #[.val (.int p1), .val (.int p2), .val (.int p3), .val (.int p4), .val (.int p5), .val (.ref a196_), .val (.int nn), .val (.int po), .val (.int cc), .val (.int fl), .val (.ref b197_), .val (.ref b256_), .val (.ref ct), .val (.ref oo)] [(.int (1 : Int32))])
            refine own_viaH (fun _ kq => XS.ifNo X301_.here hx rfl (hb hby at_594) rfl ((if0 _ _).trans (feq (by decide)).1) kq) ?_
            show own_FinH _ _ _ _ _ _ _ _ _ T301_ (mkF m 597 #[.val (.int p1), .val (.int p2), .val (.int p3), .val (.int p4), .val (.int p5), .val (.ref a196_), .val (.int nn), .val (.int po), .val (.int cc), .val (.int fl), .val (.ref b197_), .val (.ref b256_), .val (.ref ct), .val (.ref oo)] [])
            refine own_viaH (fun _ kq => XS.aload X301_.here hx rfl (hb hby at_597) rfl rfl kq) ?_
            show own_FinH _ _ _ _ _ _ _ _ _ T301_ (mkF m 599 #[.val (.int p1), .val (.int p2), .val (.int p3), .val (.int p4), .val (.int p5), .val (.ref a196_), .val (.int nn), .val (.int po), .val (.int cc), .val (.int fl), .val (.ref b197_), .val (.ref b256_), .val (.ref ct), .val (.ref oo)] [(.ref oo)])
            obtain ⟨cq302_, kq302_, q302_a, q302_b, q302_c⟩ := isOf hZ286_ hh301_ r299_
            obtain ⟨_, _, ⟨T302_, L302_, k302_, n302_⟩, -, X302_, ⟨Lc302_, hQ302_, l302_, y302_, z302_⟩, st302_⟩ := X301_.virtualBack hx (y := (⟨"java/util/Optional", "get", "()Ljava/lang/Object;"⟩ : MethodName)) (z := (⟨"java/util/Optional", "get", "()Ljava/lang/Object;"⟩ : MethodName)) hown286_ (mvT hZ286_ (own_w hw 152 rfl)) (mvT hZ286_ (own_w hw 153 rfl)) (notFace_of_selects (args := #[]) (mvT hZ286_ (own_w hw 155 rfl))) (mvT hZ286_ (own_w hw 155 rfl)) (mvT hZ286_ (own_w hw 154 rfl)) (by decide) (backOf (W := 0) (own_rm_optG l Z a0 hw [] oo ct T298_.heap n0 (Nat.le_trans Zl (Nat.le_trans (Nat.le_trans (Nat.le_trans (Nat.le_trans E256_.1 K259_.1) E266_.1) E286_.1) K298_.1)) r300_) hZ286_ (own_w hw 156 rfl) (own_w hw 107 rfl) (by decide) (by decide)) q302_a q302_c (g := (mkF m 599 #[.val (.int p1), .val (.int p2), .val (.int p3), .val (.int p4), .val (.int p5), .val (.ref a196_), .val (.int nn), .val (.int po), .val (.int cc), .val (.int fl), .val (.ref b197_), .val (.ref b256_), .val (.ref ct), .val (.ref oo)] [(.ref oo)])) rfl (by rw [hml]; rfl) (Steps.refl _) (argsL := []) (rest := []) (lenOf own_pd23 rfl) rfl (by show 2 * 0 + _ ≤ _; exact Nat.le_of_eq rfl) (hb hby at_599) (fun _ _ => ⟨rfl, hh301_, (by decide : (0 + 2 + 1) + 1 + 2 + 2 + 0 + 2 + 0 + 2 + 0 + 0 ≤ _), (by decide : (0 + (72 + 4) + 19) + 4 + 57 + (48 + 4) + 0 + (72 + 4) + 0 + 3 + 0 + 0 ≤ _)⟩)
            dsimp only [Pt.U, Pt.locs, Pt.cells, Pt.slots] at X302_ l302_ y302_ z302_ st302_ hQ302_
            subst l302_ y302_ z302_
            obtain ⟨rfl, Nq302_, hh302_⟩ := hQ302_
            have N302_ := Fr.app N301_ Nq302_
            refine own_viaH (fun _ kq => st302_.trans kq) ?_
            show own_FinH _ _ _ _ _ _ _ _ _ T302_ (mkF m 602 #[.val (.int p1), .val (.int p2), .val (.int p3), .val (.int p4), .val (.int p5), .val (.ref a196_), .val (.int nn), .val (.int po), .val (.int cc), .val (.int fl), .val (.ref b197_), .val (.ref b256_), .val (.ref ct), .val (.ref oo)] [(.ref ct)])
            refine own_viaH (fun _ kq => XS.aload X302_.here hx rfl (hb hby at_602) rfl rfl kq) ?_
            show own_FinH _ _ _ _ _ _ _ _ _ T302_ (mkF m 604 #[.val (.int p1), .val (.int p2), .val (.int p3), .val (.int p4), .val (.int p5), .val (.ref a196_), .val (.int nn), .val (.int po), .val (.int cc), .val (.int fl), .val (.ref b197_), .val (.ref b256_), .val (.ref ct), .val (.ref oo)] [(.ref ct), (.ref ct)])
            refine own_viaH (fun _ kq => Jvm.RoadKit.acmp (g := (mkF m 604 #[.val (.int p1), .val (.int p2), .val (.int p3), .val (.int p4), .val (.int p5), .val (.ref a196_), .val (.int nn), .val (.int po), .val (.int cc), .val (.int fl), .val (.ref b197_), .val (.ref b256_), .val (.ref ct), .val (.ref oo)] [(.ref ct), (.ref ct)])) X302_ hx rfl rfl rfl (pc0 := 604) (pc' := 607) (same := true) rfl (hb hby at_604) rfl (decide_eq_true rfl) (by decide) (by decide) kq) ?_
            show own_FinH _ _ _ _ _ _ _ _ _ T302_ (mkF m 607 #[.val (.int p1), .val (.int p2), .val (.int p3), .val (.int p4), .val (.int p5), .val (.ref a196_), .val (.int nn), .val (.int po), .val (.int cc), .val (.int fl), .val (.ref b197_), .val (.ref b256_), .val (.ref ct), .val (.ref oo)] [])
            refine own_viaH (fun _ kq => XS.iconst X302_.here hx rfl (hb hby at_607) kq) ?_
            refine own_viaH (fun _ kq => XS.goto X302_.here hx rfl (pc0 := 608) (pc' := 612) rfl (hb hby at_608) (by decide) (by decide) kq) ?_
            show own_FinH _ _ _ _ _ _ _ _ _ T302_ (mkF m 612 #[.val (.int p1), .val (.int p2), .val (.int p3), .val (.int p4), .val (.int p5), .val (.ref a196_), .val (.int nn), .val (.int po), .val (.int cc), .val (.int fl), .val (.ref b197_), .val (.ref b256_), .val (.ref ct), .val (.ref oo)] [(.int (1 : Int32))])
            have C303_ := C287_.trans Cq286_
            have H303_ := C303_.1
            have C304_ := C303_.trans (CHr.keep K298_ sf0 H303_)
            have H304_ := C304_.1
            exact own_retNH X302_ hx (t := .boolean) Bd.returns Bd.notSynchronized (own_ew hw) hZ286_ hS286_ (Nat.le_trans hk286_ K298_.1) hh C304_ (by simp) (hb hby at_612) hh302_ rfl ⟨rfl, N302_⟩ (by decide) (by decide)
        · refine own_viaH (fun _ kq => XS.ifNo X275_.here hx rfl (hb hby at_537) rfl ((if0 _ _).trans (feq hs1).1) kq) ?_
          show own_FinH _ _ _ _ _ _ _ _ _ T275_ (mkF m 540 #[.val (.int p1), .val (.int p2), .val (.int p3), .val (.int p4), .val (.int p5), .val (.ref a196_), .val (.int nn), .val (.int po), .val (.int cc), .val (.int fl), .val (.ref b197_), .val (.ref b256_), .val .null, .unset] [])
          obtain ⟨T276_, X276_, e276_, st276_⟩ := getS2 X275_ hx hZ266_ hown266_ (host := "") (Or.inl (own_w hw 137 rfl)) Via.refl hh275_ (Sb.ext (((Ol.ext E256_).keep K259_ (allS g260_ all0)).ext E266_).2) (g := (mkF m 540 #[.val (.int p1), .val (.int p2), .val (.int p3), .val (.int p4), .val (.int p5), .val (.ref a196_), .val (.int nn), .val (.int po), .val (.int cc), .val (.int fl), .val (.ref b197_), .val (.ref b256_), .val .null, .unset] [])) rfl (hb hby at_540)
          refine own_viaH (fun _ kq => st276_ _ kq) ?_
          show own_FinH _ _ _ _ _ _ _ _ _ T276_ (mkF m 543 #[.val (.int p1), .val (.int p2), .val (.int p3), .val (.int p4), .val (.int p5), .val (.ref a196_), .val (.int nn), .val (.int po), .val (.int cc), .val (.int fl), .val (.ref b197_), .val (.ref b256_), .val .null, .unset] [(.ref bt)])
          refine own_viaH (fun _ kq => XS.astore X276_.here hx rfl (hb hby at_543) rfl rfl (l' := #[.val (.int p1), .val (.int p2), .val (.int p3), .val (.int p4), .val (.int p5), .val (.ref a196_), .val (.int nn), .val (.int po), .val (.int cc), .val (.int fl), .val (.ref b197_), .val (.ref b256_), .val (.ref bt), .unset]) rfl kq) ?_
          refine own_viaH (fun _ kq => XS.goto X276_.here hx rfl (pc0 := 545) (pc' := 563) rfl (hb hby at_545) (by decide) (by decide) kq) ?_
          refine own_viaH (fun _ kq => XS.aload X276_.here hx rfl (hb hby at_563) rfl rfl kq) ?_
          show own_FinH _ _ _ _ _ _ _ _ _ T276_ (mkF m 565 #[.val (.int p1), .val (.int p2), .val (.int p3), .val (.int p4), .val (.int p5), .val (.ref a196_), .val (.int nn), .val (.int po), .val (.int cc), .val (.int fl), .val (.ref b197_), .val (.ref b256_), .val (.ref bt), .unset] [(.ref b256_)])
          have q277_ : sb ≠ b256_ := Nat.ne_of_lt (Nat.lt_of_lt_of_le (Esb.ext Ol.2).lt (Nat.le_of_eq g256_.symm))
          have q278_ : sc ≠ b256_ := Nat.ne_of_lt (Nat.lt_of_lt_of_le (Esc.ext Ol.2).lt (Nat.le_of_eq g256_.symm))
          obtain ⟨_, _, ⟨T279_, L279_, k279_, n279_⟩, -, X279_, ⟨Lc279_, hQ279_, l279_, y279_, z279_⟩, st279_⟩ := Jvm.LawKit.callS X276_ hx (y := (⟨"com/example/lichen/lichen/webhook/EventType", "of", "(Ljava/lang/String;)Ljava/util/Optional;"⟩ : MethodName)) hown266_ (mvT hZ266_ (own_w hw 81 rfl)) (mvT hZ266_ (own_w hw 82 rfl)) (mvT hZ266_ (own_w hw 83 rfl)) (mvT hZ266_ (own_w hw 84 rfl)) (by decide) (backOf (W := 0) (own_rm_ofB l Z a0 hw [] b256_ cz ti kti cdi Ni vsi xs va kv bt ct sb tb ktb sc tc ktc em h266_ n0 (Nat.le_trans Zl (Nat.le_trans (Nat.le_trans E256_.1 K259_.1) E266_.1)) (((Ol.ext E256_).keep K259_ (allS g260_ all0)).ext E266_) S1 P5 Sv Se (r261_.ext E266_) (r262_.ext E266_) (r263_.ext E266_) (r265_.ext E266_) hci (by rw [hxl]; exact hn4) hxs Eva Vva Ebt Fbt Esb Fcsb Fvsb Vtb Ect Fct Esc Fcsc Fvsc Vtc Eem Fem q277_ q278_ (hre1.resolve_right fun q => hs1 q.1).2) hZ266_ (own_w hw 84 rfl) (own_w hw 83 rfl) (by decide) (by decide)) (g := (mkF m 565 #[.val (.int p1), .val (.int p2), .val (.int p3), .val (.int p4), .val (.int p5), .val (.ref a196_), .val (.int nn), .val (.int po), .val (.int cc), .val (.int fl), .val (.ref b197_), .val (.ref b256_), .val (.ref bt), .unset] [(.ref b256_)])) rfl (by rw [hml]; rfl) (argsL := [(.ref b256_)]) (rest := []) (lenOf own_pd22 rfl) rfl (by show 2 * 0 + _ ≤ _; exact Nat.le_of_eq rfl) (hb hby at_565) (fun _ _ => ⟨rfl, e276_, (by decide : (0 + 2 + 1) + 1 + 2 + 2 + 0 + 2 ≤ _), (by decide : (0 + (72 + 4) + 19) + 4 + 57 + (48 + 4) + 0 + 3 ≤ _)⟩)
          dsimp only [Pt.U, Pt.locs, Pt.cells, Pt.slots] at X279_ l279_ y279_ z279_ st279_ hQ279_
          subst l279_ y279_ z279_
          obtain ⟨oo, rfl, Nq279_, K279_, r280_, r281_⟩ := hQ279_
          have N279_ := Fr.app N275_ Nq279_
          refine own_viaH (fun _ kq => st279_ _ kq) ?_
          show own_FinH _ _ _ _ _ _ _ _ _ T279_ (mkF m 568 #[.val (.int p1), .val (.int p2), .val (.int p3), .val (.int p4), .val (.int p5), .val (.ref a196_), .val (.int nn), .val (.int po), .val (.int cc), .val (.int fl), .val (.ref b197_), .val (.ref b256_), .val (.ref bt), .unset] [(.ref oo)])
          refine own_viaH (fun _ kq => XS.astore X279_.here hx rfl (hb hby at_568) rfl rfl (l' := #[.val (.int p1), .val (.int p2), .val (.int p3), .val (.int p4), .val (.int p5), .val (.ref a196_), .val (.int nn), .val (.int po), .val (.int cc), .val (.int fl), .val (.ref b197_), .val (.ref b256_), .val (.ref bt), .val (.ref oo)]) rfl kq) ?_
          refine own_viaH (fun _ kq => XS.aload X279_.here hx rfl (hb hby at_570) rfl rfl kq) ?_
          refine own_viaH (fun _ kq => XS.ifnonnullYes X279_.here hx rfl (pc0 := 572) (pc' := 589) rfl (hb hby at_572) rfl (by decide) (by decide) kq) ?_
          show own_FinH _ _ _ _ _ _ _ _ _ T279_ (mkF m 589 #[.val (.int p1), .val (.int p2), .val (.int p3), .val (.int p4), .val (.int p5), .val (.ref a196_), .val (.int nn), .val (.int po), .val (.int cc), .val (.int fl), .val (.ref b197_), .val (.ref b256_), .val (.ref bt), .val (.ref oo)] [])
          refine own_viaH (fun _ kq => XS.aload X279_.here hx rfl (hb hby at_589) rfl rfl kq) ?_
          show own_FinH _ _ _ _ _ _ _ _ _ T279_ (mkF m 591 #[.val (.int p1), .val (.int p2), .val (.int p3), .val (.int p4), .val (.int p5), .val (.ref a196_), .val (.int nn), .val (.int po), .val (.int cc), .val (.int fl), .val (.ref b197_), .val (.ref b256_), .val (.ref bt), .val (.ref oo)] [(.ref oo)])
          obtain ⟨cq282_, kq282_, q282_a, q282_b, q282_c⟩ := isOf hZ266_ rfl r280_
          obtain ⟨_, _, ⟨T282_, L282_, k282_, n282_⟩, -, X282_, ⟨Lc282_, hQ282_, l282_, y282_, z282_⟩, st282_⟩ := X279_.virtualBack hx (y := (⟨"java/util/Optional", "isPresent", "()Z"⟩ : MethodName)) (z := (⟨"java/util/Optional", "isPresent", "()Z"⟩ : MethodName)) hown266_ (mvT hZ266_ (own_w hw 110 rfl)) (mvT hZ266_ (own_w hw 111 rfl)) (notFace_of_selects (args := #[]) (mvT hZ266_ (own_w hw 113 rfl))) (mvT hZ266_ (own_w hw 113 rfl)) (mvT hZ266_ (own_w hw 112 rfl)) (by decide) (backOf (W := 0) (own_rm_isP1 l Z a0 hw [] oo bt T279_.heap n0 (Nat.le_trans Zl (Nat.le_trans (Nat.le_trans (Nat.le_trans E256_.1 K259_.1) E266_.1) K279_.1)) r281_) hZ266_ (own_w hw 114 rfl) (own_w hw 107 rfl) (by decide) (by decide)) q282_a q282_c (g := (mkF m 591 #[.val (.int p1), .val (.int p2), .val (.int p3), .val (.int p4), .val (.int p5), .val (.ref a196_), .val (.int nn), .val (.int po), .val (.int cc), .val (.int fl), .val (.ref b197_), .val (.ref b256_), .val (.ref bt), .val (.ref oo)] [(.ref oo)])) rfl (by rw [hml]; rfl) (Steps.refl _) (argsL := []) (rest := []) (lenOf own_pd11 rfl) rfl (by show 2 * 0 + _ ≤ _; exact Nat.le_of_eq rfl) (hb hby at_591) (fun _ _ => ⟨rfl, rfl, (by decide : (0 + 2 + 1) + 1 + 2 + 2 + 0 + 2 + 0 ≤ _), (by decide : (0 + (72 + 4) + 19) + 4 + 57 + (48 + 4) + 0 + 3 + 0 ≤ _)⟩)
          dsimp only [Pt.U, Pt.locs, Pt.cells, Pt.slots] at X282_ l282_ y282_ z282_ st282_ hQ282_
          subst l282_ y282_ z282_
          obtain ⟨rfl, Nq282_, hh282_⟩ := hQ282_
          have N282_ := Fr.app N279_ Nq282_
          refine own_viaH (fun _ kq => st282_.trans kq) ?_
          show own_FinH _ _ _ _ _ _ _ _ _ T282_ (mkF m 594 #[.val (.int p1), .val (.int p2), .val (.int p3), .val (.int p4), .val (.int p5), .val (.ref a196_), .val (.int nn), .val (.int po), .val (.int cc), .val (.int fl), .val (.ref b197_), .val (.ref b256_), .val (.ref bt), .val (.ref oo)] [(.int (1 : Int32))])
          refine own_viaH (fun _ kq => XS.ifNo X282_.here hx rfl (hb hby at_594) rfl ((if0 _ _).trans (feq (by decide)).1) kq) ?_
          show own_FinH _ _ _ _ _ _ _ _ _ T282_ (mkF m 597 #[.val (.int p1), .val (.int p2), .val (.int p3), .val (.int p4), .val (.int p5), .val (.ref a196_), .val (.int nn), .val (.int po), .val (.int cc), .val (.int fl), .val (.ref b197_), .val (.ref b256_), .val (.ref bt), .val (.ref oo)] [])
          refine own_viaH (fun _ kq => XS.aload X282_.here hx rfl (hb hby at_597) rfl rfl kq) ?_
          show own_FinH _ _ _ _ _ _ _ _ _ T282_ (mkF m 599 #[.val (.int p1), .val (.int p2), .val (.int p3), .val (.int p4), .val (.int p5), .val (.ref a196_), .val (.int nn), .val (.int po), .val (.int cc), .val (.int fl), .val (.ref b197_), .val (.ref b256_), .val (.ref bt), .val (.ref oo)] [(.ref oo)])
          obtain ⟨cq283_, kq283_, q283_a, q283_b, q283_c⟩ := isOf hZ266_ hh282_ r280_
          obtain ⟨_, _, ⟨T283_, L283_, k283_, n283_⟩, -, X283_, ⟨Lc283_, hQ283_, l283_, y283_, z283_⟩, st283_⟩ := X282_.virtualBack hx (y := (⟨"java/util/Optional", "get", "()Ljava/lang/Object;"⟩ : MethodName)) (z := (⟨"java/util/Optional", "get", "()Ljava/lang/Object;"⟩ : MethodName)) hown266_ (mvT hZ266_ (own_w hw 152 rfl)) (mvT hZ266_ (own_w hw 153 rfl)) (notFace_of_selects (args := #[]) (mvT hZ266_ (own_w hw 155 rfl))) (mvT hZ266_ (own_w hw 155 rfl)) (mvT hZ266_ (own_w hw 154 rfl)) (by decide) (backOf (W := 0) (own_rm_optG l Z a0 hw [] oo bt T279_.heap n0 (Nat.le_trans Zl (Nat.le_trans (Nat.le_trans (Nat.le_trans E256_.1 K259_.1) E266_.1) K279_.1)) r281_) hZ266_ (own_w hw 156 rfl) (own_w hw 107 rfl) (by decide) (by decide)) q283_a q283_c (g := (mkF m 599 #[.val (.int p1), .val (.int p2), .val (.int p3), .val (.int p4), .val (.int p5), .val (.ref a196_), .val (.int nn), .val (.int po), .val (.int cc), .val (.int fl), .val (.ref b197_), .val (.ref b256_), .val (.ref bt), .val (.ref oo)] [(.ref oo)])) rfl (by rw [hml]; rfl) (Steps.refl _) (argsL := []) (rest := []) (lenOf own_pd23 rfl) rfl (by show 2 * 0 + _ ≤ _; exact Nat.le_of_eq rfl) (hb hby at_599) (fun _ _ => ⟨rfl, hh282_, (by decide : (0 + 2 + 1) + 1 + 2 + 2 + 0 + 2 + 0 + 0 ≤ _), (by decide : (0 + (72 + 4) + 19) + 4 + 57 + (48 + 4) + 0 + 3 + 0 + 0 ≤ _)⟩)
          dsimp only [Pt.U, Pt.locs, Pt.cells, Pt.slots] at X283_ l283_ y283_ z283_ st283_ hQ283_
          subst l283_ y283_ z283_
          obtain ⟨rfl, Nq283_, hh283_⟩ := hQ283_
          have N283_ := Fr.app N282_ Nq283_
          refine own_viaH (fun _ kq => st283_.trans kq) ?_
          show own_FinH _ _ _ _ _ _ _ _ _ T283_ (mkF m 602 #[.val (.int p1), .val (.int p2), .val (.int p3), .val (.int p4), .val (.int p5), .val (.ref a196_), .val (.int nn), .val (.int po), .val (.int cc), .val (.int fl), .val (.ref b197_), .val (.ref b256_), .val (.ref bt), .val (.ref oo)] [(.ref bt)])
          refine own_viaH (fun _ kq => XS.aload X283_.here hx rfl (hb hby at_602) rfl rfl kq) ?_
          show own_FinH _ _ _ _ _ _ _ _ _ T283_ (mkF m 604 #[.val (.int p1), .val (.int p2), .val (.int p3), .val (.int p4), .val (.int p5), .val (.ref a196_), .val (.int nn), .val (.int po), .val (.int cc), .val (.int fl), .val (.ref b197_), .val (.ref b256_), .val (.ref bt), .val (.ref oo)] [(.ref bt), (.ref bt)])
          refine own_viaH (fun _ kq => Jvm.RoadKit.acmp (g := (mkF m 604 #[.val (.int p1), .val (.int p2), .val (.int p3), .val (.int p4), .val (.int p5), .val (.ref a196_), .val (.int nn), .val (.int po), .val (.int cc), .val (.int fl), .val (.ref b197_), .val (.ref b256_), .val (.ref bt), .val (.ref oo)] [(.ref bt), (.ref bt)])) X283_ hx rfl rfl rfl (pc0 := 604) (pc' := 607) (same := true) rfl (hb hby at_604) rfl (decide_eq_true rfl) (by decide) (by decide) kq) ?_
          show own_FinH _ _ _ _ _ _ _ _ _ T283_ (mkF m 607 #[.val (.int p1), .val (.int p2), .val (.int p3), .val (.int p4), .val (.int p5), .val (.ref a196_), .val (.int nn), .val (.int po), .val (.int cc), .val (.int fl), .val (.ref b197_), .val (.ref b256_), .val (.ref bt), .val (.ref oo)] [])
          refine own_viaH (fun _ kq => XS.iconst X283_.here hx rfl (hb hby at_607) kq) ?_
          refine own_viaH (fun _ kq => XS.goto X283_.here hx rfl (pc0 := 608) (pc' := 612) rfl (hb hby at_608) (by decide) (by decide) kq) ?_
          show own_FinH _ _ _ _ _ _ _ _ _ T283_ (mkF m 612 #[.val (.int p1), .val (.int p2), .val (.int p3), .val (.int p4), .val (.int p5), .val (.ref a196_), .val (.int nn), .val (.int po), .val (.int cc), .val (.int fl), .val (.ref b197_), .val (.ref b256_), .val (.ref bt), .val (.ref oo)] [(.int (1 : Int32))])
          have C284_ := C268_.trans Cq266_
          have H284_ := C284_.1
          have C285_ := C284_.trans (CHr.keep K279_ sf0 H284_)
          have H285_ := C285_.1
          exact own_retNH X283_ hx (t := .boolean) Bd.returns Bd.notSynchronized (own_ew hw) hZ266_ hS266_ (Nat.le_trans hk266_ K279_.1) hh C285_ (by simp) (hb hby at_612) hh283_ rfl ⟨rfl, N283_⟩ (by decide) (by decide)
     have s491 : ∀ (xs : List Int32) (Tl : State) (locl : List Loc) (Xl : Stand p l e room_1 (s.setVm T196_.vm) m #[(.int p1), (.int p2), (.int p3), (.int p4), (.int p5)] below meth cde Tl locl (0 + 2 + 1) (0 + (72 + 4) + 19)) (Nl : Fr n0 locl) (hl : Heap) (el : Tl.heap = hl) (hkl : h197_.size ≤ hl.size) (Cl : CHr Z own_EL s.vm h0 T196_.vm hl) (Ol : Old Z n0 hl) (Ex : Exa Z hl a196_ "java/lang/String") (Fx : Fld Z hl a196_ "java/lang/String" "coder" "B" (.int (0 : Int32))) (Fy : Fld Z hl a196_ "java/lang/String" "value" "[B" (.ref b196_)) (Vx : Arv Z hl b196_ kb196_ .byte (18 : Int32) own_v2 (.int 0)) (Vl : Arv Z hl b197_ k197_ .char nn (xs.map Value.int) (.int 0)) (hxl : xs.length = n) (hxs : own_chs xs), own_FinH p e s below Z own_EL (own_Q_law Z p1 p2 p3 p4 p5 cz fm va kv bt ct sb tb ktb sc tc ktc em h0 n0) room_1.cells room_1.slots Tl (mkF m 491 #[.val (.int p1), .val (.int p2), .val (.int p3), .val (.int p4), .val (.int p5), .val (.ref a196_), .val (.int nn), .val (.int po), .val (.int cc), .val (.int fl), .val (.ref b197_), .unset, .unset, .unset] []) := by
      intro xs Tl locl Xl Nl hl el hkl Cl Ol Ex Fx Fy Vx Vl hxl hxs
      have Zl : n0 ≤ hl.size := Nat.le_trans Z0 Cl.2.1
      refine own_viaH (fun _ kq => XS.iload Xl.here hx rfl (hb hby at_491) rfl kq) ?_
      refine own_viaH (fun _ kq => XS.bipush Xl.here hx rfl (hb hby at_493) kq) ?_
      rcases Classical.em ((18 : Int32) < nn) with hg | hg
      · refine own_viaH (fun _ kq => XS.icmpNo Xl.here hx rfl (hb hby at_495) rfl (tlt hg).2.2.2 kq) ?_
        show own_FinH _ _ _ _ _ _ _ _ _ Tl (mkF m 498 #[.val (.int p1), .val (.int p2), .val (.int p3), .val (.int p4), .val (.int p5), .val (.ref a196_), .val (.int nn), .val (.int po), .val (.int cc), .val (.int fl), .val (.ref b197_), .unset, .unset, .unset] [])
        have hlt : 18 < n := own_kn (i := 18) rfl hN (by decide) hn4 hg
        refine own_viaH (fun _ kq => XS.aload Xl.here hx rfl (hb hby at_498) rfl rfl kq) ?_
        refine own_viaH (fun _ kq => XS.bipush Xl.here hx rfl (hb hby at_500) kq) ?_
        refine own_viaH (fun _ kq => XS.aload Xl.here hx rfl (hb hby at_502) rfl rfl kq) ?_
        refine own_viaH (fun _ kq => XS.bipush Xl.here hx rfl (hb hby at_504) kq) ?_
        refine own_viaH (fun _ kq => XS.iload Xl.here hx rfl (hb hby at_506) rfl kq) ?_
        refine own_viaH (fun _ kq => XS.iload Xl.here hx rfl (hb hby at_508) rfl kq) ?_
        show own_FinH _ _ _ _ _ _ _ _ _ Tl (mkF m 510 #[.val (.int p1), .val (.int p2), .val (.int p3), .val (.int p4), .val (.int p5), .val (.ref a196_), .val (.int nn), .val (.int po), .val (.int cc), .val (.int fl), .val (.ref b197_), .unset, .unset, .unset] [(.int cc), (.int po), (.int (18 : Int32)), (.ref a196_), (.int (18 : Int32)), (.ref b197_)])
        refine own_viaH (fun _ kq => XS.iload Xl.here hx rfl (hb hby at_510) rfl kq) ?_
        show own_FinH _ _ _ _ _ _ _ _ _ Tl (mkF m 512 #[.val (.int p1), .val (.int p2), .val (.int p3), .val (.int p4), .val (.int p5), .val (.ref a196_), .val (.int nn), .val (.int po), .val (.int cc), .val (.int fl), .val (.ref b197_), .unset, .unset, .unset] [(.int fl), (.int cc), (.int po), (.int (18 : Int32)), (.ref a196_), (.int (18 : Int32)), (.ref b197_)])
        obtain ⟨_, _, ⟨T313_, L313_, k313_, n313_⟩, -, X313_, ⟨Lc313_, hQ313_, l313_, y313_, z313_⟩, st313_⟩ := Jvm.LawKit.callS Xl hx (y := (⟨"com/example/lichen/lichen/webhook/EventTypeOfPinLaw", "pick", "(Ljava/lang/String;IICZ)C"⟩ : MethodName)) hown196_ (mvT hZ196_ (own_w hw 11 rfl)) (mvT hZ196_ (own_w hw 12 rfl)) (mvT hZ196_ (own_w hw 13 rfl)) (mvT hZ196_ (own_w hw 14 rfl)) (by decide) (backOf (W := 2) (own_rm_pick l Z a0 hw [] a196_ cz b196_ kb196_ (18 : Int32) own_v2 own_t2 fm (18 : Int32) 18 po cc fl hl n0 Zl Ol S1 P5 S2 r_fm Ex Fx Fy Vx own_lita2 (by decide) own_litr2 rfl (by decide) hcc) hZ196_ (own_w hw 14 rfl) (own_w hw 13 rfl) (by decide) (by decide)) (g := (mkF m 512 #[.val (.int p1), .val (.int p2), .val (.int p3), .val (.int p4), .val (.int p5), .val (.ref a196_), .val (.int nn), .val (.int po), .val (.int cc), .val (.int fl), .val (.ref b197_), .unset, .unset, .unset] [(.int fl), (.int cc), (.int po), (.int (18 : Int32)), (.ref a196_), (.int (18 : Int32)), (.ref b197_)])) rfl (by rw [hml]; rfl) (argsL := [(.ref a196_), (.int (18 : Int32)), (.int po), (.int cc), (.int fl)]) (rest := [(.int (18 : Int32)), (.ref b197_)]) (lenOf own_pd24 rfl) rfl (by show 2 * 0 + _ ≤ _; exact Nat.le_of_eq rfl) (hb hby at_512) (fun _ _ => ⟨rfl, el, (by decide : (0 + 2 + 1) + 0 ≤ _), (by decide : (0 + (72 + 4) + 19) + 0 ≤ _)⟩)
        dsimp only [Pt.U, Pt.locs, Pt.cells, Pt.slots] at X313_ l313_ y313_ z313_ st313_ hQ313_
        subst l313_ y313_ z313_
        obtain ⟨rk, rfl, Nq313_, hh313_, hrk⟩ := hQ313_
        have N313_ := Fr.app Nl Nq313_
        refine own_viaH (fun _ kq => st313_ _ kq) ?_
        show own_FinH _ _ _ _ _ _ _ _ _ T313_ (mkF m 515 #[.val (.int p1), .val (.int p2), .val (.int p3), .val (.int p4), .val (.int p5), .val (.ref a196_), .val (.int nn), .val (.int po), .val (.int cc), .val (.int fl), .val (.ref b197_), .unset, .unset, .unset] [(.int rk), (.int (18 : Int32)), (.ref b197_)])
        obtain ⟨c314_, Ar314_, q314_, S314_, M314_, H314_, G314_⟩ := (id Vl)
        have hin314_ : ¬ ((18 : Int32) < 0 ∨ c314_.slots.size ≤ ((18 : Int32)).toNatClampNeg) := inb_of S314_ (own_inb (i := 18) rfl hN hlt hn10)
        obtain ⟨T314_, h314_, X314_, e314_, W314_, st314_⟩ := stC X313_ hx hZ196_ hh313_ Ar314_ (j := (18 : Int32)) hin314_ (g := (mkF m 515 #[.val (.int p1), .val (.int p2), .val (.int p3), .val (.int p4), .val (.int p5), .val (.ref a196_), .val (.int nn), .val (.int po), .val (.int cc), .val (.int fl), .val (.ref b197_), .unset, .unset, .unset] [(.int rk), (.int (18 : Int32)), (.ref b197_)])) rfl rfl (hb hby at_515)
        have V314_ := Arv.set Ar314_ q314_ S314_ M314_ H314_ G314_ (fits_nar_char _) W314_ 18 (own_clamp (i := 18) rfl (by decide)) (by rw [List.length_map, hxl]; exact hlt)
        have U314_ : Arv Z h314_ b197_ k197_ .char nn (((xs.map Value.int)).set 18 (.int rk)) (.int 0) := by
          have hq := V314_
          rw [show nar .char rk = rk from (own_narch hrk)] at hq
          exact hq
        have N314_ := Fr.snoc X314_ N313_ g200_
        refine own_viaH (fun _ kq => st314_ _ kq) ?_
        show own_FinH _ _ _ _ _ _ _ _ _ T314_ (mkF m 516 #[.val (.int p1), .val (.int p2), .val (.int p3), .val (.int p4), .val (.int p5), .val (.ref a196_), .val (.int nn), .val (.int po), .val (.int cc), .val (.int fl), .val (.ref b197_), .unset, .unset, .unset] [])
        have Vz : Arv Z h314_ b197_ k197_ .char nn ((xs.set 18 rk).map Value.int) (.int 0) := by rw [List.map_set]; exact U314_
        have sf316_ : Safe Z own_EL T196_.vm hl b197_ := Safe.arv hZ196_.alike Vl (by decide)
        have C315_ := Cl.trans (CHr.wr W314_ sf316_ Cl.1)
        have H315_ := C315_.1
        exact s516 (xs.set 18 rk) T314_ _ X314_ N314_ _ e314_ (Nat.le_trans hkl (Keep.of_wr W314_).1) C315_ (Ol.wr W314_ g200_) Vz (by rw [List.length_set]; exact hxl) (own_chs_set hxs hrk)
      · refine own_viaH (fun _ kq => XS.icmpYes Xl.here hx rfl (pc0 := 495) (pc' := 516) rfl (hb hby at_495) rfl (flt hg).2.2.2 (by decide) (by decide) kq) ?_
        show own_FinH _ _ _ _ _ _ _ _ _ Tl (mkF m 516 #[.val (.int p1), .val (.int p2), .val (.int p3), .val (.int p4), .val (.int p5), .val (.ref a196_), .val (.int nn), .val (.int po), .val (.int cc), .val (.int fl), .val (.ref b197_), .unset, .unset, .unset] [])
        exact s516 xs Tl _ Xl Nl _ el hkl Cl Ol Vl (by assumption) (by assumption)
     have s466 : ∀ (xs : List Int32) (Tl : State) (locl : List Loc) (Xl : Stand p l e room_1 (s.setVm T196_.vm) m #[(.int p1), (.int p2), (.int p3), (.int p4), (.int p5)] below meth cde Tl locl (0 + 2 + 1) (0 + (72 + 4) + 19)) (Nl : Fr n0 locl) (hl : Heap) (el : Tl.heap = hl) (hkl : h197_.size ≤ hl.size) (Cl : CHr Z own_EL s.vm h0 T196_.vm hl) (Ol : Old Z n0 hl) (Ex : Exa Z hl a196_ "java/lang/String") (Fx : Fld Z hl a196_ "java/lang/String" "coder" "B" (.int (0 : Int32))) (Fy : Fld Z hl a196_ "java/lang/String" "value" "[B" (.ref b196_)) (Vx : Arv Z hl b196_ kb196_ .byte (18 : Int32) own_v2 (.int 0)) (Vl : Arv Z hl b197_ k197_ .char nn (xs.map Value.int) (.int 0)) (hxl : xs.length = n) (hxs : own_chs xs), own_FinH p e s below Z own_EL (own_Q_law Z p1 p2 p3 p4 p5 cz fm va kv bt ct sb tb ktb sc tc ktc em h0 n0) room_1.cells room_1.slots Tl (mkF m 466 #[.val (.int p1), .val (.int p2), .val (.int p3), .val (.int p4), .val (.int p5), .val (.ref a196_), .val (.int nn), .val (.int po), .val (.int cc), .val (.int fl), .val (.ref b197_), .unset, .unset, .unset] []) := by
      intro xs Tl locl Xl Nl hl el hkl Cl Ol Ex Fx Fy Vx Vl hxl hxs
      have Zl : n0 ≤ hl.size := Nat.le_trans Z0 Cl.2.1
      refine own_viaH (fun _ kq => XS.iload Xl.here hx rfl (hb hby at_466) rfl kq) ?_
      refine own_viaH (fun _ kq => XS.bipush Xl.here hx rfl (hb hby at_468) kq) ?_
      rcases Classical.em ((17 : Int32) < nn) with hg | hg
      · refine own_viaH (fun _ kq => XS.icmpNo Xl.here hx rfl (hb hby at_470) rfl (tlt hg).2.2.2 kq) ?_
        show own_FinH _ _ _ _ _ _ _ _ _ Tl (mkF m 473 #[.val (.int p1), .val (.int p2), .val (.int p3), .val (.int p4), .val (.int p5), .val (.ref a196_), .val (.int nn), .val (.int po), .val (.int cc), .val (.int fl), .val (.ref b197_), .unset, .unset, .unset] [])
        have hlt : 17 < n := own_kn (i := 17) rfl hN (by decide) hn4 hg
        refine own_viaH (fun _ kq => XS.aload Xl.here hx rfl (hb hby at_473) rfl rfl kq) ?_
        refine own_viaH (fun _ kq => XS.bipush Xl.here hx rfl (hb hby at_475) kq) ?_
        refine own_viaH (fun _ kq => XS.aload Xl.here hx rfl (hb hby at_477) rfl rfl kq) ?_
        refine own_viaH (fun _ kq => XS.bipush Xl.here hx rfl (hb hby at_479) kq) ?_
        refine own_viaH (fun _ kq => XS.iload Xl.here hx rfl (hb hby at_481) rfl kq) ?_
        refine own_viaH (fun _ kq => XS.iload Xl.here hx rfl (hb hby at_483) rfl kq) ?_
        show own_FinH _ _ _ _ _ _ _ _ _ Tl (mkF m 485 #[.val (.int p1), .val (.int p2), .val (.int p3), .val (.int p4), .val (.int p5), .val (.ref a196_), .val (.int nn), .val (.int po), .val (.int cc), .val (.int fl), .val (.ref b197_), .unset, .unset, .unset] [(.int cc), (.int po), (.int (17 : Int32)), (.ref a196_), (.int (17 : Int32)), (.ref b197_)])
        refine own_viaH (fun _ kq => XS.iload Xl.here hx rfl (hb hby at_485) rfl kq) ?_
        show own_FinH _ _ _ _ _ _ _ _ _ Tl (mkF m 487 #[.val (.int p1), .val (.int p2), .val (.int p3), .val (.int p4), .val (.int p5), .val (.ref a196_), .val (.int nn), .val (.int po), .val (.int cc), .val (.int fl), .val (.ref b197_), .unset, .unset, .unset] [(.int fl), (.int cc), (.int po), (.int (17 : Int32)), (.ref a196_), (.int (17 : Int32)), (.ref b197_)])
        obtain ⟨_, _, ⟨T317_, L317_, k317_, n317_⟩, -, X317_, ⟨Lc317_, hQ317_, l317_, y317_, z317_⟩, st317_⟩ := Jvm.LawKit.callS Xl hx (y := (⟨"com/example/lichen/lichen/webhook/EventTypeOfPinLaw", "pick", "(Ljava/lang/String;IICZ)C"⟩ : MethodName)) hown196_ (mvT hZ196_ (own_w hw 11 rfl)) (mvT hZ196_ (own_w hw 12 rfl)) (mvT hZ196_ (own_w hw 13 rfl)) (mvT hZ196_ (own_w hw 14 rfl)) (by decide) (backOf (W := 2) (own_rm_pick l Z a0 hw [] a196_ cz b196_ kb196_ (18 : Int32) own_v2 own_t2 fm (17 : Int32) 17 po cc fl hl n0 Zl Ol S1 P5 S2 r_fm Ex Fx Fy Vx own_lita2 (by decide) own_litr2 rfl (by decide) hcc) hZ196_ (own_w hw 14 rfl) (own_w hw 13 rfl) (by decide) (by decide)) (g := (mkF m 487 #[.val (.int p1), .val (.int p2), .val (.int p3), .val (.int p4), .val (.int p5), .val (.ref a196_), .val (.int nn), .val (.int po), .val (.int cc), .val (.int fl), .val (.ref b197_), .unset, .unset, .unset] [(.int fl), (.int cc), (.int po), (.int (17 : Int32)), (.ref a196_), (.int (17 : Int32)), (.ref b197_)])) rfl (by rw [hml]; rfl) (argsL := [(.ref a196_), (.int (17 : Int32)), (.int po), (.int cc), (.int fl)]) (rest := [(.int (17 : Int32)), (.ref b197_)]) (lenOf own_pd24 rfl) rfl (by show 2 * 0 + _ ≤ _; exact Nat.le_of_eq rfl) (hb hby at_487) (fun _ _ => ⟨rfl, el, (by decide : (0 + 2 + 1) + 0 ≤ _), (by decide : (0 + (72 + 4) + 19) + 0 ≤ _)⟩)
        dsimp only [Pt.U, Pt.locs, Pt.cells, Pt.slots] at X317_ l317_ y317_ z317_ st317_ hQ317_
        subst l317_ y317_ z317_
        obtain ⟨rk, rfl, Nq317_, hh317_, hrk⟩ := hQ317_
        have N317_ := Fr.app Nl Nq317_
        refine own_viaH (fun _ kq => st317_ _ kq) ?_
        show own_FinH _ _ _ _ _ _ _ _ _ T317_ (mkF m 490 #[.val (.int p1), .val (.int p2), .val (.int p3), .val (.int p4), .val (.int p5), .val (.ref a196_), .val (.int nn), .val (.int po), .val (.int cc), .val (.int fl), .val (.ref b197_), .unset, .unset, .unset] [(.int rk), (.int (17 : Int32)), (.ref b197_)])
        obtain ⟨c318_, Ar318_, q318_, S318_, M318_, H318_, G318_⟩ := (id Vl)
        have hin318_ : ¬ ((17 : Int32) < 0 ∨ c318_.slots.size ≤ ((17 : Int32)).toNatClampNeg) := inb_of S318_ (own_inb (i := 17) rfl hN hlt hn10)
        obtain ⟨T318_, h318_, X318_, e318_, W318_, st318_⟩ := stC X317_ hx hZ196_ hh317_ Ar318_ (j := (17 : Int32)) hin318_ (g := (mkF m 490 #[.val (.int p1), .val (.int p2), .val (.int p3), .val (.int p4), .val (.int p5), .val (.ref a196_), .val (.int nn), .val (.int po), .val (.int cc), .val (.int fl), .val (.ref b197_), .unset, .unset, .unset] [(.int rk), (.int (17 : Int32)), (.ref b197_)])) rfl rfl (hb hby at_490)
        have V318_ := Arv.set Ar318_ q318_ S318_ M318_ H318_ G318_ (fits_nar_char _) W318_ 17 (own_clamp (i := 17) rfl (by decide)) (by rw [List.length_map, hxl]; exact hlt)
        have U318_ : Arv Z h318_ b197_ k197_ .char nn (((xs.map Value.int)).set 17 (.int rk)) (.int 0) := by
          have hq := V318_
          rw [show nar .char rk = rk from (own_narch hrk)] at hq
          exact hq
        have N318_ := Fr.snoc X318_ N317_ g200_
        refine own_viaH (fun _ kq => st318_ _ kq) ?_
        show own_FinH _ _ _ _ _ _ _ _ _ T318_ (mkF m 491 #[.val (.int p1), .val (.int p2), .val (.int p3), .val (.int p4), .val (.int p5), .val (.ref a196_), .val (.int nn), .val (.int po), .val (.int cc), .val (.int fl), .val (.ref b197_), .unset, .unset, .unset] [])
        have Vz : Arv Z h318_ b197_ k197_ .char nn ((xs.set 17 rk).map Value.int) (.int 0) := by rw [List.map_set]; exact U318_
        have sf320_ : Safe Z own_EL T196_.vm hl b197_ := Safe.arv hZ196_.alike Vl (by decide)
        have C319_ := Cl.trans (CHr.wr W318_ sf320_ Cl.1)
        have H319_ := C319_.1
        exact s491 (xs.set 17 rk) T318_ _ X318_ N318_ _ e318_ (Nat.le_trans hkl (Keep.of_wr W318_).1) C319_ (Ol.wr W318_ g200_) (Ex.wr W318_) (Fx.other W318_ (Or.inl q198_)) (Fy.other W318_ (Or.inl q198_)) (Vx.other W318_ q199_) Vz (by rw [List.length_set]; exact hxl) (own_chs_set hxs hrk)
      · refine own_viaH (fun _ kq => XS.icmpYes Xl.here hx rfl (pc0 := 470) (pc' := 491) rfl (hb hby at_470) rfl (flt hg).2.2.2 (by decide) (by decide) kq) ?_
        show own_FinH _ _ _ _ _ _ _ _ _ Tl (mkF m 491 #[.val (.int p1), .val (.int p2), .val (.int p3), .val (.int p4), .val (.int p5), .val (.ref a196_), .val (.int nn), .val (.int po), .val (.int cc), .val (.int fl), .val (.ref b197_), .unset, .unset, .unset] [])
        exact s491 xs Tl _ Xl Nl _ el hkl Cl Ol Ex Fx Fy Vx Vl (by assumption) (by assumption)
     have s441 : ∀ (xs : List Int32) (Tl : State) (locl : List Loc) (Xl : Stand p l e room_1 (s.setVm T196_.vm) m #[(.int p1), (.int p2), (.int p3), (.int p4), (.int p5)] below meth cde Tl locl (0 + 2 + 1) (0 + (72 + 4) + 19)) (Nl : Fr n0 locl) (hl : Heap) (el : Tl.heap = hl) (hkl : h197_.size ≤ hl.size) (Cl : CHr Z own_EL s.vm h0 T196_.vm hl) (Ol : Old Z n0 hl) (Ex : Exa Z hl a196_ "java/lang/String") (Fx : Fld Z hl a196_ "java/lang/String" "coder" "B" (.int (0 : Int32))) (Fy : Fld Z hl a196_ "java/lang/String" "value" "[B" (.ref b196_)) (Vx : Arv Z hl b196_ kb196_ .byte (18 : Int32) own_v2 (.int 0)) (Vl : Arv Z hl b197_ k197_ .char nn (xs.map Value.int) (.int 0)) (hxl : xs.length = n) (hxs : own_chs xs), own_FinH p e s below Z own_EL (own_Q_law Z p1 p2 p3 p4 p5 cz fm va kv bt ct sb tb ktb sc tc ktc em h0 n0) room_1.cells room_1.slots Tl (mkF m 441 #[.val (.int p1), .val (.int p2), .val (.int p3), .val (.int p4), .val (.int p5), .val (.ref a196_), .val (.int nn), .val (.int po), .val (.int cc), .val (.int fl), .val (.ref b197_), .unset, .unset, .unset] []) := by
      intro xs Tl locl Xl Nl hl el hkl Cl Ol Ex Fx Fy Vx Vl hxl hxs
      have Zl : n0 ≤ hl.size := Nat.le_trans Z0 Cl.2.1
      refine own_viaH (fun _ kq => XS.iload Xl.here hx rfl (hb hby at_441) rfl kq) ?_
      refine own_viaH (fun _ kq => XS.bipush Xl.here hx rfl (hb hby at_443) kq) ?_
      rcases Classical.em ((16 : Int32) < nn) with hg | hg
      · refine own_viaH (fun _ kq => XS.icmpNo Xl.here hx rfl (hb hby at_445) rfl (tlt hg).2.2.2 kq) ?_
        show own_FinH _ _ _ _ _ _ _ _ _ Tl (mkF m 448 #[.val (.int p1), .val (.int p2), .val (.int p3), .val (.int p4), .val (.int p5), .val (.ref a196_), .val (.int nn), .val (.int po), .val (.int cc), .val (.int fl), .val (.ref b197_), .unset, .unset, .unset] [])
        have hlt : 16 < n := own_kn (i := 16) rfl hN (by decide) hn4 hg
        refine own_viaH (fun _ kq => XS.aload Xl.here hx rfl (hb hby at_448) rfl rfl kq) ?_
        refine own_viaH (fun _ kq => XS.bipush Xl.here hx rfl (hb hby at_450) kq) ?_
        refine own_viaH (fun _ kq => XS.aload Xl.here hx rfl (hb hby at_452) rfl rfl kq) ?_
        refine own_viaH (fun _ kq => XS.bipush Xl.here hx rfl (hb hby at_454) kq) ?_
        refine own_viaH (fun _ kq => XS.iload Xl.here hx rfl (hb hby at_456) rfl kq) ?_
        refine own_viaH (fun _ kq => XS.iload Xl.here hx rfl (hb hby at_458) rfl kq) ?_
        show own_FinH _ _ _ _ _ _ _ _ _ Tl (mkF m 460 #[.val (.int p1), .val (.int p2), .val (.int p3), .val (.int p4), .val (.int p5), .val (.ref a196_), .val (.int nn), .val (.int po), .val (.int cc), .val (.int fl), .val (.ref b197_), .unset, .unset, .unset] [(.int cc), (.int po), (.int (16 : Int32)), (.ref a196_), (.int (16 : Int32)), (.ref b197_)])
        refine own_viaH (fun _ kq => XS.iload Xl.here hx rfl (hb hby at_460) rfl kq) ?_
        show own_FinH _ _ _ _ _ _ _ _ _ Tl (mkF m 462 #[.val (.int p1), .val (.int p2), .val (.int p3), .val (.int p4), .val (.int p5), .val (.ref a196_), .val (.int nn), .val (.int po), .val (.int cc), .val (.int fl), .val (.ref b197_), .unset, .unset, .unset] [(.int fl), (.int cc), (.int po), (.int (16 : Int32)), (.ref a196_), (.int (16 : Int32)), (.ref b197_)])
        obtain ⟨_, _, ⟨T321_, L321_, k321_, n321_⟩, -, X321_, ⟨Lc321_, hQ321_, l321_, y321_, z321_⟩, st321_⟩ := Jvm.LawKit.callS Xl hx (y := (⟨"com/example/lichen/lichen/webhook/EventTypeOfPinLaw", "pick", "(Ljava/lang/String;IICZ)C"⟩ : MethodName)) hown196_ (mvT hZ196_ (own_w hw 11 rfl)) (mvT hZ196_ (own_w hw 12 rfl)) (mvT hZ196_ (own_w hw 13 rfl)) (mvT hZ196_ (own_w hw 14 rfl)) (by decide) (backOf (W := 2) (own_rm_pick l Z a0 hw [] a196_ cz b196_ kb196_ (18 : Int32) own_v2 own_t2 fm (16 : Int32) 16 po cc fl hl n0 Zl Ol S1 P5 S2 r_fm Ex Fx Fy Vx own_lita2 (by decide) own_litr2 rfl (by decide) hcc) hZ196_ (own_w hw 14 rfl) (own_w hw 13 rfl) (by decide) (by decide)) (g := (mkF m 462 #[.val (.int p1), .val (.int p2), .val (.int p3), .val (.int p4), .val (.int p5), .val (.ref a196_), .val (.int nn), .val (.int po), .val (.int cc), .val (.int fl), .val (.ref b197_), .unset, .unset, .unset] [(.int fl), (.int cc), (.int po), (.int (16 : Int32)), (.ref a196_), (.int (16 : Int32)), (.ref b197_)])) rfl (by rw [hml]; rfl) (argsL := [(.ref a196_), (.int (16 : Int32)), (.int po), (.int cc), (.int fl)]) (rest := [(.int (16 : Int32)), (.ref b197_)]) (lenOf own_pd24 rfl) rfl (by show 2 * 0 + _ ≤ _; exact Nat.le_of_eq rfl) (hb hby at_462) (fun _ _ => ⟨rfl, el, (by decide : (0 + 2 + 1) + 0 ≤ _), (by decide : (0 + (72 + 4) + 19) + 0 ≤ _)⟩)
        dsimp only [Pt.U, Pt.locs, Pt.cells, Pt.slots] at X321_ l321_ y321_ z321_ st321_ hQ321_
        subst l321_ y321_ z321_
        obtain ⟨rk, rfl, Nq321_, hh321_, hrk⟩ := hQ321_
        have N321_ := Fr.app Nl Nq321_
        refine own_viaH (fun _ kq => st321_ _ kq) ?_
        show own_FinH _ _ _ _ _ _ _ _ _ T321_ (mkF m 465 #[.val (.int p1), .val (.int p2), .val (.int p3), .val (.int p4), .val (.int p5), .val (.ref a196_), .val (.int nn), .val (.int po), .val (.int cc), .val (.int fl), .val (.ref b197_), .unset, .unset, .unset] [(.int rk), (.int (16 : Int32)), (.ref b197_)])
        obtain ⟨c322_, Ar322_, q322_, S322_, M322_, H322_, G322_⟩ := (id Vl)
        have hin322_ : ¬ ((16 : Int32) < 0 ∨ c322_.slots.size ≤ ((16 : Int32)).toNatClampNeg) := inb_of S322_ (own_inb (i := 16) rfl hN hlt hn10)
        obtain ⟨T322_, h322_, X322_, e322_, W322_, st322_⟩ := stC X321_ hx hZ196_ hh321_ Ar322_ (j := (16 : Int32)) hin322_ (g := (mkF m 465 #[.val (.int p1), .val (.int p2), .val (.int p3), .val (.int p4), .val (.int p5), .val (.ref a196_), .val (.int nn), .val (.int po), .val (.int cc), .val (.int fl), .val (.ref b197_), .unset, .unset, .unset] [(.int rk), (.int (16 : Int32)), (.ref b197_)])) rfl rfl (hb hby at_465)
        have V322_ := Arv.set Ar322_ q322_ S322_ M322_ H322_ G322_ (fits_nar_char _) W322_ 16 (own_clamp (i := 16) rfl (by decide)) (by rw [List.length_map, hxl]; exact hlt)
        have U322_ : Arv Z h322_ b197_ k197_ .char nn (((xs.map Value.int)).set 16 (.int rk)) (.int 0) := by
          have hq := V322_
          rw [show nar .char rk = rk from (own_narch hrk)] at hq
          exact hq
        have N322_ := Fr.snoc X322_ N321_ g200_
        refine own_viaH (fun _ kq => st322_ _ kq) ?_
        show own_FinH _ _ _ _ _ _ _ _ _ T322_ (mkF m 466 #[.val (.int p1), .val (.int p2), .val (.int p3), .val (.int p4), .val (.int p5), .val (.ref a196_), .val (.int nn), .val (.int po), .val (.int cc), .val (.int fl), .val (.ref b197_), .unset, .unset, .unset] [])
        have Vz : Arv Z h322_ b197_ k197_ .char nn ((xs.set 16 rk).map Value.int) (.int 0) := by rw [List.map_set]; exact U322_
        have sf324_ : Safe Z own_EL T196_.vm hl b197_ := Safe.arv hZ196_.alike Vl (by decide)
        have C323_ := Cl.trans (CHr.wr W322_ sf324_ Cl.1)
        have H323_ := C323_.1
        exact s466 (xs.set 16 rk) T322_ _ X322_ N322_ _ e322_ (Nat.le_trans hkl (Keep.of_wr W322_).1) C323_ (Ol.wr W322_ g200_) (Ex.wr W322_) (Fx.other W322_ (Or.inl q198_)) (Fy.other W322_ (Or.inl q198_)) (Vx.other W322_ q199_) Vz (by rw [List.length_set]; exact hxl) (own_chs_set hxs hrk)
      · refine own_viaH (fun _ kq => XS.icmpYes Xl.here hx rfl (pc0 := 445) (pc' := 466) rfl (hb hby at_445) rfl (flt hg).2.2.2 (by decide) (by decide) kq) ?_
        show own_FinH _ _ _ _ _ _ _ _ _ Tl (mkF m 466 #[.val (.int p1), .val (.int p2), .val (.int p3), .val (.int p4), .val (.int p5), .val (.ref a196_), .val (.int nn), .val (.int po), .val (.int cc), .val (.int fl), .val (.ref b197_), .unset, .unset, .unset] [])
        exact s466 xs Tl _ Xl Nl _ el hkl Cl Ol Ex Fx Fy Vx Vl (by assumption) (by assumption)
     have s416 : ∀ (xs : List Int32) (Tl : State) (locl : List Loc) (Xl : Stand p l e room_1 (s.setVm T196_.vm) m #[(.int p1), (.int p2), (.int p3), (.int p4), (.int p5)] below meth cde Tl locl (0 + 2 + 1) (0 + (72 + 4) + 19)) (Nl : Fr n0 locl) (hl : Heap) (el : Tl.heap = hl) (hkl : h197_.size ≤ hl.size) (Cl : CHr Z own_EL s.vm h0 T196_.vm hl) (Ol : Old Z n0 hl) (Ex : Exa Z hl a196_ "java/lang/String") (Fx : Fld Z hl a196_ "java/lang/String" "coder" "B" (.int (0 : Int32))) (Fy : Fld Z hl a196_ "java/lang/String" "value" "[B" (.ref b196_)) (Vx : Arv Z hl b196_ kb196_ .byte (18 : Int32) own_v2 (.int 0)) (Vl : Arv Z hl b197_ k197_ .char nn (xs.map Value.int) (.int 0)) (hxl : xs.length = n) (hxs : own_chs xs), own_FinH p e s below Z own_EL (own_Q_law Z p1 p2 p3 p4 p5 cz fm va kv bt ct sb tb ktb sc tc ktc em h0 n0) room_1.cells room_1.slots Tl (mkF m 416 #[.val (.int p1), .val (.int p2), .val (.int p3), .val (.int p4), .val (.int p5), .val (.ref a196_), .val (.int nn), .val (.int po), .val (.int cc), .val (.int fl), .val (.ref b197_), .unset, .unset, .unset] []) := by
      intro xs Tl locl Xl Nl hl el hkl Cl Ol Ex Fx Fy Vx Vl hxl hxs
      have Zl : n0 ≤ hl.size := Nat.le_trans Z0 Cl.2.1
      refine own_viaH (fun _ kq => XS.iload Xl.here hx rfl (hb hby at_416) rfl kq) ?_
      refine own_viaH (fun _ kq => XS.bipush Xl.here hx rfl (hb hby at_418) kq) ?_
      rcases Classical.em ((15 : Int32) < nn) with hg | hg
      · refine own_viaH (fun _ kq => XS.icmpNo Xl.here hx rfl (hb hby at_420) rfl (tlt hg).2.2.2 kq) ?_
        show own_FinH _ _ _ _ _ _ _ _ _ Tl (mkF m 423 #[.val (.int p1), .val (.int p2), .val (.int p3), .val (.int p4), .val (.int p5), .val (.ref a196_), .val (.int nn), .val (.int po), .val (.int cc), .val (.int fl), .val (.ref b197_), .unset, .unset, .unset] [])
        have hlt : 15 < n := own_kn (i := 15) rfl hN (by decide) hn4 hg
        refine own_viaH (fun _ kq => XS.aload Xl.here hx rfl (hb hby at_423) rfl rfl kq) ?_
        refine own_viaH (fun _ kq => XS.bipush Xl.here hx rfl (hb hby at_425) kq) ?_
        refine own_viaH (fun _ kq => XS.aload Xl.here hx rfl (hb hby at_427) rfl rfl kq) ?_
        refine own_viaH (fun _ kq => XS.bipush Xl.here hx rfl (hb hby at_429) kq) ?_
        refine own_viaH (fun _ kq => XS.iload Xl.here hx rfl (hb hby at_431) rfl kq) ?_
        refine own_viaH (fun _ kq => XS.iload Xl.here hx rfl (hb hby at_433) rfl kq) ?_
        show own_FinH _ _ _ _ _ _ _ _ _ Tl (mkF m 435 #[.val (.int p1), .val (.int p2), .val (.int p3), .val (.int p4), .val (.int p5), .val (.ref a196_), .val (.int nn), .val (.int po), .val (.int cc), .val (.int fl), .val (.ref b197_), .unset, .unset, .unset] [(.int cc), (.int po), (.int (15 : Int32)), (.ref a196_), (.int (15 : Int32)), (.ref b197_)])
        refine own_viaH (fun _ kq => XS.iload Xl.here hx rfl (hb hby at_435) rfl kq) ?_
        show own_FinH _ _ _ _ _ _ _ _ _ Tl (mkF m 437 #[.val (.int p1), .val (.int p2), .val (.int p3), .val (.int p4), .val (.int p5), .val (.ref a196_), .val (.int nn), .val (.int po), .val (.int cc), .val (.int fl), .val (.ref b197_), .unset, .unset, .unset] [(.int fl), (.int cc), (.int po), (.int (15 : Int32)), (.ref a196_), (.int (15 : Int32)), (.ref b197_)])
        obtain ⟨_, _, ⟨T325_, L325_, k325_, n325_⟩, -, X325_, ⟨Lc325_, hQ325_, l325_, y325_, z325_⟩, st325_⟩ := Jvm.LawKit.callS Xl hx (y := (⟨"com/example/lichen/lichen/webhook/EventTypeOfPinLaw", "pick", "(Ljava/lang/String;IICZ)C"⟩ : MethodName)) hown196_ (mvT hZ196_ (own_w hw 11 rfl)) (mvT hZ196_ (own_w hw 12 rfl)) (mvT hZ196_ (own_w hw 13 rfl)) (mvT hZ196_ (own_w hw 14 rfl)) (by decide) (backOf (W := 2) (own_rm_pick l Z a0 hw [] a196_ cz b196_ kb196_ (18 : Int32) own_v2 own_t2 fm (15 : Int32) 15 po cc fl hl n0 Zl Ol S1 P5 S2 r_fm Ex Fx Fy Vx own_lita2 (by decide) own_litr2 rfl (by decide) hcc) hZ196_ (own_w hw 14 rfl) (own_w hw 13 rfl) (by decide) (by decide)) (g := (mkF m 437 #[.val (.int p1), .val (.int p2), .val (.int p3), .val (.int p4), .val (.int p5), .val (.ref a196_), .val (.int nn), .val (.int po), .val (.int cc), .val (.int fl), .val (.ref b197_), .unset, .unset, .unset] [(.int fl), (.int cc), (.int po), (.int (15 : Int32)), (.ref a196_), (.int (15 : Int32)), (.ref b197_)])) rfl (by rw [hml]; rfl) (argsL := [(.ref a196_), (.int (15 : Int32)), (.int po), (.int cc), (.int fl)]) (rest := [(.int (15 : Int32)), (.ref b197_)]) (lenOf own_pd24 rfl) rfl (by show 2 * 0 + _ ≤ _; exact Nat.le_of_eq rfl) (hb hby at_437) (fun _ _ => ⟨rfl, el, (by decide : (0 + 2 + 1) + 0 ≤ _), (by decide : (0 + (72 + 4) + 19) + 0 ≤ _)⟩)
        dsimp only [Pt.U, Pt.locs, Pt.cells, Pt.slots] at X325_ l325_ y325_ z325_ st325_ hQ325_
        subst l325_ y325_ z325_
        obtain ⟨rk, rfl, Nq325_, hh325_, hrk⟩ := hQ325_
        have N325_ := Fr.app Nl Nq325_
        refine own_viaH (fun _ kq => st325_ _ kq) ?_
        show own_FinH _ _ _ _ _ _ _ _ _ T325_ (mkF m 440 #[.val (.int p1), .val (.int p2), .val (.int p3), .val (.int p4), .val (.int p5), .val (.ref a196_), .val (.int nn), .val (.int po), .val (.int cc), .val (.int fl), .val (.ref b197_), .unset, .unset, .unset] [(.int rk), (.int (15 : Int32)), (.ref b197_)])
        obtain ⟨c326_, Ar326_, q326_, S326_, M326_, H326_, G326_⟩ := (id Vl)
        have hin326_ : ¬ ((15 : Int32) < 0 ∨ c326_.slots.size ≤ ((15 : Int32)).toNatClampNeg) := inb_of S326_ (own_inb (i := 15) rfl hN hlt hn10)
        obtain ⟨T326_, h326_, X326_, e326_, W326_, st326_⟩ := stC X325_ hx hZ196_ hh325_ Ar326_ (j := (15 : Int32)) hin326_ (g := (mkF m 440 #[.val (.int p1), .val (.int p2), .val (.int p3), .val (.int p4), .val (.int p5), .val (.ref a196_), .val (.int nn), .val (.int po), .val (.int cc), .val (.int fl), .val (.ref b197_), .unset, .unset, .unset] [(.int rk), (.int (15 : Int32)), (.ref b197_)])) rfl rfl (hb hby at_440)
        have V326_ := Arv.set Ar326_ q326_ S326_ M326_ H326_ G326_ (fits_nar_char _) W326_ 15 (own_clamp (i := 15) rfl (by decide)) (by rw [List.length_map, hxl]; exact hlt)
        have U326_ : Arv Z h326_ b197_ k197_ .char nn (((xs.map Value.int)).set 15 (.int rk)) (.int 0) := by
          have hq := V326_
          rw [show nar .char rk = rk from (own_narch hrk)] at hq
          exact hq
        have N326_ := Fr.snoc X326_ N325_ g200_
        refine own_viaH (fun _ kq => st326_ _ kq) ?_
        show own_FinH _ _ _ _ _ _ _ _ _ T326_ (mkF m 441 #[.val (.int p1), .val (.int p2), .val (.int p3), .val (.int p4), .val (.int p5), .val (.ref a196_), .val (.int nn), .val (.int po), .val (.int cc), .val (.int fl), .val (.ref b197_), .unset, .unset, .unset] [])
        have Vz : Arv Z h326_ b197_ k197_ .char nn ((xs.set 15 rk).map Value.int) (.int 0) := by rw [List.map_set]; exact U326_
        have sf328_ : Safe Z own_EL T196_.vm hl b197_ := Safe.arv hZ196_.alike Vl (by decide)
        have C327_ := Cl.trans (CHr.wr W326_ sf328_ Cl.1)
        have H327_ := C327_.1
        exact s441 (xs.set 15 rk) T326_ _ X326_ N326_ _ e326_ (Nat.le_trans hkl (Keep.of_wr W326_).1) C327_ (Ol.wr W326_ g200_) (Ex.wr W326_) (Fx.other W326_ (Or.inl q198_)) (Fy.other W326_ (Or.inl q198_)) (Vx.other W326_ q199_) Vz (by rw [List.length_set]; exact hxl) (own_chs_set hxs hrk)
      · refine own_viaH (fun _ kq => XS.icmpYes Xl.here hx rfl (pc0 := 420) (pc' := 441) rfl (hb hby at_420) rfl (flt hg).2.2.2 (by decide) (by decide) kq) ?_
        show own_FinH _ _ _ _ _ _ _ _ _ Tl (mkF m 441 #[.val (.int p1), .val (.int p2), .val (.int p3), .val (.int p4), .val (.int p5), .val (.ref a196_), .val (.int nn), .val (.int po), .val (.int cc), .val (.int fl), .val (.ref b197_), .unset, .unset, .unset] [])
        exact s441 xs Tl _ Xl Nl _ el hkl Cl Ol Ex Fx Fy Vx Vl (by assumption) (by assumption)
     have s391 : ∀ (xs : List Int32) (Tl : State) (locl : List Loc) (Xl : Stand p l e room_1 (s.setVm T196_.vm) m #[(.int p1), (.int p2), (.int p3), (.int p4), (.int p5)] below meth cde Tl locl (0 + 2 + 1) (0 + (72 + 4) + 19)) (Nl : Fr n0 locl) (hl : Heap) (el : Tl.heap = hl) (hkl : h197_.size ≤ hl.size) (Cl : CHr Z own_EL s.vm h0 T196_.vm hl) (Ol : Old Z n0 hl) (Ex : Exa Z hl a196_ "java/lang/String") (Fx : Fld Z hl a196_ "java/lang/String" "coder" "B" (.int (0 : Int32))) (Fy : Fld Z hl a196_ "java/lang/String" "value" "[B" (.ref b196_)) (Vx : Arv Z hl b196_ kb196_ .byte (18 : Int32) own_v2 (.int 0)) (Vl : Arv Z hl b197_ k197_ .char nn (xs.map Value.int) (.int 0)) (hxl : xs.length = n) (hxs : own_chs xs), own_FinH p e s below Z own_EL (own_Q_law Z p1 p2 p3 p4 p5 cz fm va kv bt ct sb tb ktb sc tc ktc em h0 n0) room_1.cells room_1.slots Tl (mkF m 391 #[.val (.int p1), .val (.int p2), .val (.int p3), .val (.int p4), .val (.int p5), .val (.ref a196_), .val (.int nn), .val (.int po), .val (.int cc), .val (.int fl), .val (.ref b197_), .unset, .unset, .unset] []) := by
      intro xs Tl locl Xl Nl hl el hkl Cl Ol Ex Fx Fy Vx Vl hxl hxs
      have Zl : n0 ≤ hl.size := Nat.le_trans Z0 Cl.2.1
      refine own_viaH (fun _ kq => XS.iload Xl.here hx rfl (hb hby at_391) rfl kq) ?_
      refine own_viaH (fun _ kq => XS.bipush Xl.here hx rfl (hb hby at_393) kq) ?_
      rcases Classical.em ((14 : Int32) < nn) with hg | hg
      · refine own_viaH (fun _ kq => XS.icmpNo Xl.here hx rfl (hb hby at_395) rfl (tlt hg).2.2.2 kq) ?_
        show own_FinH _ _ _ _ _ _ _ _ _ Tl (mkF m 398 #[.val (.int p1), .val (.int p2), .val (.int p3), .val (.int p4), .val (.int p5), .val (.ref a196_), .val (.int nn), .val (.int po), .val (.int cc), .val (.int fl), .val (.ref b197_), .unset, .unset, .unset] [])
        have hlt : 14 < n := own_kn (i := 14) rfl hN (by decide) hn4 hg
        refine own_viaH (fun _ kq => XS.aload Xl.here hx rfl (hb hby at_398) rfl rfl kq) ?_
        refine own_viaH (fun _ kq => XS.bipush Xl.here hx rfl (hb hby at_400) kq) ?_
        refine own_viaH (fun _ kq => XS.aload Xl.here hx rfl (hb hby at_402) rfl rfl kq) ?_
        refine own_viaH (fun _ kq => XS.bipush Xl.here hx rfl (hb hby at_404) kq) ?_
        refine own_viaH (fun _ kq => XS.iload Xl.here hx rfl (hb hby at_406) rfl kq) ?_
        refine own_viaH (fun _ kq => XS.iload Xl.here hx rfl (hb hby at_408) rfl kq) ?_
        show own_FinH _ _ _ _ _ _ _ _ _ Tl (mkF m 410 #[.val (.int p1), .val (.int p2), .val (.int p3), .val (.int p4), .val (.int p5), .val (.ref a196_), .val (.int nn), .val (.int po), .val (.int cc), .val (.int fl), .val (.ref b197_), .unset, .unset, .unset] [(.int cc), (.int po), (.int (14 : Int32)), (.ref a196_), (.int (14 : Int32)), (.ref b197_)])
        refine own_viaH (fun _ kq => XS.iload Xl.here hx rfl (hb hby at_410) rfl kq) ?_
        show own_FinH _ _ _ _ _ _ _ _ _ Tl (mkF m 412 #[.val (.int p1), .val (.int p2), .val (.int p3), .val (.int p4), .val (.int p5), .val (.ref a196_), .val (.int nn), .val (.int po), .val (.int cc), .val (.int fl), .val (.ref b197_), .unset, .unset, .unset] [(.int fl), (.int cc), (.int po), (.int (14 : Int32)), (.ref a196_), (.int (14 : Int32)), (.ref b197_)])
        obtain ⟨_, _, ⟨T329_, L329_, k329_, n329_⟩, -, X329_, ⟨Lc329_, hQ329_, l329_, y329_, z329_⟩, st329_⟩ := Jvm.LawKit.callS Xl hx (y := (⟨"com/example/lichen/lichen/webhook/EventTypeOfPinLaw", "pick", "(Ljava/lang/String;IICZ)C"⟩ : MethodName)) hown196_ (mvT hZ196_ (own_w hw 11 rfl)) (mvT hZ196_ (own_w hw 12 rfl)) (mvT hZ196_ (own_w hw 13 rfl)) (mvT hZ196_ (own_w hw 14 rfl)) (by decide) (backOf (W := 2) (own_rm_pick l Z a0 hw [] a196_ cz b196_ kb196_ (18 : Int32) own_v2 own_t2 fm (14 : Int32) 14 po cc fl hl n0 Zl Ol S1 P5 S2 r_fm Ex Fx Fy Vx own_lita2 (by decide) own_litr2 rfl (by decide) hcc) hZ196_ (own_w hw 14 rfl) (own_w hw 13 rfl) (by decide) (by decide)) (g := (mkF m 412 #[.val (.int p1), .val (.int p2), .val (.int p3), .val (.int p4), .val (.int p5), .val (.ref a196_), .val (.int nn), .val (.int po), .val (.int cc), .val (.int fl), .val (.ref b197_), .unset, .unset, .unset] [(.int fl), (.int cc), (.int po), (.int (14 : Int32)), (.ref a196_), (.int (14 : Int32)), (.ref b197_)])) rfl (by rw [hml]; rfl) (argsL := [(.ref a196_), (.int (14 : Int32)), (.int po), (.int cc), (.int fl)]) (rest := [(.int (14 : Int32)), (.ref b197_)]) (lenOf own_pd24 rfl) rfl (by show 2 * 0 + _ ≤ _; exact Nat.le_of_eq rfl) (hb hby at_412) (fun _ _ => ⟨rfl, el, (by decide : (0 + 2 + 1) + 0 ≤ _), (by decide : (0 + (72 + 4) + 19) + 0 ≤ _)⟩)
        dsimp only [Pt.U, Pt.locs, Pt.cells, Pt.slots] at X329_ l329_ y329_ z329_ st329_ hQ329_
        subst l329_ y329_ z329_
        obtain ⟨rk, rfl, Nq329_, hh329_, hrk⟩ := hQ329_
        have N329_ := Fr.app Nl Nq329_
        refine own_viaH (fun _ kq => st329_ _ kq) ?_
        show own_FinH _ _ _ _ _ _ _ _ _ T329_ (mkF m 415 #[.val (.int p1), .val (.int p2), .val (.int p3), .val (.int p4), .val (.int p5), .val (.ref a196_), .val (.int nn), .val (.int po), .val (.int cc), .val (.int fl), .val (.ref b197_), .unset, .unset, .unset] [(.int rk), (.int (14 : Int32)), (.ref b197_)])
        obtain ⟨c330_, Ar330_, q330_, S330_, M330_, H330_, G330_⟩ := (id Vl)
        have hin330_ : ¬ ((14 : Int32) < 0 ∨ c330_.slots.size ≤ ((14 : Int32)).toNatClampNeg) := inb_of S330_ (own_inb (i := 14) rfl hN hlt hn10)
        obtain ⟨T330_, h330_, X330_, e330_, W330_, st330_⟩ := stC X329_ hx hZ196_ hh329_ Ar330_ (j := (14 : Int32)) hin330_ (g := (mkF m 415 #[.val (.int p1), .val (.int p2), .val (.int p3), .val (.int p4), .val (.int p5), .val (.ref a196_), .val (.int nn), .val (.int po), .val (.int cc), .val (.int fl), .val (.ref b197_), .unset, .unset, .unset] [(.int rk), (.int (14 : Int32)), (.ref b197_)])) rfl rfl (hb hby at_415)
        have V330_ := Arv.set Ar330_ q330_ S330_ M330_ H330_ G330_ (fits_nar_char _) W330_ 14 (own_clamp (i := 14) rfl (by decide)) (by rw [List.length_map, hxl]; exact hlt)
        have U330_ : Arv Z h330_ b197_ k197_ .char nn (((xs.map Value.int)).set 14 (.int rk)) (.int 0) := by
          have hq := V330_
          rw [show nar .char rk = rk from (own_narch hrk)] at hq
          exact hq
        have N330_ := Fr.snoc X330_ N329_ g200_
        refine own_viaH (fun _ kq => st330_ _ kq) ?_
        show own_FinH _ _ _ _ _ _ _ _ _ T330_ (mkF m 416 #[.val (.int p1), .val (.int p2), .val (.int p3), .val (.int p4), .val (.int p5), .val (.ref a196_), .val (.int nn), .val (.int po), .val (.int cc), .val (.int fl), .val (.ref b197_), .unset, .unset, .unset] [])
        have Vz : Arv Z h330_ b197_ k197_ .char nn ((xs.set 14 rk).map Value.int) (.int 0) := by rw [List.map_set]; exact U330_
        have sf332_ : Safe Z own_EL T196_.vm hl b197_ := Safe.arv hZ196_.alike Vl (by decide)
        have C331_ := Cl.trans (CHr.wr W330_ sf332_ Cl.1)
        have H331_ := C331_.1
        exact s416 (xs.set 14 rk) T330_ _ X330_ N330_ _ e330_ (Nat.le_trans hkl (Keep.of_wr W330_).1) C331_ (Ol.wr W330_ g200_) (Ex.wr W330_) (Fx.other W330_ (Or.inl q198_)) (Fy.other W330_ (Or.inl q198_)) (Vx.other W330_ q199_) Vz (by rw [List.length_set]; exact hxl) (own_chs_set hxs hrk)
      · refine own_viaH (fun _ kq => XS.icmpYes Xl.here hx rfl (pc0 := 395) (pc' := 416) rfl (hb hby at_395) rfl (flt hg).2.2.2 (by decide) (by decide) kq) ?_
        show own_FinH _ _ _ _ _ _ _ _ _ Tl (mkF m 416 #[.val (.int p1), .val (.int p2), .val (.int p3), .val (.int p4), .val (.int p5), .val (.ref a196_), .val (.int nn), .val (.int po), .val (.int cc), .val (.int fl), .val (.ref b197_), .unset, .unset, .unset] [])
        exact s416 xs Tl _ Xl Nl _ el hkl Cl Ol Ex Fx Fy Vx Vl (by assumption) (by assumption)
     have s366 : ∀ (xs : List Int32) (Tl : State) (locl : List Loc) (Xl : Stand p l e room_1 (s.setVm T196_.vm) m #[(.int p1), (.int p2), (.int p3), (.int p4), (.int p5)] below meth cde Tl locl (0 + 2 + 1) (0 + (72 + 4) + 19)) (Nl : Fr n0 locl) (hl : Heap) (el : Tl.heap = hl) (hkl : h197_.size ≤ hl.size) (Cl : CHr Z own_EL s.vm h0 T196_.vm hl) (Ol : Old Z n0 hl) (Ex : Exa Z hl a196_ "java/lang/String") (Fx : Fld Z hl a196_ "java/lang/String" "coder" "B" (.int (0 : Int32))) (Fy : Fld Z hl a196_ "java/lang/String" "value" "[B" (.ref b196_)) (Vx : Arv Z hl b196_ kb196_ .byte (18 : Int32) own_v2 (.int 0)) (Vl : Arv Z hl b197_ k197_ .char nn (xs.map Value.int) (.int 0)) (hxl : xs.length = n) (hxs : own_chs xs), own_FinH p e s below Z own_EL (own_Q_law Z p1 p2 p3 p4 p5 cz fm va kv bt ct sb tb ktb sc tc ktc em h0 n0) room_1.cells room_1.slots Tl (mkF m 366 #[.val (.int p1), .val (.int p2), .val (.int p3), .val (.int p4), .val (.int p5), .val (.ref a196_), .val (.int nn), .val (.int po), .val (.int cc), .val (.int fl), .val (.ref b197_), .unset, .unset, .unset] []) := by
      intro xs Tl locl Xl Nl hl el hkl Cl Ol Ex Fx Fy Vx Vl hxl hxs
      have Zl : n0 ≤ hl.size := Nat.le_trans Z0 Cl.2.1
      refine own_viaH (fun _ kq => XS.iload Xl.here hx rfl (hb hby at_366) rfl kq) ?_
      refine own_viaH (fun _ kq => XS.bipush Xl.here hx rfl (hb hby at_368) kq) ?_
      rcases Classical.em ((13 : Int32) < nn) with hg | hg
      · refine own_viaH (fun _ kq => XS.icmpNo Xl.here hx rfl (hb hby at_370) rfl (tlt hg).2.2.2 kq) ?_
        show own_FinH _ _ _ _ _ _ _ _ _ Tl (mkF m 373 #[.val (.int p1), .val (.int p2), .val (.int p3), .val (.int p4), .val (.int p5), .val (.ref a196_), .val (.int nn), .val (.int po), .val (.int cc), .val (.int fl), .val (.ref b197_), .unset, .unset, .unset] [])
        have hlt : 13 < n := own_kn (i := 13) rfl hN (by decide) hn4 hg
        refine own_viaH (fun _ kq => XS.aload Xl.here hx rfl (hb hby at_373) rfl rfl kq) ?_
        refine own_viaH (fun _ kq => XS.bipush Xl.here hx rfl (hb hby at_375) kq) ?_
        refine own_viaH (fun _ kq => XS.aload Xl.here hx rfl (hb hby at_377) rfl rfl kq) ?_
        refine own_viaH (fun _ kq => XS.bipush Xl.here hx rfl (hb hby at_379) kq) ?_
        refine own_viaH (fun _ kq => XS.iload Xl.here hx rfl (hb hby at_381) rfl kq) ?_
        refine own_viaH (fun _ kq => XS.iload Xl.here hx rfl (hb hby at_383) rfl kq) ?_
        show own_FinH _ _ _ _ _ _ _ _ _ Tl (mkF m 385 #[.val (.int p1), .val (.int p2), .val (.int p3), .val (.int p4), .val (.int p5), .val (.ref a196_), .val (.int nn), .val (.int po), .val (.int cc), .val (.int fl), .val (.ref b197_), .unset, .unset, .unset] [(.int cc), (.int po), (.int (13 : Int32)), (.ref a196_), (.int (13 : Int32)), (.ref b197_)])
        refine own_viaH (fun _ kq => XS.iload Xl.here hx rfl (hb hby at_385) rfl kq) ?_
        show own_FinH _ _ _ _ _ _ _ _ _ Tl (mkF m 387 #[.val (.int p1), .val (.int p2), .val (.int p3), .val (.int p4), .val (.int p5), .val (.ref a196_), .val (.int nn), .val (.int po), .val (.int cc), .val (.int fl), .val (.ref b197_), .unset, .unset, .unset] [(.int fl), (.int cc), (.int po), (.int (13 : Int32)), (.ref a196_), (.int (13 : Int32)), (.ref b197_)])
        obtain ⟨_, _, ⟨T333_, L333_, k333_, n333_⟩, -, X333_, ⟨Lc333_, hQ333_, l333_, y333_, z333_⟩, st333_⟩ := Jvm.LawKit.callS Xl hx (y := (⟨"com/example/lichen/lichen/webhook/EventTypeOfPinLaw", "pick", "(Ljava/lang/String;IICZ)C"⟩ : MethodName)) hown196_ (mvT hZ196_ (own_w hw 11 rfl)) (mvT hZ196_ (own_w hw 12 rfl)) (mvT hZ196_ (own_w hw 13 rfl)) (mvT hZ196_ (own_w hw 14 rfl)) (by decide) (backOf (W := 2) (own_rm_pick l Z a0 hw [] a196_ cz b196_ kb196_ (18 : Int32) own_v2 own_t2 fm (13 : Int32) 13 po cc fl hl n0 Zl Ol S1 P5 S2 r_fm Ex Fx Fy Vx own_lita2 (by decide) own_litr2 rfl (by decide) hcc) hZ196_ (own_w hw 14 rfl) (own_w hw 13 rfl) (by decide) (by decide)) (g := (mkF m 387 #[.val (.int p1), .val (.int p2), .val (.int p3), .val (.int p4), .val (.int p5), .val (.ref a196_), .val (.int nn), .val (.int po), .val (.int cc), .val (.int fl), .val (.ref b197_), .unset, .unset, .unset] [(.int fl), (.int cc), (.int po), (.int (13 : Int32)), (.ref a196_), (.int (13 : Int32)), (.ref b197_)])) rfl (by rw [hml]; rfl) (argsL := [(.ref a196_), (.int (13 : Int32)), (.int po), (.int cc), (.int fl)]) (rest := [(.int (13 : Int32)), (.ref b197_)]) (lenOf own_pd24 rfl) rfl (by show 2 * 0 + _ ≤ _; exact Nat.le_of_eq rfl) (hb hby at_387) (fun _ _ => ⟨rfl, el, (by decide : (0 + 2 + 1) + 0 ≤ _), (by decide : (0 + (72 + 4) + 19) + 0 ≤ _)⟩)
        dsimp only [Pt.U, Pt.locs, Pt.cells, Pt.slots] at X333_ l333_ y333_ z333_ st333_ hQ333_
        subst l333_ y333_ z333_
        obtain ⟨rk, rfl, Nq333_, hh333_, hrk⟩ := hQ333_
        have N333_ := Fr.app Nl Nq333_
        refine own_viaH (fun _ kq => st333_ _ kq) ?_
        show own_FinH _ _ _ _ _ _ _ _ _ T333_ (mkF m 390 #[.val (.int p1), .val (.int p2), .val (.int p3), .val (.int p4), .val (.int p5), .val (.ref a196_), .val (.int nn), .val (.int po), .val (.int cc), .val (.int fl), .val (.ref b197_), .unset, .unset, .unset] [(.int rk), (.int (13 : Int32)), (.ref b197_)])
        obtain ⟨c334_, Ar334_, q334_, S334_, M334_, H334_, G334_⟩ := (id Vl)
        have hin334_ : ¬ ((13 : Int32) < 0 ∨ c334_.slots.size ≤ ((13 : Int32)).toNatClampNeg) := inb_of S334_ (own_inb (i := 13) rfl hN hlt hn10)
        obtain ⟨T334_, h334_, X334_, e334_, W334_, st334_⟩ := stC X333_ hx hZ196_ hh333_ Ar334_ (j := (13 : Int32)) hin334_ (g := (mkF m 390 #[.val (.int p1), .val (.int p2), .val (.int p3), .val (.int p4), .val (.int p5), .val (.ref a196_), .val (.int nn), .val (.int po), .val (.int cc), .val (.int fl), .val (.ref b197_), .unset, .unset, .unset] [(.int rk), (.int (13 : Int32)), (.ref b197_)])) rfl rfl (hb hby at_390)
        have V334_ := Arv.set Ar334_ q334_ S334_ M334_ H334_ G334_ (fits_nar_char _) W334_ 13 (own_clamp (i := 13) rfl (by decide)) (by rw [List.length_map, hxl]; exact hlt)
        have U334_ : Arv Z h334_ b197_ k197_ .char nn (((xs.map Value.int)).set 13 (.int rk)) (.int 0) := by
          have hq := V334_
          rw [show nar .char rk = rk from (own_narch hrk)] at hq
          exact hq
        have N334_ := Fr.snoc X334_ N333_ g200_
        refine own_viaH (fun _ kq => st334_ _ kq) ?_
        show own_FinH _ _ _ _ _ _ _ _ _ T334_ (mkF m 391 #[.val (.int p1), .val (.int p2), .val (.int p3), .val (.int p4), .val (.int p5), .val (.ref a196_), .val (.int nn), .val (.int po), .val (.int cc), .val (.int fl), .val (.ref b197_), .unset, .unset, .unset] [])
        have Vz : Arv Z h334_ b197_ k197_ .char nn ((xs.set 13 rk).map Value.int) (.int 0) := by rw [List.map_set]; exact U334_
        have sf336_ : Safe Z own_EL T196_.vm hl b197_ := Safe.arv hZ196_.alike Vl (by decide)
        have C335_ := Cl.trans (CHr.wr W334_ sf336_ Cl.1)
        have H335_ := C335_.1
        exact s391 (xs.set 13 rk) T334_ _ X334_ N334_ _ e334_ (Nat.le_trans hkl (Keep.of_wr W334_).1) C335_ (Ol.wr W334_ g200_) (Ex.wr W334_) (Fx.other W334_ (Or.inl q198_)) (Fy.other W334_ (Or.inl q198_)) (Vx.other W334_ q199_) Vz (by rw [List.length_set]; exact hxl) (own_chs_set hxs hrk)
      · refine own_viaH (fun _ kq => XS.icmpYes Xl.here hx rfl (pc0 := 370) (pc' := 391) rfl (hb hby at_370) rfl (flt hg).2.2.2 (by decide) (by decide) kq) ?_
        show own_FinH _ _ _ _ _ _ _ _ _ Tl (mkF m 391 #[.val (.int p1), .val (.int p2), .val (.int p3), .val (.int p4), .val (.int p5), .val (.ref a196_), .val (.int nn), .val (.int po), .val (.int cc), .val (.int fl), .val (.ref b197_), .unset, .unset, .unset] [])
        exact s391 xs Tl _ Xl Nl _ el hkl Cl Ol Ex Fx Fy Vx Vl (by assumption) (by assumption)
     have s341 : ∀ (xs : List Int32) (Tl : State) (locl : List Loc) (Xl : Stand p l e room_1 (s.setVm T196_.vm) m #[(.int p1), (.int p2), (.int p3), (.int p4), (.int p5)] below meth cde Tl locl (0 + 2 + 1) (0 + (72 + 4) + 19)) (Nl : Fr n0 locl) (hl : Heap) (el : Tl.heap = hl) (hkl : h197_.size ≤ hl.size) (Cl : CHr Z own_EL s.vm h0 T196_.vm hl) (Ol : Old Z n0 hl) (Ex : Exa Z hl a196_ "java/lang/String") (Fx : Fld Z hl a196_ "java/lang/String" "coder" "B" (.int (0 : Int32))) (Fy : Fld Z hl a196_ "java/lang/String" "value" "[B" (.ref b196_)) (Vx : Arv Z hl b196_ kb196_ .byte (18 : Int32) own_v2 (.int 0)) (Vl : Arv Z hl b197_ k197_ .char nn (xs.map Value.int) (.int 0)) (hxl : xs.length = n) (hxs : own_chs xs), own_FinH p e s below Z own_EL (own_Q_law Z p1 p2 p3 p4 p5 cz fm va kv bt ct sb tb ktb sc tc ktc em h0 n0) room_1.cells room_1.slots Tl (mkF m 341 #[.val (.int p1), .val (.int p2), .val (.int p3), .val (.int p4), .val (.int p5), .val (.ref a196_), .val (.int nn), .val (.int po), .val (.int cc), .val (.int fl), .val (.ref b197_), .unset, .unset, .unset] []) := by
      intro xs Tl locl Xl Nl hl el hkl Cl Ol Ex Fx Fy Vx Vl hxl hxs
      have Zl : n0 ≤ hl.size := Nat.le_trans Z0 Cl.2.1
      refine own_viaH (fun _ kq => XS.iload Xl.here hx rfl (hb hby at_341) rfl kq) ?_
      refine own_viaH (fun _ kq => XS.bipush Xl.here hx rfl (hb hby at_343) kq) ?_
      rcases Classical.em ((12 : Int32) < nn) with hg | hg
      · refine own_viaH (fun _ kq => XS.icmpNo Xl.here hx rfl (hb hby at_345) rfl (tlt hg).2.2.2 kq) ?_
        show own_FinH _ _ _ _ _ _ _ _ _ Tl (mkF m 348 #[.val (.int p1), .val (.int p2), .val (.int p3), .val (.int p4), .val (.int p5), .val (.ref a196_), .val (.int nn), .val (.int po), .val (.int cc), .val (.int fl), .val (.ref b197_), .unset, .unset, .unset] [])
        have hlt : 12 < n := own_kn (i := 12) rfl hN (by decide) hn4 hg
        refine own_viaH (fun _ kq => XS.aload Xl.here hx rfl (hb hby at_348) rfl rfl kq) ?_
        refine own_viaH (fun _ kq => XS.bipush Xl.here hx rfl (hb hby at_350) kq) ?_
        refine own_viaH (fun _ kq => XS.aload Xl.here hx rfl (hb hby at_352) rfl rfl kq) ?_
        refine own_viaH (fun _ kq => XS.bipush Xl.here hx rfl (hb hby at_354) kq) ?_
        refine own_viaH (fun _ kq => XS.iload Xl.here hx rfl (hb hby at_356) rfl kq) ?_
        refine own_viaH (fun _ kq => XS.iload Xl.here hx rfl (hb hby at_358) rfl kq) ?_
        show own_FinH _ _ _ _ _ _ _ _ _ Tl (mkF m 360 #[.val (.int p1), .val (.int p2), .val (.int p3), .val (.int p4), .val (.int p5), .val (.ref a196_), .val (.int nn), .val (.int po), .val (.int cc), .val (.int fl), .val (.ref b197_), .unset, .unset, .unset] [(.int cc), (.int po), (.int (12 : Int32)), (.ref a196_), (.int (12 : Int32)), (.ref b197_)])
        refine own_viaH (fun _ kq => XS.iload Xl.here hx rfl (hb hby at_360) rfl kq) ?_
        show own_FinH _ _ _ _ _ _ _ _ _ Tl (mkF m 362 #[.val (.int p1), .val (.int p2), .val (.int p3), .val (.int p4), .val (.int p5), .val (.ref a196_), .val (.int nn), .val (.int po), .val (.int cc), .val (.int fl), .val (.ref b197_), .unset, .unset, .unset] [(.int fl), (.int cc), (.int po), (.int (12 : Int32)), (.ref a196_), (.int (12 : Int32)), (.ref b197_)])
        obtain ⟨_, _, ⟨T337_, L337_, k337_, n337_⟩, -, X337_, ⟨Lc337_, hQ337_, l337_, y337_, z337_⟩, st337_⟩ := Jvm.LawKit.callS Xl hx (y := (⟨"com/example/lichen/lichen/webhook/EventTypeOfPinLaw", "pick", "(Ljava/lang/String;IICZ)C"⟩ : MethodName)) hown196_ (mvT hZ196_ (own_w hw 11 rfl)) (mvT hZ196_ (own_w hw 12 rfl)) (mvT hZ196_ (own_w hw 13 rfl)) (mvT hZ196_ (own_w hw 14 rfl)) (by decide) (backOf (W := 2) (own_rm_pick l Z a0 hw [] a196_ cz b196_ kb196_ (18 : Int32) own_v2 own_t2 fm (12 : Int32) 12 po cc fl hl n0 Zl Ol S1 P5 S2 r_fm Ex Fx Fy Vx own_lita2 (by decide) own_litr2 rfl (by decide) hcc) hZ196_ (own_w hw 14 rfl) (own_w hw 13 rfl) (by decide) (by decide)) (g := (mkF m 362 #[.val (.int p1), .val (.int p2), .val (.int p3), .val (.int p4), .val (.int p5), .val (.ref a196_), .val (.int nn), .val (.int po), .val (.int cc), .val (.int fl), .val (.ref b197_), .unset, .unset, .unset] [(.int fl), (.int cc), (.int po), (.int (12 : Int32)), (.ref a196_), (.int (12 : Int32)), (.ref b197_)])) rfl (by rw [hml]; rfl) (argsL := [(.ref a196_), (.int (12 : Int32)), (.int po), (.int cc), (.int fl)]) (rest := [(.int (12 : Int32)), (.ref b197_)]) (lenOf own_pd24 rfl) rfl (by show 2 * 0 + _ ≤ _; exact Nat.le_of_eq rfl) (hb hby at_362) (fun _ _ => ⟨rfl, el, (by decide : (0 + 2 + 1) + 0 ≤ _), (by decide : (0 + (72 + 4) + 19) + 0 ≤ _)⟩)
        dsimp only [Pt.U, Pt.locs, Pt.cells, Pt.slots] at X337_ l337_ y337_ z337_ st337_ hQ337_
        subst l337_ y337_ z337_
        obtain ⟨rk, rfl, Nq337_, hh337_, hrk⟩ := hQ337_
        have N337_ := Fr.app Nl Nq337_
        refine own_viaH (fun _ kq => st337_ _ kq) ?_
        show own_FinH _ _ _ _ _ _ _ _ _ T337_ (mkF m 365 #[.val (.int p1), .val (.int p2), .val (.int p3), .val (.int p4), .val (.int p5), .val (.ref a196_), .val (.int nn), .val (.int po), .val (.int cc), .val (.int fl), .val (.ref b197_), .unset, .unset, .unset] [(.int rk), (.int (12 : Int32)), (.ref b197_)])
        obtain ⟨c338_, Ar338_, q338_, S338_, M338_, H338_, G338_⟩ := (id Vl)
        have hin338_ : ¬ ((12 : Int32) < 0 ∨ c338_.slots.size ≤ ((12 : Int32)).toNatClampNeg) := inb_of S338_ (own_inb (i := 12) rfl hN hlt hn10)
        obtain ⟨T338_, h338_, X338_, e338_, W338_, st338_⟩ := stC X337_ hx hZ196_ hh337_ Ar338_ (j := (12 : Int32)) hin338_ (g := (mkF m 365 #[.val (.int p1), .val (.int p2), .val (.int p3), .val (.int p4), .val (.int p5), .val (.ref a196_), .val (.int nn), .val (.int po), .val (.int cc), .val (.int fl), .val (.ref b197_), .unset, .unset, .unset] [(.int rk), (.int (12 : Int32)), (.ref b197_)])) rfl rfl (hb hby at_365)
        have V338_ := Arv.set Ar338_ q338_ S338_ M338_ H338_ G338_ (fits_nar_char _) W338_ 12 (own_clamp (i := 12) rfl (by decide)) (by rw [List.length_map, hxl]; exact hlt)
        have U338_ : Arv Z h338_ b197_ k197_ .char nn (((xs.map Value.int)).set 12 (.int rk)) (.int 0) := by
          have hq := V338_
          rw [show nar .char rk = rk from (own_narch hrk)] at hq
          exact hq
        have N338_ := Fr.snoc X338_ N337_ g200_
        refine own_viaH (fun _ kq => st338_ _ kq) ?_
        show own_FinH _ _ _ _ _ _ _ _ _ T338_ (mkF m 366 #[.val (.int p1), .val (.int p2), .val (.int p3), .val (.int p4), .val (.int p5), .val (.ref a196_), .val (.int nn), .val (.int po), .val (.int cc), .val (.int fl), .val (.ref b197_), .unset, .unset, .unset] [])
        have Vz : Arv Z h338_ b197_ k197_ .char nn ((xs.set 12 rk).map Value.int) (.int 0) := by rw [List.map_set]; exact U338_
        have sf340_ : Safe Z own_EL T196_.vm hl b197_ := Safe.arv hZ196_.alike Vl (by decide)
        have C339_ := Cl.trans (CHr.wr W338_ sf340_ Cl.1)
        have H339_ := C339_.1
        exact s366 (xs.set 12 rk) T338_ _ X338_ N338_ _ e338_ (Nat.le_trans hkl (Keep.of_wr W338_).1) C339_ (Ol.wr W338_ g200_) (Ex.wr W338_) (Fx.other W338_ (Or.inl q198_)) (Fy.other W338_ (Or.inl q198_)) (Vx.other W338_ q199_) Vz (by rw [List.length_set]; exact hxl) (own_chs_set hxs hrk)
      · refine own_viaH (fun _ kq => XS.icmpYes Xl.here hx rfl (pc0 := 345) (pc' := 366) rfl (hb hby at_345) rfl (flt hg).2.2.2 (by decide) (by decide) kq) ?_
        show own_FinH _ _ _ _ _ _ _ _ _ Tl (mkF m 366 #[.val (.int p1), .val (.int p2), .val (.int p3), .val (.int p4), .val (.int p5), .val (.ref a196_), .val (.int nn), .val (.int po), .val (.int cc), .val (.int fl), .val (.ref b197_), .unset, .unset, .unset] [])
        exact s366 xs Tl _ Xl Nl _ el hkl Cl Ol Ex Fx Fy Vx Vl (by assumption) (by assumption)
     have s316 : ∀ (xs : List Int32) (Tl : State) (locl : List Loc) (Xl : Stand p l e room_1 (s.setVm T196_.vm) m #[(.int p1), (.int p2), (.int p3), (.int p4), (.int p5)] below meth cde Tl locl (0 + 2 + 1) (0 + (72 + 4) + 19)) (Nl : Fr n0 locl) (hl : Heap) (el : Tl.heap = hl) (hkl : h197_.size ≤ hl.size) (Cl : CHr Z own_EL s.vm h0 T196_.vm hl) (Ol : Old Z n0 hl) (Ex : Exa Z hl a196_ "java/lang/String") (Fx : Fld Z hl a196_ "java/lang/String" "coder" "B" (.int (0 : Int32))) (Fy : Fld Z hl a196_ "java/lang/String" "value" "[B" (.ref b196_)) (Vx : Arv Z hl b196_ kb196_ .byte (18 : Int32) own_v2 (.int 0)) (Vl : Arv Z hl b197_ k197_ .char nn (xs.map Value.int) (.int 0)) (hxl : xs.length = n) (hxs : own_chs xs), own_FinH p e s below Z own_EL (own_Q_law Z p1 p2 p3 p4 p5 cz fm va kv bt ct sb tb ktb sc tc ktc em h0 n0) room_1.cells room_1.slots Tl (mkF m 316 #[.val (.int p1), .val (.int p2), .val (.int p3), .val (.int p4), .val (.int p5), .val (.ref a196_), .val (.int nn), .val (.int po), .val (.int cc), .val (.int fl), .val (.ref b197_), .unset, .unset, .unset] []) := by
      intro xs Tl locl Xl Nl hl el hkl Cl Ol Ex Fx Fy Vx Vl hxl hxs
      have Zl : n0 ≤ hl.size := Nat.le_trans Z0 Cl.2.1
      refine own_viaH (fun _ kq => XS.iload Xl.here hx rfl (hb hby at_316) rfl kq) ?_
      refine own_viaH (fun _ kq => XS.bipush Xl.here hx rfl (hb hby at_318) kq) ?_
      rcases Classical.em ((11 : Int32) < nn) with hg | hg
      · refine own_viaH (fun _ kq => XS.icmpNo Xl.here hx rfl (hb hby at_320) rfl (tlt hg).2.2.2 kq) ?_
        show own_FinH _ _ _ _ _ _ _ _ _ Tl (mkF m 323 #[.val (.int p1), .val (.int p2), .val (.int p3), .val (.int p4), .val (.int p5), .val (.ref a196_), .val (.int nn), .val (.int po), .val (.int cc), .val (.int fl), .val (.ref b197_), .unset, .unset, .unset] [])
        have hlt : 11 < n := own_kn (i := 11) rfl hN (by decide) hn4 hg
        refine own_viaH (fun _ kq => XS.aload Xl.here hx rfl (hb hby at_323) rfl rfl kq) ?_
        refine own_viaH (fun _ kq => XS.bipush Xl.here hx rfl (hb hby at_325) kq) ?_
        refine own_viaH (fun _ kq => XS.aload Xl.here hx rfl (hb hby at_327) rfl rfl kq) ?_
        refine own_viaH (fun _ kq => XS.bipush Xl.here hx rfl (hb hby at_329) kq) ?_
        refine own_viaH (fun _ kq => XS.iload Xl.here hx rfl (hb hby at_331) rfl kq) ?_
        refine own_viaH (fun _ kq => XS.iload Xl.here hx rfl (hb hby at_333) rfl kq) ?_
        show own_FinH _ _ _ _ _ _ _ _ _ Tl (mkF m 335 #[.val (.int p1), .val (.int p2), .val (.int p3), .val (.int p4), .val (.int p5), .val (.ref a196_), .val (.int nn), .val (.int po), .val (.int cc), .val (.int fl), .val (.ref b197_), .unset, .unset, .unset] [(.int cc), (.int po), (.int (11 : Int32)), (.ref a196_), (.int (11 : Int32)), (.ref b197_)])
        refine own_viaH (fun _ kq => XS.iload Xl.here hx rfl (hb hby at_335) rfl kq) ?_
        show own_FinH _ _ _ _ _ _ _ _ _ Tl (mkF m 337 #[.val (.int p1), .val (.int p2), .val (.int p3), .val (.int p4), .val (.int p5), .val (.ref a196_), .val (.int nn), .val (.int po), .val (.int cc), .val (.int fl), .val (.ref b197_), .unset, .unset, .unset] [(.int fl), (.int cc), (.int po), (.int (11 : Int32)), (.ref a196_), (.int (11 : Int32)), (.ref b197_)])
        obtain ⟨_, _, ⟨T341_, L341_, k341_, n341_⟩, -, X341_, ⟨Lc341_, hQ341_, l341_, y341_, z341_⟩, st341_⟩ := Jvm.LawKit.callS Xl hx (y := (⟨"com/example/lichen/lichen/webhook/EventTypeOfPinLaw", "pick", "(Ljava/lang/String;IICZ)C"⟩ : MethodName)) hown196_ (mvT hZ196_ (own_w hw 11 rfl)) (mvT hZ196_ (own_w hw 12 rfl)) (mvT hZ196_ (own_w hw 13 rfl)) (mvT hZ196_ (own_w hw 14 rfl)) (by decide) (backOf (W := 2) (own_rm_pick l Z a0 hw [] a196_ cz b196_ kb196_ (18 : Int32) own_v2 own_t2 fm (11 : Int32) 11 po cc fl hl n0 Zl Ol S1 P5 S2 r_fm Ex Fx Fy Vx own_lita2 (by decide) own_litr2 rfl (by decide) hcc) hZ196_ (own_w hw 14 rfl) (own_w hw 13 rfl) (by decide) (by decide)) (g := (mkF m 337 #[.val (.int p1), .val (.int p2), .val (.int p3), .val (.int p4), .val (.int p5), .val (.ref a196_), .val (.int nn), .val (.int po), .val (.int cc), .val (.int fl), .val (.ref b197_), .unset, .unset, .unset] [(.int fl), (.int cc), (.int po), (.int (11 : Int32)), (.ref a196_), (.int (11 : Int32)), (.ref b197_)])) rfl (by rw [hml]; rfl) (argsL := [(.ref a196_), (.int (11 : Int32)), (.int po), (.int cc), (.int fl)]) (rest := [(.int (11 : Int32)), (.ref b197_)]) (lenOf own_pd24 rfl) rfl (by show 2 * 0 + _ ≤ _; exact Nat.le_of_eq rfl) (hb hby at_337) (fun _ _ => ⟨rfl, el, (by decide : (0 + 2 + 1) + 0 ≤ _), (by decide : (0 + (72 + 4) + 19) + 0 ≤ _)⟩)
        dsimp only [Pt.U, Pt.locs, Pt.cells, Pt.slots] at X341_ l341_ y341_ z341_ st341_ hQ341_
        subst l341_ y341_ z341_
        obtain ⟨rk, rfl, Nq341_, hh341_, hrk⟩ := hQ341_
        have N341_ := Fr.app Nl Nq341_
        refine own_viaH (fun _ kq => st341_ _ kq) ?_
        show own_FinH _ _ _ _ _ _ _ _ _ T341_ (mkF m 340 #[.val (.int p1), .val (.int p2), .val (.int p3), .val (.int p4), .val (.int p5), .val (.ref a196_), .val (.int nn), .val (.int po), .val (.int cc), .val (.int fl), .val (.ref b197_), .unset, .unset, .unset] [(.int rk), (.int (11 : Int32)), (.ref b197_)])
        obtain ⟨c342_, Ar342_, q342_, S342_, M342_, H342_, G342_⟩ := (id Vl)
        have hin342_ : ¬ ((11 : Int32) < 0 ∨ c342_.slots.size ≤ ((11 : Int32)).toNatClampNeg) := inb_of S342_ (own_inb (i := 11) rfl hN hlt hn10)
        obtain ⟨T342_, h342_, X342_, e342_, W342_, st342_⟩ := stC X341_ hx hZ196_ hh341_ Ar342_ (j := (11 : Int32)) hin342_ (g := (mkF m 340 #[.val (.int p1), .val (.int p2), .val (.int p3), .val (.int p4), .val (.int p5), .val (.ref a196_), .val (.int nn), .val (.int po), .val (.int cc), .val (.int fl), .val (.ref b197_), .unset, .unset, .unset] [(.int rk), (.int (11 : Int32)), (.ref b197_)])) rfl rfl (hb hby at_340)
        have V342_ := Arv.set Ar342_ q342_ S342_ M342_ H342_ G342_ (fits_nar_char _) W342_ 11 (own_clamp (i := 11) rfl (by decide)) (by rw [List.length_map, hxl]; exact hlt)
        have U342_ : Arv Z h342_ b197_ k197_ .char nn (((xs.map Value.int)).set 11 (.int rk)) (.int 0) := by
          have hq := V342_
          rw [show nar .char rk = rk from (own_narch hrk)] at hq
          exact hq
        have N342_ := Fr.snoc X342_ N341_ g200_
        refine own_viaH (fun _ kq => st342_ _ kq) ?_
        show own_FinH _ _ _ _ _ _ _ _ _ T342_ (mkF m 341 #[.val (.int p1), .val (.int p2), .val (.int p3), .val (.int p4), .val (.int p5), .val (.ref a196_), .val (.int nn), .val (.int po), .val (.int cc), .val (.int fl), .val (.ref b197_), .unset, .unset, .unset] [])
        have Vz : Arv Z h342_ b197_ k197_ .char nn ((xs.set 11 rk).map Value.int) (.int 0) := by rw [List.map_set]; exact U342_
        have sf344_ : Safe Z own_EL T196_.vm hl b197_ := Safe.arv hZ196_.alike Vl (by decide)
        have C343_ := Cl.trans (CHr.wr W342_ sf344_ Cl.1)
        have H343_ := C343_.1
        exact s341 (xs.set 11 rk) T342_ _ X342_ N342_ _ e342_ (Nat.le_trans hkl (Keep.of_wr W342_).1) C343_ (Ol.wr W342_ g200_) (Ex.wr W342_) (Fx.other W342_ (Or.inl q198_)) (Fy.other W342_ (Or.inl q198_)) (Vx.other W342_ q199_) Vz (by rw [List.length_set]; exact hxl) (own_chs_set hxs hrk)
      · refine own_viaH (fun _ kq => XS.icmpYes Xl.here hx rfl (pc0 := 320) (pc' := 341) rfl (hb hby at_320) rfl (flt hg).2.2.2 (by decide) (by decide) kq) ?_
        show own_FinH _ _ _ _ _ _ _ _ _ Tl (mkF m 341 #[.val (.int p1), .val (.int p2), .val (.int p3), .val (.int p4), .val (.int p5), .val (.ref a196_), .val (.int nn), .val (.int po), .val (.int cc), .val (.int fl), .val (.ref b197_), .unset, .unset, .unset] [])
        exact s341 xs Tl _ Xl Nl _ el hkl Cl Ol Ex Fx Fy Vx Vl (by assumption) (by assumption)
     have s291 : ∀ (xs : List Int32) (Tl : State) (locl : List Loc) (Xl : Stand p l e room_1 (s.setVm T196_.vm) m #[(.int p1), (.int p2), (.int p3), (.int p4), (.int p5)] below meth cde Tl locl (0 + 2 + 1) (0 + (72 + 4) + 19)) (Nl : Fr n0 locl) (hl : Heap) (el : Tl.heap = hl) (hkl : h197_.size ≤ hl.size) (Cl : CHr Z own_EL s.vm h0 T196_.vm hl) (Ol : Old Z n0 hl) (Ex : Exa Z hl a196_ "java/lang/String") (Fx : Fld Z hl a196_ "java/lang/String" "coder" "B" (.int (0 : Int32))) (Fy : Fld Z hl a196_ "java/lang/String" "value" "[B" (.ref b196_)) (Vx : Arv Z hl b196_ kb196_ .byte (18 : Int32) own_v2 (.int 0)) (Vl : Arv Z hl b197_ k197_ .char nn (xs.map Value.int) (.int 0)) (hxl : xs.length = n) (hxs : own_chs xs), own_FinH p e s below Z own_EL (own_Q_law Z p1 p2 p3 p4 p5 cz fm va kv bt ct sb tb ktb sc tc ktc em h0 n0) room_1.cells room_1.slots Tl (mkF m 291 #[.val (.int p1), .val (.int p2), .val (.int p3), .val (.int p4), .val (.int p5), .val (.ref a196_), .val (.int nn), .val (.int po), .val (.int cc), .val (.int fl), .val (.ref b197_), .unset, .unset, .unset] []) := by
      intro xs Tl locl Xl Nl hl el hkl Cl Ol Ex Fx Fy Vx Vl hxl hxs
      have Zl : n0 ≤ hl.size := Nat.le_trans Z0 Cl.2.1
      refine own_viaH (fun _ kq => XS.iload Xl.here hx rfl (hb hby at_291) rfl kq) ?_
      refine own_viaH (fun _ kq => XS.bipush Xl.here hx rfl (hb hby at_293) kq) ?_
      rcases Classical.em ((10 : Int32) < nn) with hg | hg
      · refine own_viaH (fun _ kq => XS.icmpNo Xl.here hx rfl (hb hby at_295) rfl (tlt hg).2.2.2 kq) ?_
        show own_FinH _ _ _ _ _ _ _ _ _ Tl (mkF m 298 #[.val (.int p1), .val (.int p2), .val (.int p3), .val (.int p4), .val (.int p5), .val (.ref a196_), .val (.int nn), .val (.int po), .val (.int cc), .val (.int fl), .val (.ref b197_), .unset, .unset, .unset] [])
        have hlt : 10 < n := own_kn (i := 10) rfl hN (by decide) hn4 hg
        refine own_viaH (fun _ kq => XS.aload Xl.here hx rfl (hb hby at_298) rfl rfl kq) ?_
        refine own_viaH (fun _ kq => XS.bipush Xl.here hx rfl (hb hby at_300) kq) ?_
        refine own_viaH (fun _ kq => XS.aload Xl.here hx rfl (hb hby at_302) rfl rfl kq) ?_
        refine own_viaH (fun _ kq => XS.bipush Xl.here hx rfl (hb hby at_304) kq) ?_
        refine own_viaH (fun _ kq => XS.iload Xl.here hx rfl (hb hby at_306) rfl kq) ?_
        refine own_viaH (fun _ kq => XS.iload Xl.here hx rfl (hb hby at_308) rfl kq) ?_
        show own_FinH _ _ _ _ _ _ _ _ _ Tl (mkF m 310 #[.val (.int p1), .val (.int p2), .val (.int p3), .val (.int p4), .val (.int p5), .val (.ref a196_), .val (.int nn), .val (.int po), .val (.int cc), .val (.int fl), .val (.ref b197_), .unset, .unset, .unset] [(.int cc), (.int po), (.int (10 : Int32)), (.ref a196_), (.int (10 : Int32)), (.ref b197_)])
        refine own_viaH (fun _ kq => XS.iload Xl.here hx rfl (hb hby at_310) rfl kq) ?_
        show own_FinH _ _ _ _ _ _ _ _ _ Tl (mkF m 312 #[.val (.int p1), .val (.int p2), .val (.int p3), .val (.int p4), .val (.int p5), .val (.ref a196_), .val (.int nn), .val (.int po), .val (.int cc), .val (.int fl), .val (.ref b197_), .unset, .unset, .unset] [(.int fl), (.int cc), (.int po), (.int (10 : Int32)), (.ref a196_), (.int (10 : Int32)), (.ref b197_)])
        obtain ⟨_, _, ⟨T345_, L345_, k345_, n345_⟩, -, X345_, ⟨Lc345_, hQ345_, l345_, y345_, z345_⟩, st345_⟩ := Jvm.LawKit.callS Xl hx (y := (⟨"com/example/lichen/lichen/webhook/EventTypeOfPinLaw", "pick", "(Ljava/lang/String;IICZ)C"⟩ : MethodName)) hown196_ (mvT hZ196_ (own_w hw 11 rfl)) (mvT hZ196_ (own_w hw 12 rfl)) (mvT hZ196_ (own_w hw 13 rfl)) (mvT hZ196_ (own_w hw 14 rfl)) (by decide) (backOf (W := 2) (own_rm_pick l Z a0 hw [] a196_ cz b196_ kb196_ (18 : Int32) own_v2 own_t2 fm (10 : Int32) 10 po cc fl hl n0 Zl Ol S1 P5 S2 r_fm Ex Fx Fy Vx own_lita2 (by decide) own_litr2 rfl (by decide) hcc) hZ196_ (own_w hw 14 rfl) (own_w hw 13 rfl) (by decide) (by decide)) (g := (mkF m 312 #[.val (.int p1), .val (.int p2), .val (.int p3), .val (.int p4), .val (.int p5), .val (.ref a196_), .val (.int nn), .val (.int po), .val (.int cc), .val (.int fl), .val (.ref b197_), .unset, .unset, .unset] [(.int fl), (.int cc), (.int po), (.int (10 : Int32)), (.ref a196_), (.int (10 : Int32)), (.ref b197_)])) rfl (by rw [hml]; rfl) (argsL := [(.ref a196_), (.int (10 : Int32)), (.int po), (.int cc), (.int fl)]) (rest := [(.int (10 : Int32)), (.ref b197_)]) (lenOf own_pd24 rfl) rfl (by show 2 * 0 + _ ≤ _; exact Nat.le_of_eq rfl) (hb hby at_312) (fun _ _ => ⟨rfl, el, (by decide : (0 + 2 + 1) + 0 ≤ _), (by decide : (0 + (72 + 4) + 19) + 0 ≤ _)⟩)
        dsimp only [Pt.U, Pt.locs, Pt.cells, Pt.slots] at X345_ l345_ y345_ z345_ st345_ hQ345_
        subst l345_ y345_ z345_
        obtain ⟨rk, rfl, Nq345_, hh345_, hrk⟩ := hQ345_
        have N345_ := Fr.app Nl Nq345_
        refine own_viaH (fun _ kq => st345_ _ kq) ?_
        show own_FinH _ _ _ _ _ _ _ _ _ T345_ (mkF m 315 #[.val (.int p1), .val (.int p2), .val (.int p3), .val (.int p4), .val (.int p5), .val (.ref a196_), .val (.int nn), .val (.int po), .val (.int cc), .val (.int fl), .val (.ref b197_), .unset, .unset, .unset] [(.int rk), (.int (10 : Int32)), (.ref b197_)])
        obtain ⟨c346_, Ar346_, q346_, S346_, M346_, H346_, G346_⟩ := (id Vl)
        have hin346_ : ¬ ((10 : Int32) < 0 ∨ c346_.slots.size ≤ ((10 : Int32)).toNatClampNeg) := inb_of S346_ (own_inb (i := 10) rfl hN hlt hn10)
        obtain ⟨T346_, h346_, X346_, e346_, W346_, st346_⟩ := stC X345_ hx hZ196_ hh345_ Ar346_ (j := (10 : Int32)) hin346_ (g := (mkF m 315 #[.val (.int p1), .val (.int p2), .val (.int p3), .val (.int p4), .val (.int p5), .val (.ref a196_), .val (.int nn), .val (.int po), .val (.int cc), .val (.int fl), .val (.ref b197_), .unset, .unset, .unset] [(.int rk), (.int (10 : Int32)), (.ref b197_)])) rfl rfl (hb hby at_315)
        have V346_ := Arv.set Ar346_ q346_ S346_ M346_ H346_ G346_ (fits_nar_char _) W346_ 10 (own_clamp (i := 10) rfl (by decide)) (by rw [List.length_map, hxl]; exact hlt)
        have U346_ : Arv Z h346_ b197_ k197_ .char nn (((xs.map Value.int)).set 10 (.int rk)) (.int 0) := by
          have hq := V346_
          rw [show nar .char rk = rk from (own_narch hrk)] at hq
          exact hq
        have N346_ := Fr.snoc X346_ N345_ g200_
        refine own_viaH (fun _ kq => st346_ _ kq) ?_
        show own_FinH _ _ _ _ _ _ _ _ _ T346_ (mkF m 316 #[.val (.int p1), .val (.int p2), .val (.int p3), .val (.int p4), .val (.int p5), .val (.ref a196_), .val (.int nn), .val (.int po), .val (.int cc), .val (.int fl), .val (.ref b197_), .unset, .unset, .unset] [])
        have Vz : Arv Z h346_ b197_ k197_ .char nn ((xs.set 10 rk).map Value.int) (.int 0) := by rw [List.map_set]; exact U346_
        have sf348_ : Safe Z own_EL T196_.vm hl b197_ := Safe.arv hZ196_.alike Vl (by decide)
        have C347_ := Cl.trans (CHr.wr W346_ sf348_ Cl.1)
        have H347_ := C347_.1
        exact s316 (xs.set 10 rk) T346_ _ X346_ N346_ _ e346_ (Nat.le_trans hkl (Keep.of_wr W346_).1) C347_ (Ol.wr W346_ g200_) (Ex.wr W346_) (Fx.other W346_ (Or.inl q198_)) (Fy.other W346_ (Or.inl q198_)) (Vx.other W346_ q199_) Vz (by rw [List.length_set]; exact hxl) (own_chs_set hxs hrk)
      · refine own_viaH (fun _ kq => XS.icmpYes Xl.here hx rfl (pc0 := 295) (pc' := 316) rfl (hb hby at_295) rfl (flt hg).2.2.2 (by decide) (by decide) kq) ?_
        show own_FinH _ _ _ _ _ _ _ _ _ Tl (mkF m 316 #[.val (.int p1), .val (.int p2), .val (.int p3), .val (.int p4), .val (.int p5), .val (.ref a196_), .val (.int nn), .val (.int po), .val (.int cc), .val (.int fl), .val (.ref b197_), .unset, .unset, .unset] [])
        exact s316 xs Tl _ Xl Nl _ el hkl Cl Ol Ex Fx Fy Vx Vl (by assumption) (by assumption)
     have s266 : ∀ (xs : List Int32) (Tl : State) (locl : List Loc) (Xl : Stand p l e room_1 (s.setVm T196_.vm) m #[(.int p1), (.int p2), (.int p3), (.int p4), (.int p5)] below meth cde Tl locl (0 + 2 + 1) (0 + (72 + 4) + 19)) (Nl : Fr n0 locl) (hl : Heap) (el : Tl.heap = hl) (hkl : h197_.size ≤ hl.size) (Cl : CHr Z own_EL s.vm h0 T196_.vm hl) (Ol : Old Z n0 hl) (Ex : Exa Z hl a196_ "java/lang/String") (Fx : Fld Z hl a196_ "java/lang/String" "coder" "B" (.int (0 : Int32))) (Fy : Fld Z hl a196_ "java/lang/String" "value" "[B" (.ref b196_)) (Vx : Arv Z hl b196_ kb196_ .byte (18 : Int32) own_v2 (.int 0)) (Vl : Arv Z hl b197_ k197_ .char nn (xs.map Value.int) (.int 0)) (hxl : xs.length = n) (hxs : own_chs xs), own_FinH p e s below Z own_EL (own_Q_law Z p1 p2 p3 p4 p5 cz fm va kv bt ct sb tb ktb sc tc ktc em h0 n0) room_1.cells room_1.slots Tl (mkF m 266 #[.val (.int p1), .val (.int p2), .val (.int p3), .val (.int p4), .val (.int p5), .val (.ref a196_), .val (.int nn), .val (.int po), .val (.int cc), .val (.int fl), .val (.ref b197_), .unset, .unset, .unset] []) := by
      intro xs Tl locl Xl Nl hl el hkl Cl Ol Ex Fx Fy Vx Vl hxl hxs
      have Zl : n0 ≤ hl.size := Nat.le_trans Z0 Cl.2.1
      refine own_viaH (fun _ kq => XS.iload Xl.here hx rfl (hb hby at_266) rfl kq) ?_
      refine own_viaH (fun _ kq => XS.bipush Xl.here hx rfl (hb hby at_268) kq) ?_
      rcases Classical.em ((9 : Int32) < nn) with hg | hg
      · refine own_viaH (fun _ kq => XS.icmpNo Xl.here hx rfl (hb hby at_270) rfl (tlt hg).2.2.2 kq) ?_
        show own_FinH _ _ _ _ _ _ _ _ _ Tl (mkF m 273 #[.val (.int p1), .val (.int p2), .val (.int p3), .val (.int p4), .val (.int p5), .val (.ref a196_), .val (.int nn), .val (.int po), .val (.int cc), .val (.int fl), .val (.ref b197_), .unset, .unset, .unset] [])
        have hlt : 9 < n := own_kn (i := 9) rfl hN (by decide) hn4 hg
        refine own_viaH (fun _ kq => XS.aload Xl.here hx rfl (hb hby at_273) rfl rfl kq) ?_
        refine own_viaH (fun _ kq => XS.bipush Xl.here hx rfl (hb hby at_275) kq) ?_
        refine own_viaH (fun _ kq => XS.aload Xl.here hx rfl (hb hby at_277) rfl rfl kq) ?_
        refine own_viaH (fun _ kq => XS.bipush Xl.here hx rfl (hb hby at_279) kq) ?_
        refine own_viaH (fun _ kq => XS.iload Xl.here hx rfl (hb hby at_281) rfl kq) ?_
        refine own_viaH (fun _ kq => XS.iload Xl.here hx rfl (hb hby at_283) rfl kq) ?_
        show own_FinH _ _ _ _ _ _ _ _ _ Tl (mkF m 285 #[.val (.int p1), .val (.int p2), .val (.int p3), .val (.int p4), .val (.int p5), .val (.ref a196_), .val (.int nn), .val (.int po), .val (.int cc), .val (.int fl), .val (.ref b197_), .unset, .unset, .unset] [(.int cc), (.int po), (.int (9 : Int32)), (.ref a196_), (.int (9 : Int32)), (.ref b197_)])
        refine own_viaH (fun _ kq => XS.iload Xl.here hx rfl (hb hby at_285) rfl kq) ?_
        show own_FinH _ _ _ _ _ _ _ _ _ Tl (mkF m 287 #[.val (.int p1), .val (.int p2), .val (.int p3), .val (.int p4), .val (.int p5), .val (.ref a196_), .val (.int nn), .val (.int po), .val (.int cc), .val (.int fl), .val (.ref b197_), .unset, .unset, .unset] [(.int fl), (.int cc), (.int po), (.int (9 : Int32)), (.ref a196_), (.int (9 : Int32)), (.ref b197_)])
        obtain ⟨_, _, ⟨T349_, L349_, k349_, n349_⟩, -, X349_, ⟨Lc349_, hQ349_, l349_, y349_, z349_⟩, st349_⟩ := Jvm.LawKit.callS Xl hx (y := (⟨"com/example/lichen/lichen/webhook/EventTypeOfPinLaw", "pick", "(Ljava/lang/String;IICZ)C"⟩ : MethodName)) hown196_ (mvT hZ196_ (own_w hw 11 rfl)) (mvT hZ196_ (own_w hw 12 rfl)) (mvT hZ196_ (own_w hw 13 rfl)) (mvT hZ196_ (own_w hw 14 rfl)) (by decide) (backOf (W := 2) (own_rm_pick l Z a0 hw [] a196_ cz b196_ kb196_ (18 : Int32) own_v2 own_t2 fm (9 : Int32) 9 po cc fl hl n0 Zl Ol S1 P5 S2 r_fm Ex Fx Fy Vx own_lita2 (by decide) own_litr2 rfl (by decide) hcc) hZ196_ (own_w hw 14 rfl) (own_w hw 13 rfl) (by decide) (by decide)) (g := (mkF m 287 #[.val (.int p1), .val (.int p2), .val (.int p3), .val (.int p4), .val (.int p5), .val (.ref a196_), .val (.int nn), .val (.int po), .val (.int cc), .val (.int fl), .val (.ref b197_), .unset, .unset, .unset] [(.int fl), (.int cc), (.int po), (.int (9 : Int32)), (.ref a196_), (.int (9 : Int32)), (.ref b197_)])) rfl (by rw [hml]; rfl) (argsL := [(.ref a196_), (.int (9 : Int32)), (.int po), (.int cc), (.int fl)]) (rest := [(.int (9 : Int32)), (.ref b197_)]) (lenOf own_pd24 rfl) rfl (by show 2 * 0 + _ ≤ _; exact Nat.le_of_eq rfl) (hb hby at_287) (fun _ _ => ⟨rfl, el, (by decide : (0 + 2 + 1) + 0 ≤ _), (by decide : (0 + (72 + 4) + 19) + 0 ≤ _)⟩)
        dsimp only [Pt.U, Pt.locs, Pt.cells, Pt.slots] at X349_ l349_ y349_ z349_ st349_ hQ349_
        subst l349_ y349_ z349_
        obtain ⟨rk, rfl, Nq349_, hh349_, hrk⟩ := hQ349_
        have N349_ := Fr.app Nl Nq349_
        refine own_viaH (fun _ kq => st349_ _ kq) ?_
        show own_FinH _ _ _ _ _ _ _ _ _ T349_ (mkF m 290 #[.val (.int p1), .val (.int p2), .val (.int p3), .val (.int p4), .val (.int p5), .val (.ref a196_), .val (.int nn), .val (.int po), .val (.int cc), .val (.int fl), .val (.ref b197_), .unset, .unset, .unset] [(.int rk), (.int (9 : Int32)), (.ref b197_)])
        obtain ⟨c350_, Ar350_, q350_, S350_, M350_, H350_, G350_⟩ := (id Vl)
        have hin350_ : ¬ ((9 : Int32) < 0 ∨ c350_.slots.size ≤ ((9 : Int32)).toNatClampNeg) := inb_of S350_ (own_inb (i := 9) rfl hN hlt hn10)
        obtain ⟨T350_, h350_, X350_, e350_, W350_, st350_⟩ := stC X349_ hx hZ196_ hh349_ Ar350_ (j := (9 : Int32)) hin350_ (g := (mkF m 290 #[.val (.int p1), .val (.int p2), .val (.int p3), .val (.int p4), .val (.int p5), .val (.ref a196_), .val (.int nn), .val (.int po), .val (.int cc), .val (.int fl), .val (.ref b197_), .unset, .unset, .unset] [(.int rk), (.int (9 : Int32)), (.ref b197_)])) rfl rfl (hb hby at_290)
        have V350_ := Arv.set Ar350_ q350_ S350_ M350_ H350_ G350_ (fits_nar_char _) W350_ 9 (own_clamp (i := 9) rfl (by decide)) (by rw [List.length_map, hxl]; exact hlt)
        have U350_ : Arv Z h350_ b197_ k197_ .char nn (((xs.map Value.int)).set 9 (.int rk)) (.int 0) := by
          have hq := V350_
          rw [show nar .char rk = rk from (own_narch hrk)] at hq
          exact hq
        have N350_ := Fr.snoc X350_ N349_ g200_
        refine own_viaH (fun _ kq => st350_ _ kq) ?_
        show own_FinH _ _ _ _ _ _ _ _ _ T350_ (mkF m 291 #[.val (.int p1), .val (.int p2), .val (.int p3), .val (.int p4), .val (.int p5), .val (.ref a196_), .val (.int nn), .val (.int po), .val (.int cc), .val (.int fl), .val (.ref b197_), .unset, .unset, .unset] [])
        have Vz : Arv Z h350_ b197_ k197_ .char nn ((xs.set 9 rk).map Value.int) (.int 0) := by rw [List.map_set]; exact U350_
        have sf352_ : Safe Z own_EL T196_.vm hl b197_ := Safe.arv hZ196_.alike Vl (by decide)
        have C351_ := Cl.trans (CHr.wr W350_ sf352_ Cl.1)
        have H351_ := C351_.1
        exact s291 (xs.set 9 rk) T350_ _ X350_ N350_ _ e350_ (Nat.le_trans hkl (Keep.of_wr W350_).1) C351_ (Ol.wr W350_ g200_) (Ex.wr W350_) (Fx.other W350_ (Or.inl q198_)) (Fy.other W350_ (Or.inl q198_)) (Vx.other W350_ q199_) Vz (by rw [List.length_set]; exact hxl) (own_chs_set hxs hrk)
      · refine own_viaH (fun _ kq => XS.icmpYes Xl.here hx rfl (pc0 := 270) (pc' := 291) rfl (hb hby at_270) rfl (flt hg).2.2.2 (by decide) (by decide) kq) ?_
        show own_FinH _ _ _ _ _ _ _ _ _ Tl (mkF m 291 #[.val (.int p1), .val (.int p2), .val (.int p3), .val (.int p4), .val (.int p5), .val (.ref a196_), .val (.int nn), .val (.int po), .val (.int cc), .val (.int fl), .val (.ref b197_), .unset, .unset, .unset] [])
        exact s291 xs Tl _ Xl Nl _ el hkl Cl Ol Ex Fx Fy Vx Vl (by assumption) (by assumption)
     have s241 : ∀ (xs : List Int32) (Tl : State) (locl : List Loc) (Xl : Stand p l e room_1 (s.setVm T196_.vm) m #[(.int p1), (.int p2), (.int p3), (.int p4), (.int p5)] below meth cde Tl locl (0 + 2 + 1) (0 + (72 + 4) + 19)) (Nl : Fr n0 locl) (hl : Heap) (el : Tl.heap = hl) (hkl : h197_.size ≤ hl.size) (Cl : CHr Z own_EL s.vm h0 T196_.vm hl) (Ol : Old Z n0 hl) (Ex : Exa Z hl a196_ "java/lang/String") (Fx : Fld Z hl a196_ "java/lang/String" "coder" "B" (.int (0 : Int32))) (Fy : Fld Z hl a196_ "java/lang/String" "value" "[B" (.ref b196_)) (Vx : Arv Z hl b196_ kb196_ .byte (18 : Int32) own_v2 (.int 0)) (Vl : Arv Z hl b197_ k197_ .char nn (xs.map Value.int) (.int 0)) (hxl : xs.length = n) (hxs : own_chs xs), own_FinH p e s below Z own_EL (own_Q_law Z p1 p2 p3 p4 p5 cz fm va kv bt ct sb tb ktb sc tc ktc em h0 n0) room_1.cells room_1.slots Tl (mkF m 241 #[.val (.int p1), .val (.int p2), .val (.int p3), .val (.int p4), .val (.int p5), .val (.ref a196_), .val (.int nn), .val (.int po), .val (.int cc), .val (.int fl), .val (.ref b197_), .unset, .unset, .unset] []) := by
      intro xs Tl locl Xl Nl hl el hkl Cl Ol Ex Fx Fy Vx Vl hxl hxs
      have Zl : n0 ≤ hl.size := Nat.le_trans Z0 Cl.2.1
      refine own_viaH (fun _ kq => XS.iload Xl.here hx rfl (hb hby at_241) rfl kq) ?_
      refine own_viaH (fun _ kq => XS.bipush Xl.here hx rfl (hb hby at_243) kq) ?_
      rcases Classical.em ((8 : Int32) < nn) with hg | hg
      · refine own_viaH (fun _ kq => XS.icmpNo Xl.here hx rfl (hb hby at_245) rfl (tlt hg).2.2.2 kq) ?_
        show own_FinH _ _ _ _ _ _ _ _ _ Tl (mkF m 248 #[.val (.int p1), .val (.int p2), .val (.int p3), .val (.int p4), .val (.int p5), .val (.ref a196_), .val (.int nn), .val (.int po), .val (.int cc), .val (.int fl), .val (.ref b197_), .unset, .unset, .unset] [])
        have hlt : 8 < n := own_kn (i := 8) rfl hN (by decide) hn4 hg
        refine own_viaH (fun _ kq => XS.aload Xl.here hx rfl (hb hby at_248) rfl rfl kq) ?_
        refine own_viaH (fun _ kq => XS.bipush Xl.here hx rfl (hb hby at_250) kq) ?_
        refine own_viaH (fun _ kq => XS.aload Xl.here hx rfl (hb hby at_252) rfl rfl kq) ?_
        refine own_viaH (fun _ kq => XS.bipush Xl.here hx rfl (hb hby at_254) kq) ?_
        refine own_viaH (fun _ kq => XS.iload Xl.here hx rfl (hb hby at_256) rfl kq) ?_
        refine own_viaH (fun _ kq => XS.iload Xl.here hx rfl (hb hby at_258) rfl kq) ?_
        show own_FinH _ _ _ _ _ _ _ _ _ Tl (mkF m 260 #[.val (.int p1), .val (.int p2), .val (.int p3), .val (.int p4), .val (.int p5), .val (.ref a196_), .val (.int nn), .val (.int po), .val (.int cc), .val (.int fl), .val (.ref b197_), .unset, .unset, .unset] [(.int cc), (.int po), (.int (8 : Int32)), (.ref a196_), (.int (8 : Int32)), (.ref b197_)])
        refine own_viaH (fun _ kq => XS.iload Xl.here hx rfl (hb hby at_260) rfl kq) ?_
        show own_FinH _ _ _ _ _ _ _ _ _ Tl (mkF m 262 #[.val (.int p1), .val (.int p2), .val (.int p3), .val (.int p4), .val (.int p5), .val (.ref a196_), .val (.int nn), .val (.int po), .val (.int cc), .val (.int fl), .val (.ref b197_), .unset, .unset, .unset] [(.int fl), (.int cc), (.int po), (.int (8 : Int32)), (.ref a196_), (.int (8 : Int32)), (.ref b197_)])
        obtain ⟨_, _, ⟨T353_, L353_, k353_, n353_⟩, -, X353_, ⟨Lc353_, hQ353_, l353_, y353_, z353_⟩, st353_⟩ := Jvm.LawKit.callS Xl hx (y := (⟨"com/example/lichen/lichen/webhook/EventTypeOfPinLaw", "pick", "(Ljava/lang/String;IICZ)C"⟩ : MethodName)) hown196_ (mvT hZ196_ (own_w hw 11 rfl)) (mvT hZ196_ (own_w hw 12 rfl)) (mvT hZ196_ (own_w hw 13 rfl)) (mvT hZ196_ (own_w hw 14 rfl)) (by decide) (backOf (W := 2) (own_rm_pick l Z a0 hw [] a196_ cz b196_ kb196_ (18 : Int32) own_v2 own_t2 fm (8 : Int32) 8 po cc fl hl n0 Zl Ol S1 P5 S2 r_fm Ex Fx Fy Vx own_lita2 (by decide) own_litr2 rfl (by decide) hcc) hZ196_ (own_w hw 14 rfl) (own_w hw 13 rfl) (by decide) (by decide)) (g := (mkF m 262 #[.val (.int p1), .val (.int p2), .val (.int p3), .val (.int p4), .val (.int p5), .val (.ref a196_), .val (.int nn), .val (.int po), .val (.int cc), .val (.int fl), .val (.ref b197_), .unset, .unset, .unset] [(.int fl), (.int cc), (.int po), (.int (8 : Int32)), (.ref a196_), (.int (8 : Int32)), (.ref b197_)])) rfl (by rw [hml]; rfl) (argsL := [(.ref a196_), (.int (8 : Int32)), (.int po), (.int cc), (.int fl)]) (rest := [(.int (8 : Int32)), (.ref b197_)]) (lenOf own_pd24 rfl) rfl (by show 2 * 0 + _ ≤ _; exact Nat.le_of_eq rfl) (hb hby at_262) (fun _ _ => ⟨rfl, el, (by decide : (0 + 2 + 1) + 0 ≤ _), (by decide : (0 + (72 + 4) + 19) + 0 ≤ _)⟩)
        dsimp only [Pt.U, Pt.locs, Pt.cells, Pt.slots] at X353_ l353_ y353_ z353_ st353_ hQ353_
        subst l353_ y353_ z353_
        obtain ⟨rk, rfl, Nq353_, hh353_, hrk⟩ := hQ353_
        have N353_ := Fr.app Nl Nq353_
        refine own_viaH (fun _ kq => st353_ _ kq) ?_
        show own_FinH _ _ _ _ _ _ _ _ _ T353_ (mkF m 265 #[.val (.int p1), .val (.int p2), .val (.int p3), .val (.int p4), .val (.int p5), .val (.ref a196_), .val (.int nn), .val (.int po), .val (.int cc), .val (.int fl), .val (.ref b197_), .unset, .unset, .unset] [(.int rk), (.int (8 : Int32)), (.ref b197_)])
        obtain ⟨c354_, Ar354_, q354_, S354_, M354_, H354_, G354_⟩ := (id Vl)
        have hin354_ : ¬ ((8 : Int32) < 0 ∨ c354_.slots.size ≤ ((8 : Int32)).toNatClampNeg) := inb_of S354_ (own_inb (i := 8) rfl hN hlt hn10)
        obtain ⟨T354_, h354_, X354_, e354_, W354_, st354_⟩ := stC X353_ hx hZ196_ hh353_ Ar354_ (j := (8 : Int32)) hin354_ (g := (mkF m 265 #[.val (.int p1), .val (.int p2), .val (.int p3), .val (.int p4), .val (.int p5), .val (.ref a196_), .val (.int nn), .val (.int po), .val (.int cc), .val (.int fl), .val (.ref b197_), .unset, .unset, .unset] [(.int rk), (.int (8 : Int32)), (.ref b197_)])) rfl rfl (hb hby at_265)
        have V354_ := Arv.set Ar354_ q354_ S354_ M354_ H354_ G354_ (fits_nar_char _) W354_ 8 (own_clamp (i := 8) rfl (by decide)) (by rw [List.length_map, hxl]; exact hlt)
        have U354_ : Arv Z h354_ b197_ k197_ .char nn (((xs.map Value.int)).set 8 (.int rk)) (.int 0) := by
          have hq := V354_
          rw [show nar .char rk = rk from (own_narch hrk)] at hq
          exact hq
        have N354_ := Fr.snoc X354_ N353_ g200_
        refine own_viaH (fun _ kq => st354_ _ kq) ?_
        show own_FinH _ _ _ _ _ _ _ _ _ T354_ (mkF m 266 #[.val (.int p1), .val (.int p2), .val (.int p3), .val (.int p4), .val (.int p5), .val (.ref a196_), .val (.int nn), .val (.int po), .val (.int cc), .val (.int fl), .val (.ref b197_), .unset, .unset, .unset] [])
        have Vz : Arv Z h354_ b197_ k197_ .char nn ((xs.set 8 rk).map Value.int) (.int 0) := by rw [List.map_set]; exact U354_
        have sf356_ : Safe Z own_EL T196_.vm hl b197_ := Safe.arv hZ196_.alike Vl (by decide)
        have C355_ := Cl.trans (CHr.wr W354_ sf356_ Cl.1)
        have H355_ := C355_.1
        exact s266 (xs.set 8 rk) T354_ _ X354_ N354_ _ e354_ (Nat.le_trans hkl (Keep.of_wr W354_).1) C355_ (Ol.wr W354_ g200_) (Ex.wr W354_) (Fx.other W354_ (Or.inl q198_)) (Fy.other W354_ (Or.inl q198_)) (Vx.other W354_ q199_) Vz (by rw [List.length_set]; exact hxl) (own_chs_set hxs hrk)
      · refine own_viaH (fun _ kq => XS.icmpYes Xl.here hx rfl (pc0 := 245) (pc' := 266) rfl (hb hby at_245) rfl (flt hg).2.2.2 (by decide) (by decide) kq) ?_
        show own_FinH _ _ _ _ _ _ _ _ _ Tl (mkF m 266 #[.val (.int p1), .val (.int p2), .val (.int p3), .val (.int p4), .val (.int p5), .val (.ref a196_), .val (.int nn), .val (.int po), .val (.int cc), .val (.int fl), .val (.ref b197_), .unset, .unset, .unset] [])
        exact s266 xs Tl _ Xl Nl _ el hkl Cl Ol Ex Fx Fy Vx Vl (by assumption) (by assumption)
     have s216 : ∀ (xs : List Int32) (Tl : State) (locl : List Loc) (Xl : Stand p l e room_1 (s.setVm T196_.vm) m #[(.int p1), (.int p2), (.int p3), (.int p4), (.int p5)] below meth cde Tl locl (0 + 2 + 1) (0 + (72 + 4) + 19)) (Nl : Fr n0 locl) (hl : Heap) (el : Tl.heap = hl) (hkl : h197_.size ≤ hl.size) (Cl : CHr Z own_EL s.vm h0 T196_.vm hl) (Ol : Old Z n0 hl) (Ex : Exa Z hl a196_ "java/lang/String") (Fx : Fld Z hl a196_ "java/lang/String" "coder" "B" (.int (0 : Int32))) (Fy : Fld Z hl a196_ "java/lang/String" "value" "[B" (.ref b196_)) (Vx : Arv Z hl b196_ kb196_ .byte (18 : Int32) own_v2 (.int 0)) (Vl : Arv Z hl b197_ k197_ .char nn (xs.map Value.int) (.int 0)) (hxl : xs.length = n) (hxs : own_chs xs), own_FinH p e s below Z own_EL (own_Q_law Z p1 p2 p3 p4 p5 cz fm va kv bt ct sb tb ktb sc tc ktc em h0 n0) room_1.cells room_1.slots Tl (mkF m 216 #[.val (.int p1), .val (.int p2), .val (.int p3), .val (.int p4), .val (.int p5), .val (.ref a196_), .val (.int nn), .val (.int po), .val (.int cc), .val (.int fl), .val (.ref b197_), .unset, .unset, .unset] []) := by
      intro xs Tl locl Xl Nl hl el hkl Cl Ol Ex Fx Fy Vx Vl hxl hxs
      have Zl : n0 ≤ hl.size := Nat.le_trans Z0 Cl.2.1
      refine own_viaH (fun _ kq => XS.iload Xl.here hx rfl (hb hby at_216) rfl kq) ?_
      refine own_viaH (fun _ kq => XS.bipush Xl.here hx rfl (hb hby at_218) kq) ?_
      rcases Classical.em ((7 : Int32) < nn) with hg | hg
      · refine own_viaH (fun _ kq => XS.icmpNo Xl.here hx rfl (hb hby at_220) rfl (tlt hg).2.2.2 kq) ?_
        show own_FinH _ _ _ _ _ _ _ _ _ Tl (mkF m 223 #[.val (.int p1), .val (.int p2), .val (.int p3), .val (.int p4), .val (.int p5), .val (.ref a196_), .val (.int nn), .val (.int po), .val (.int cc), .val (.int fl), .val (.ref b197_), .unset, .unset, .unset] [])
        have hlt : 7 < n := own_kn (i := 7) rfl hN (by decide) hn4 hg
        refine own_viaH (fun _ kq => XS.aload Xl.here hx rfl (hb hby at_223) rfl rfl kq) ?_
        refine own_viaH (fun _ kq => XS.bipush Xl.here hx rfl (hb hby at_225) kq) ?_
        refine own_viaH (fun _ kq => XS.aload Xl.here hx rfl (hb hby at_227) rfl rfl kq) ?_
        refine own_viaH (fun _ kq => XS.bipush Xl.here hx rfl (hb hby at_229) kq) ?_
        refine own_viaH (fun _ kq => XS.iload Xl.here hx rfl (hb hby at_231) rfl kq) ?_
        refine own_viaH (fun _ kq => XS.iload Xl.here hx rfl (hb hby at_233) rfl kq) ?_
        show own_FinH _ _ _ _ _ _ _ _ _ Tl (mkF m 235 #[.val (.int p1), .val (.int p2), .val (.int p3), .val (.int p4), .val (.int p5), .val (.ref a196_), .val (.int nn), .val (.int po), .val (.int cc), .val (.int fl), .val (.ref b197_), .unset, .unset, .unset] [(.int cc), (.int po), (.int (7 : Int32)), (.ref a196_), (.int (7 : Int32)), (.ref b197_)])
        refine own_viaH (fun _ kq => XS.iload Xl.here hx rfl (hb hby at_235) rfl kq) ?_
        show own_FinH _ _ _ _ _ _ _ _ _ Tl (mkF m 237 #[.val (.int p1), .val (.int p2), .val (.int p3), .val (.int p4), .val (.int p5), .val (.ref a196_), .val (.int nn), .val (.int po), .val (.int cc), .val (.int fl), .val (.ref b197_), .unset, .unset, .unset] [(.int fl), (.int cc), (.int po), (.int (7 : Int32)), (.ref a196_), (.int (7 : Int32)), (.ref b197_)])
        obtain ⟨_, _, ⟨T357_, L357_, k357_, n357_⟩, -, X357_, ⟨Lc357_, hQ357_, l357_, y357_, z357_⟩, st357_⟩ := Jvm.LawKit.callS Xl hx (y := (⟨"com/example/lichen/lichen/webhook/EventTypeOfPinLaw", "pick", "(Ljava/lang/String;IICZ)C"⟩ : MethodName)) hown196_ (mvT hZ196_ (own_w hw 11 rfl)) (mvT hZ196_ (own_w hw 12 rfl)) (mvT hZ196_ (own_w hw 13 rfl)) (mvT hZ196_ (own_w hw 14 rfl)) (by decide) (backOf (W := 2) (own_rm_pick l Z a0 hw [] a196_ cz b196_ kb196_ (18 : Int32) own_v2 own_t2 fm (7 : Int32) 7 po cc fl hl n0 Zl Ol S1 P5 S2 r_fm Ex Fx Fy Vx own_lita2 (by decide) own_litr2 rfl (by decide) hcc) hZ196_ (own_w hw 14 rfl) (own_w hw 13 rfl) (by decide) (by decide)) (g := (mkF m 237 #[.val (.int p1), .val (.int p2), .val (.int p3), .val (.int p4), .val (.int p5), .val (.ref a196_), .val (.int nn), .val (.int po), .val (.int cc), .val (.int fl), .val (.ref b197_), .unset, .unset, .unset] [(.int fl), (.int cc), (.int po), (.int (7 : Int32)), (.ref a196_), (.int (7 : Int32)), (.ref b197_)])) rfl (by rw [hml]; rfl) (argsL := [(.ref a196_), (.int (7 : Int32)), (.int po), (.int cc), (.int fl)]) (rest := [(.int (7 : Int32)), (.ref b197_)]) (lenOf own_pd24 rfl) rfl (by show 2 * 0 + _ ≤ _; exact Nat.le_of_eq rfl) (hb hby at_237) (fun _ _ => ⟨rfl, el, (by decide : (0 + 2 + 1) + 0 ≤ _), (by decide : (0 + (72 + 4) + 19) + 0 ≤ _)⟩)
        dsimp only [Pt.U, Pt.locs, Pt.cells, Pt.slots] at X357_ l357_ y357_ z357_ st357_ hQ357_
        subst l357_ y357_ z357_
        obtain ⟨rk, rfl, Nq357_, hh357_, hrk⟩ := hQ357_
        have N357_ := Fr.app Nl Nq357_
        refine own_viaH (fun _ kq => st357_ _ kq) ?_
        show own_FinH _ _ _ _ _ _ _ _ _ T357_ (mkF m 240 #[.val (.int p1), .val (.int p2), .val (.int p3), .val (.int p4), .val (.int p5), .val (.ref a196_), .val (.int nn), .val (.int po), .val (.int cc), .val (.int fl), .val (.ref b197_), .unset, .unset, .unset] [(.int rk), (.int (7 : Int32)), (.ref b197_)])
        obtain ⟨c358_, Ar358_, q358_, S358_, M358_, H358_, G358_⟩ := (id Vl)
        have hin358_ : ¬ ((7 : Int32) < 0 ∨ c358_.slots.size ≤ ((7 : Int32)).toNatClampNeg) := inb_of S358_ (own_inb (i := 7) rfl hN hlt hn10)
        obtain ⟨T358_, h358_, X358_, e358_, W358_, st358_⟩ := stC X357_ hx hZ196_ hh357_ Ar358_ (j := (7 : Int32)) hin358_ (g := (mkF m 240 #[.val (.int p1), .val (.int p2), .val (.int p3), .val (.int p4), .val (.int p5), .val (.ref a196_), .val (.int nn), .val (.int po), .val (.int cc), .val (.int fl), .val (.ref b197_), .unset, .unset, .unset] [(.int rk), (.int (7 : Int32)), (.ref b197_)])) rfl rfl (hb hby at_240)
        have V358_ := Arv.set Ar358_ q358_ S358_ M358_ H358_ G358_ (fits_nar_char _) W358_ 7 (own_clamp (i := 7) rfl (by decide)) (by rw [List.length_map, hxl]; exact hlt)
        have U358_ : Arv Z h358_ b197_ k197_ .char nn (((xs.map Value.int)).set 7 (.int rk)) (.int 0) := by
          have hq := V358_
          rw [show nar .char rk = rk from (own_narch hrk)] at hq
          exact hq
        have N358_ := Fr.snoc X358_ N357_ g200_
        refine own_viaH (fun _ kq => st358_ _ kq) ?_
        show own_FinH _ _ _ _ _ _ _ _ _ T358_ (mkF m 241 #[.val (.int p1), .val (.int p2), .val (.int p3), .val (.int p4), .val (.int p5), .val (.ref a196_), .val (.int nn), .val (.int po), .val (.int cc), .val (.int fl), .val (.ref b197_), .unset, .unset, .unset] [])
        have Vz : Arv Z h358_ b197_ k197_ .char nn ((xs.set 7 rk).map Value.int) (.int 0) := by rw [List.map_set]; exact U358_
        have sf360_ : Safe Z own_EL T196_.vm hl b197_ := Safe.arv hZ196_.alike Vl (by decide)
        have C359_ := Cl.trans (CHr.wr W358_ sf360_ Cl.1)
        have H359_ := C359_.1
        exact s241 (xs.set 7 rk) T358_ _ X358_ N358_ _ e358_ (Nat.le_trans hkl (Keep.of_wr W358_).1) C359_ (Ol.wr W358_ g200_) (Ex.wr W358_) (Fx.other W358_ (Or.inl q198_)) (Fy.other W358_ (Or.inl q198_)) (Vx.other W358_ q199_) Vz (by rw [List.length_set]; exact hxl) (own_chs_set hxs hrk)
      · refine own_viaH (fun _ kq => XS.icmpYes Xl.here hx rfl (pc0 := 220) (pc' := 241) rfl (hb hby at_220) rfl (flt hg).2.2.2 (by decide) (by decide) kq) ?_
        show own_FinH _ _ _ _ _ _ _ _ _ Tl (mkF m 241 #[.val (.int p1), .val (.int p2), .val (.int p3), .val (.int p4), .val (.int p5), .val (.ref a196_), .val (.int nn), .val (.int po), .val (.int cc), .val (.int fl), .val (.ref b197_), .unset, .unset, .unset] [])
        exact s241 xs Tl _ Xl Nl _ el hkl Cl Ol Ex Fx Fy Vx Vl (by assumption) (by assumption)
     have s191 : ∀ (xs : List Int32) (Tl : State) (locl : List Loc) (Xl : Stand p l e room_1 (s.setVm T196_.vm) m #[(.int p1), (.int p2), (.int p3), (.int p4), (.int p5)] below meth cde Tl locl (0 + 2 + 1) (0 + (72 + 4) + 19)) (Nl : Fr n0 locl) (hl : Heap) (el : Tl.heap = hl) (hkl : h197_.size ≤ hl.size) (Cl : CHr Z own_EL s.vm h0 T196_.vm hl) (Ol : Old Z n0 hl) (Ex : Exa Z hl a196_ "java/lang/String") (Fx : Fld Z hl a196_ "java/lang/String" "coder" "B" (.int (0 : Int32))) (Fy : Fld Z hl a196_ "java/lang/String" "value" "[B" (.ref b196_)) (Vx : Arv Z hl b196_ kb196_ .byte (18 : Int32) own_v2 (.int 0)) (Vl : Arv Z hl b197_ k197_ .char nn (xs.map Value.int) (.int 0)) (hxl : xs.length = n) (hxs : own_chs xs), own_FinH p e s below Z own_EL (own_Q_law Z p1 p2 p3 p4 p5 cz fm va kv bt ct sb tb ktb sc tc ktc em h0 n0) room_1.cells room_1.slots Tl (mkF m 191 #[.val (.int p1), .val (.int p2), .val (.int p3), .val (.int p4), .val (.int p5), .val (.ref a196_), .val (.int nn), .val (.int po), .val (.int cc), .val (.int fl), .val (.ref b197_), .unset, .unset, .unset] []) := by
      intro xs Tl locl Xl Nl hl el hkl Cl Ol Ex Fx Fy Vx Vl hxl hxs
      have Zl : n0 ≤ hl.size := Nat.le_trans Z0 Cl.2.1
      refine own_viaH (fun _ kq => XS.iload Xl.here hx rfl (hb hby at_191) rfl kq) ?_
      refine own_viaH (fun _ kq => XS.bipush Xl.here hx rfl (hb hby at_193) kq) ?_
      rcases Classical.em ((6 : Int32) < nn) with hg | hg
      · refine own_viaH (fun _ kq => XS.icmpNo Xl.here hx rfl (hb hby at_195) rfl (tlt hg).2.2.2 kq) ?_
        show own_FinH _ _ _ _ _ _ _ _ _ Tl (mkF m 198 #[.val (.int p1), .val (.int p2), .val (.int p3), .val (.int p4), .val (.int p5), .val (.ref a196_), .val (.int nn), .val (.int po), .val (.int cc), .val (.int fl), .val (.ref b197_), .unset, .unset, .unset] [])
        have hlt : 6 < n := own_kn (i := 6) rfl hN (by decide) hn4 hg
        refine own_viaH (fun _ kq => XS.aload Xl.here hx rfl (hb hby at_198) rfl rfl kq) ?_
        refine own_viaH (fun _ kq => XS.bipush Xl.here hx rfl (hb hby at_200) kq) ?_
        refine own_viaH (fun _ kq => XS.aload Xl.here hx rfl (hb hby at_202) rfl rfl kq) ?_
        refine own_viaH (fun _ kq => XS.bipush Xl.here hx rfl (hb hby at_204) kq) ?_
        refine own_viaH (fun _ kq => XS.iload Xl.here hx rfl (hb hby at_206) rfl kq) ?_
        refine own_viaH (fun _ kq => XS.iload Xl.here hx rfl (hb hby at_208) rfl kq) ?_
        show own_FinH _ _ _ _ _ _ _ _ _ Tl (mkF m 210 #[.val (.int p1), .val (.int p2), .val (.int p3), .val (.int p4), .val (.int p5), .val (.ref a196_), .val (.int nn), .val (.int po), .val (.int cc), .val (.int fl), .val (.ref b197_), .unset, .unset, .unset] [(.int cc), (.int po), (.int (6 : Int32)), (.ref a196_), (.int (6 : Int32)), (.ref b197_)])
        refine own_viaH (fun _ kq => XS.iload Xl.here hx rfl (hb hby at_210) rfl kq) ?_
        show own_FinH _ _ _ _ _ _ _ _ _ Tl (mkF m 212 #[.val (.int p1), .val (.int p2), .val (.int p3), .val (.int p4), .val (.int p5), .val (.ref a196_), .val (.int nn), .val (.int po), .val (.int cc), .val (.int fl), .val (.ref b197_), .unset, .unset, .unset] [(.int fl), (.int cc), (.int po), (.int (6 : Int32)), (.ref a196_), (.int (6 : Int32)), (.ref b197_)])
        obtain ⟨_, _, ⟨T361_, L361_, k361_, n361_⟩, -, X361_, ⟨Lc361_, hQ361_, l361_, y361_, z361_⟩, st361_⟩ := Jvm.LawKit.callS Xl hx (y := (⟨"com/example/lichen/lichen/webhook/EventTypeOfPinLaw", "pick", "(Ljava/lang/String;IICZ)C"⟩ : MethodName)) hown196_ (mvT hZ196_ (own_w hw 11 rfl)) (mvT hZ196_ (own_w hw 12 rfl)) (mvT hZ196_ (own_w hw 13 rfl)) (mvT hZ196_ (own_w hw 14 rfl)) (by decide) (backOf (W := 2) (own_rm_pick l Z a0 hw [] a196_ cz b196_ kb196_ (18 : Int32) own_v2 own_t2 fm (6 : Int32) 6 po cc fl hl n0 Zl Ol S1 P5 S2 r_fm Ex Fx Fy Vx own_lita2 (by decide) own_litr2 rfl (by decide) hcc) hZ196_ (own_w hw 14 rfl) (own_w hw 13 rfl) (by decide) (by decide)) (g := (mkF m 212 #[.val (.int p1), .val (.int p2), .val (.int p3), .val (.int p4), .val (.int p5), .val (.ref a196_), .val (.int nn), .val (.int po), .val (.int cc), .val (.int fl), .val (.ref b197_), .unset, .unset, .unset] [(.int fl), (.int cc), (.int po), (.int (6 : Int32)), (.ref a196_), (.int (6 : Int32)), (.ref b197_)])) rfl (by rw [hml]; rfl) (argsL := [(.ref a196_), (.int (6 : Int32)), (.int po), (.int cc), (.int fl)]) (rest := [(.int (6 : Int32)), (.ref b197_)]) (lenOf own_pd24 rfl) rfl (by show 2 * 0 + _ ≤ _; exact Nat.le_of_eq rfl) (hb hby at_212) (fun _ _ => ⟨rfl, el, (by decide : (0 + 2 + 1) + 0 ≤ _), (by decide : (0 + (72 + 4) + 19) + 0 ≤ _)⟩)
        dsimp only [Pt.U, Pt.locs, Pt.cells, Pt.slots] at X361_ l361_ y361_ z361_ st361_ hQ361_
        subst l361_ y361_ z361_
        obtain ⟨rk, rfl, Nq361_, hh361_, hrk⟩ := hQ361_
        have N361_ := Fr.app Nl Nq361_
        refine own_viaH (fun _ kq => st361_ _ kq) ?_
        show own_FinH _ _ _ _ _ _ _ _ _ T361_ (mkF m 215 #[.val (.int p1), .val (.int p2), .val (.int p3), .val (.int p4), .val (.int p5), .val (.ref a196_), .val (.int nn), .val (.int po), .val (.int cc), .val (.int fl), .val (.ref b197_), .unset, .unset, .unset] [(.int rk), (.int (6 : Int32)), (.ref b197_)])
        obtain ⟨c362_, Ar362_, q362_, S362_, M362_, H362_, G362_⟩ := (id Vl)
        have hin362_ : ¬ ((6 : Int32) < 0 ∨ c362_.slots.size ≤ ((6 : Int32)).toNatClampNeg) := inb_of S362_ (own_inb (i := 6) rfl hN hlt hn10)
        obtain ⟨T362_, h362_, X362_, e362_, W362_, st362_⟩ := stC X361_ hx hZ196_ hh361_ Ar362_ (j := (6 : Int32)) hin362_ (g := (mkF m 215 #[.val (.int p1), .val (.int p2), .val (.int p3), .val (.int p4), .val (.int p5), .val (.ref a196_), .val (.int nn), .val (.int po), .val (.int cc), .val (.int fl), .val (.ref b197_), .unset, .unset, .unset] [(.int rk), (.int (6 : Int32)), (.ref b197_)])) rfl rfl (hb hby at_215)
        have V362_ := Arv.set Ar362_ q362_ S362_ M362_ H362_ G362_ (fits_nar_char _) W362_ 6 (own_clamp (i := 6) rfl (by decide)) (by rw [List.length_map, hxl]; exact hlt)
        have U362_ : Arv Z h362_ b197_ k197_ .char nn (((xs.map Value.int)).set 6 (.int rk)) (.int 0) := by
          have hq := V362_
          rw [show nar .char rk = rk from (own_narch hrk)] at hq
          exact hq
        have N362_ := Fr.snoc X362_ N361_ g200_
        refine own_viaH (fun _ kq => st362_ _ kq) ?_
        show own_FinH _ _ _ _ _ _ _ _ _ T362_ (mkF m 216 #[.val (.int p1), .val (.int p2), .val (.int p3), .val (.int p4), .val (.int p5), .val (.ref a196_), .val (.int nn), .val (.int po), .val (.int cc), .val (.int fl), .val (.ref b197_), .unset, .unset, .unset] [])
        have Vz : Arv Z h362_ b197_ k197_ .char nn ((xs.set 6 rk).map Value.int) (.int 0) := by rw [List.map_set]; exact U362_
        have sf364_ : Safe Z own_EL T196_.vm hl b197_ := Safe.arv hZ196_.alike Vl (by decide)
        have C363_ := Cl.trans (CHr.wr W362_ sf364_ Cl.1)
        have H363_ := C363_.1
        exact s216 (xs.set 6 rk) T362_ _ X362_ N362_ _ e362_ (Nat.le_trans hkl (Keep.of_wr W362_).1) C363_ (Ol.wr W362_ g200_) (Ex.wr W362_) (Fx.other W362_ (Or.inl q198_)) (Fy.other W362_ (Or.inl q198_)) (Vx.other W362_ q199_) Vz (by rw [List.length_set]; exact hxl) (own_chs_set hxs hrk)
      · refine own_viaH (fun _ kq => XS.icmpYes Xl.here hx rfl (pc0 := 195) (pc' := 216) rfl (hb hby at_195) rfl (flt hg).2.2.2 (by decide) (by decide) kq) ?_
        show own_FinH _ _ _ _ _ _ _ _ _ Tl (mkF m 216 #[.val (.int p1), .val (.int p2), .val (.int p3), .val (.int p4), .val (.int p5), .val (.ref a196_), .val (.int nn), .val (.int po), .val (.int cc), .val (.int fl), .val (.ref b197_), .unset, .unset, .unset] [])
        exact s216 xs Tl _ Xl Nl _ el hkl Cl Ol Ex Fx Fy Vx Vl (by assumption) (by assumption)
     have s169 : ∀ (xs : List Int32) (Tl : State) (locl : List Loc) (Xl : Stand p l e room_1 (s.setVm T196_.vm) m #[(.int p1), (.int p2), (.int p3), (.int p4), (.int p5)] below meth cde Tl locl (0 + 2 + 1) (0 + (72 + 4) + 19)) (Nl : Fr n0 locl) (hl : Heap) (el : Tl.heap = hl) (hkl : h197_.size ≤ hl.size) (Cl : CHr Z own_EL s.vm h0 T196_.vm hl) (Ol : Old Z n0 hl) (Ex : Exa Z hl a196_ "java/lang/String") (Fx : Fld Z hl a196_ "java/lang/String" "coder" "B" (.int (0 : Int32))) (Fy : Fld Z hl a196_ "java/lang/String" "value" "[B" (.ref b196_)) (Vx : Arv Z hl b196_ kb196_ .byte (18 : Int32) own_v2 (.int 0)) (Vl : Arv Z hl b197_ k197_ .char nn (xs.map Value.int) (.int 0)) (hxl : xs.length = n) (hxs : own_chs xs), own_FinH p e s below Z own_EL (own_Q_law Z p1 p2 p3 p4 p5 cz fm va kv bt ct sb tb ktb sc tc ktc em h0 n0) room_1.cells room_1.slots Tl (mkF m 169 #[.val (.int p1), .val (.int p2), .val (.int p3), .val (.int p4), .val (.int p5), .val (.ref a196_), .val (.int nn), .val (.int po), .val (.int cc), .val (.int fl), .val (.ref b197_), .unset, .unset, .unset] []) := by
      intro xs Tl locl Xl Nl hl el hkl Cl Ol Ex Fx Fy Vx Vl hxl hxs
      have Zl : n0 ≤ hl.size := Nat.le_trans Z0 Cl.2.1
      refine own_viaH (fun _ kq => XS.iload Xl.here hx rfl (hb hby at_169) rfl kq) ?_
      refine own_viaH (fun _ kq => XS.iconst Xl.here hx rfl (hb hby at_171) kq) ?_
      rcases Classical.em ((5 : Int32) < nn) with hg | hg
      · refine own_viaH (fun _ kq => XS.icmpNo Xl.here hx rfl (hb hby at_172) rfl (tlt hg).2.2.2 kq) ?_
        show own_FinH _ _ _ _ _ _ _ _ _ Tl (mkF m 175 #[.val (.int p1), .val (.int p2), .val (.int p3), .val (.int p4), .val (.int p5), .val (.ref a196_), .val (.int nn), .val (.int po), .val (.int cc), .val (.int fl), .val (.ref b197_), .unset, .unset, .unset] [])
        have hlt : 5 < n := own_kn (i := 5) rfl hN (by decide) hn4 hg
        refine own_viaH (fun _ kq => XS.aload Xl.here hx rfl (hb hby at_175) rfl rfl kq) ?_
        refine own_viaH (fun _ kq => XS.iconst Xl.here hx rfl (hb hby at_177) kq) ?_
        refine own_viaH (fun _ kq => XS.aload Xl.here hx rfl (hb hby at_178) rfl rfl kq) ?_
        refine own_viaH (fun _ kq => XS.iconst Xl.here hx rfl (hb hby at_180) kq) ?_
        refine own_viaH (fun _ kq => XS.iload Xl.here hx rfl (hb hby at_181) rfl kq) ?_
        refine own_viaH (fun _ kq => XS.iload Xl.here hx rfl (hb hby at_183) rfl kq) ?_
        show own_FinH _ _ _ _ _ _ _ _ _ Tl (mkF m 185 #[.val (.int p1), .val (.int p2), .val (.int p3), .val (.int p4), .val (.int p5), .val (.ref a196_), .val (.int nn), .val (.int po), .val (.int cc), .val (.int fl), .val (.ref b197_), .unset, .unset, .unset] [(.int cc), (.int po), (.int (5 : Int32)), (.ref a196_), (.int (5 : Int32)), (.ref b197_)])
        refine own_viaH (fun _ kq => XS.iload Xl.here hx rfl (hb hby at_185) rfl kq) ?_
        show own_FinH _ _ _ _ _ _ _ _ _ Tl (mkF m 187 #[.val (.int p1), .val (.int p2), .val (.int p3), .val (.int p4), .val (.int p5), .val (.ref a196_), .val (.int nn), .val (.int po), .val (.int cc), .val (.int fl), .val (.ref b197_), .unset, .unset, .unset] [(.int fl), (.int cc), (.int po), (.int (5 : Int32)), (.ref a196_), (.int (5 : Int32)), (.ref b197_)])
        obtain ⟨_, _, ⟨T365_, L365_, k365_, n365_⟩, -, X365_, ⟨Lc365_, hQ365_, l365_, y365_, z365_⟩, st365_⟩ := Jvm.LawKit.callS Xl hx (y := (⟨"com/example/lichen/lichen/webhook/EventTypeOfPinLaw", "pick", "(Ljava/lang/String;IICZ)C"⟩ : MethodName)) hown196_ (mvT hZ196_ (own_w hw 11 rfl)) (mvT hZ196_ (own_w hw 12 rfl)) (mvT hZ196_ (own_w hw 13 rfl)) (mvT hZ196_ (own_w hw 14 rfl)) (by decide) (backOf (W := 2) (own_rm_pick l Z a0 hw [] a196_ cz b196_ kb196_ (18 : Int32) own_v2 own_t2 fm (5 : Int32) 5 po cc fl hl n0 Zl Ol S1 P5 S2 r_fm Ex Fx Fy Vx own_lita2 (by decide) own_litr2 rfl (by decide) hcc) hZ196_ (own_w hw 14 rfl) (own_w hw 13 rfl) (by decide) (by decide)) (g := (mkF m 187 #[.val (.int p1), .val (.int p2), .val (.int p3), .val (.int p4), .val (.int p5), .val (.ref a196_), .val (.int nn), .val (.int po), .val (.int cc), .val (.int fl), .val (.ref b197_), .unset, .unset, .unset] [(.int fl), (.int cc), (.int po), (.int (5 : Int32)), (.ref a196_), (.int (5 : Int32)), (.ref b197_)])) rfl (by rw [hml]; rfl) (argsL := [(.ref a196_), (.int (5 : Int32)), (.int po), (.int cc), (.int fl)]) (rest := [(.int (5 : Int32)), (.ref b197_)]) (lenOf own_pd24 rfl) rfl (by show 2 * 0 + _ ≤ _; exact Nat.le_of_eq rfl) (hb hby at_187) (fun _ _ => ⟨rfl, el, (by decide : (0 + 2 + 1) + 0 ≤ _), (by decide : (0 + (72 + 4) + 19) + 0 ≤ _)⟩)
        dsimp only [Pt.U, Pt.locs, Pt.cells, Pt.slots] at X365_ l365_ y365_ z365_ st365_ hQ365_
        subst l365_ y365_ z365_
        obtain ⟨rk, rfl, Nq365_, hh365_, hrk⟩ := hQ365_
        have N365_ := Fr.app Nl Nq365_
        refine own_viaH (fun _ kq => st365_ _ kq) ?_
        show own_FinH _ _ _ _ _ _ _ _ _ T365_ (mkF m 190 #[.val (.int p1), .val (.int p2), .val (.int p3), .val (.int p4), .val (.int p5), .val (.ref a196_), .val (.int nn), .val (.int po), .val (.int cc), .val (.int fl), .val (.ref b197_), .unset, .unset, .unset] [(.int rk), (.int (5 : Int32)), (.ref b197_)])
        obtain ⟨c366_, Ar366_, q366_, S366_, M366_, H366_, G366_⟩ := (id Vl)
        have hin366_ : ¬ ((5 : Int32) < 0 ∨ c366_.slots.size ≤ ((5 : Int32)).toNatClampNeg) := inb_of S366_ (own_inb (i := 5) rfl hN hlt hn10)
        obtain ⟨T366_, h366_, X366_, e366_, W366_, st366_⟩ := stC X365_ hx hZ196_ hh365_ Ar366_ (j := (5 : Int32)) hin366_ (g := (mkF m 190 #[.val (.int p1), .val (.int p2), .val (.int p3), .val (.int p4), .val (.int p5), .val (.ref a196_), .val (.int nn), .val (.int po), .val (.int cc), .val (.int fl), .val (.ref b197_), .unset, .unset, .unset] [(.int rk), (.int (5 : Int32)), (.ref b197_)])) rfl rfl (hb hby at_190)
        have V366_ := Arv.set Ar366_ q366_ S366_ M366_ H366_ G366_ (fits_nar_char _) W366_ 5 (own_clamp (i := 5) rfl (by decide)) (by rw [List.length_map, hxl]; exact hlt)
        have U366_ : Arv Z h366_ b197_ k197_ .char nn (((xs.map Value.int)).set 5 (.int rk)) (.int 0) := by
          have hq := V366_
          rw [show nar .char rk = rk from (own_narch hrk)] at hq
          exact hq
        have N366_ := Fr.snoc X366_ N365_ g200_
        refine own_viaH (fun _ kq => st366_ _ kq) ?_
        show own_FinH _ _ _ _ _ _ _ _ _ T366_ (mkF m 191 #[.val (.int p1), .val (.int p2), .val (.int p3), .val (.int p4), .val (.int p5), .val (.ref a196_), .val (.int nn), .val (.int po), .val (.int cc), .val (.int fl), .val (.ref b197_), .unset, .unset, .unset] [])
        have Vz : Arv Z h366_ b197_ k197_ .char nn ((xs.set 5 rk).map Value.int) (.int 0) := by rw [List.map_set]; exact U366_
        have sf368_ : Safe Z own_EL T196_.vm hl b197_ := Safe.arv hZ196_.alike Vl (by decide)
        have C367_ := Cl.trans (CHr.wr W366_ sf368_ Cl.1)
        have H367_ := C367_.1
        exact s191 (xs.set 5 rk) T366_ _ X366_ N366_ _ e366_ (Nat.le_trans hkl (Keep.of_wr W366_).1) C367_ (Ol.wr W366_ g200_) (Ex.wr W366_) (Fx.other W366_ (Or.inl q198_)) (Fy.other W366_ (Or.inl q198_)) (Vx.other W366_ q199_) Vz (by rw [List.length_set]; exact hxl) (own_chs_set hxs hrk)
      · refine own_viaH (fun _ kq => XS.icmpYes Xl.here hx rfl (pc0 := 172) (pc' := 191) rfl (hb hby at_172) rfl (flt hg).2.2.2 (by decide) (by decide) kq) ?_
        show own_FinH _ _ _ _ _ _ _ _ _ Tl (mkF m 191 #[.val (.int p1), .val (.int p2), .val (.int p3), .val (.int p4), .val (.int p5), .val (.ref a196_), .val (.int nn), .val (.int po), .val (.int cc), .val (.int fl), .val (.ref b197_), .unset, .unset, .unset] [])
        exact s191 xs Tl _ Xl Nl _ el hkl Cl Ol Ex Fx Fy Vx Vl (by assumption) (by assumption)
     have s147 : ∀ (xs : List Int32) (Tl : State) (locl : List Loc) (Xl : Stand p l e room_1 (s.setVm T196_.vm) m #[(.int p1), (.int p2), (.int p3), (.int p4), (.int p5)] below meth cde Tl locl (0 + 2 + 1) (0 + (72 + 4) + 19)) (Nl : Fr n0 locl) (hl : Heap) (el : Tl.heap = hl) (hkl : h197_.size ≤ hl.size) (Cl : CHr Z own_EL s.vm h0 T196_.vm hl) (Ol : Old Z n0 hl) (Ex : Exa Z hl a196_ "java/lang/String") (Fx : Fld Z hl a196_ "java/lang/String" "coder" "B" (.int (0 : Int32))) (Fy : Fld Z hl a196_ "java/lang/String" "value" "[B" (.ref b196_)) (Vx : Arv Z hl b196_ kb196_ .byte (18 : Int32) own_v2 (.int 0)) (Vl : Arv Z hl b197_ k197_ .char nn (xs.map Value.int) (.int 0)) (hxl : xs.length = n) (hxs : own_chs xs), own_FinH p e s below Z own_EL (own_Q_law Z p1 p2 p3 p4 p5 cz fm va kv bt ct sb tb ktb sc tc ktc em h0 n0) room_1.cells room_1.slots Tl (mkF m 147 #[.val (.int p1), .val (.int p2), .val (.int p3), .val (.int p4), .val (.int p5), .val (.ref a196_), .val (.int nn), .val (.int po), .val (.int cc), .val (.int fl), .val (.ref b197_), .unset, .unset, .unset] []) := by
      intro xs Tl locl Xl Nl hl el hkl Cl Ol Ex Fx Fy Vx Vl hxl hxs
      have Zl : n0 ≤ hl.size := Nat.le_trans Z0 Cl.2.1
      refine own_viaH (fun _ kq => XS.iload Xl.here hx rfl (hb hby at_147) rfl kq) ?_
      refine own_viaH (fun _ kq => XS.iconst Xl.here hx rfl (hb hby at_149) kq) ?_
      rcases Classical.em ((4 : Int32) < nn) with hg | hg
      · refine own_viaH (fun _ kq => XS.icmpNo Xl.here hx rfl (hb hby at_150) rfl (tlt hg).2.2.2 kq) ?_
        show own_FinH _ _ _ _ _ _ _ _ _ Tl (mkF m 153 #[.val (.int p1), .val (.int p2), .val (.int p3), .val (.int p4), .val (.int p5), .val (.ref a196_), .val (.int nn), .val (.int po), .val (.int cc), .val (.int fl), .val (.ref b197_), .unset, .unset, .unset] [])
        have hlt : 4 < n := own_kn (i := 4) rfl hN (by decide) hn4 hg
        refine own_viaH (fun _ kq => XS.aload Xl.here hx rfl (hb hby at_153) rfl rfl kq) ?_
        refine own_viaH (fun _ kq => XS.iconst Xl.here hx rfl (hb hby at_155) kq) ?_
        refine own_viaH (fun _ kq => XS.aload Xl.here hx rfl (hb hby at_156) rfl rfl kq) ?_
        refine own_viaH (fun _ kq => XS.iconst Xl.here hx rfl (hb hby at_158) kq) ?_
        refine own_viaH (fun _ kq => XS.iload Xl.here hx rfl (hb hby at_159) rfl kq) ?_
        refine own_viaH (fun _ kq => XS.iload Xl.here hx rfl (hb hby at_161) rfl kq) ?_
        show own_FinH _ _ _ _ _ _ _ _ _ Tl (mkF m 163 #[.val (.int p1), .val (.int p2), .val (.int p3), .val (.int p4), .val (.int p5), .val (.ref a196_), .val (.int nn), .val (.int po), .val (.int cc), .val (.int fl), .val (.ref b197_), .unset, .unset, .unset] [(.int cc), (.int po), (.int (4 : Int32)), (.ref a196_), (.int (4 : Int32)), (.ref b197_)])
        refine own_viaH (fun _ kq => XS.iload Xl.here hx rfl (hb hby at_163) rfl kq) ?_
        show own_FinH _ _ _ _ _ _ _ _ _ Tl (mkF m 165 #[.val (.int p1), .val (.int p2), .val (.int p3), .val (.int p4), .val (.int p5), .val (.ref a196_), .val (.int nn), .val (.int po), .val (.int cc), .val (.int fl), .val (.ref b197_), .unset, .unset, .unset] [(.int fl), (.int cc), (.int po), (.int (4 : Int32)), (.ref a196_), (.int (4 : Int32)), (.ref b197_)])
        obtain ⟨_, _, ⟨T369_, L369_, k369_, n369_⟩, -, X369_, ⟨Lc369_, hQ369_, l369_, y369_, z369_⟩, st369_⟩ := Jvm.LawKit.callS Xl hx (y := (⟨"com/example/lichen/lichen/webhook/EventTypeOfPinLaw", "pick", "(Ljava/lang/String;IICZ)C"⟩ : MethodName)) hown196_ (mvT hZ196_ (own_w hw 11 rfl)) (mvT hZ196_ (own_w hw 12 rfl)) (mvT hZ196_ (own_w hw 13 rfl)) (mvT hZ196_ (own_w hw 14 rfl)) (by decide) (backOf (W := 2) (own_rm_pick l Z a0 hw [] a196_ cz b196_ kb196_ (18 : Int32) own_v2 own_t2 fm (4 : Int32) 4 po cc fl hl n0 Zl Ol S1 P5 S2 r_fm Ex Fx Fy Vx own_lita2 (by decide) own_litr2 rfl (by decide) hcc) hZ196_ (own_w hw 14 rfl) (own_w hw 13 rfl) (by decide) (by decide)) (g := (mkF m 165 #[.val (.int p1), .val (.int p2), .val (.int p3), .val (.int p4), .val (.int p5), .val (.ref a196_), .val (.int nn), .val (.int po), .val (.int cc), .val (.int fl), .val (.ref b197_), .unset, .unset, .unset] [(.int fl), (.int cc), (.int po), (.int (4 : Int32)), (.ref a196_), (.int (4 : Int32)), (.ref b197_)])) rfl (by rw [hml]; rfl) (argsL := [(.ref a196_), (.int (4 : Int32)), (.int po), (.int cc), (.int fl)]) (rest := [(.int (4 : Int32)), (.ref b197_)]) (lenOf own_pd24 rfl) rfl (by show 2 * 0 + _ ≤ _; exact Nat.le_of_eq rfl) (hb hby at_165) (fun _ _ => ⟨rfl, el, (by decide : (0 + 2 + 1) + 0 ≤ _), (by decide : (0 + (72 + 4) + 19) + 0 ≤ _)⟩)
        dsimp only [Pt.U, Pt.locs, Pt.cells, Pt.slots] at X369_ l369_ y369_ z369_ st369_ hQ369_
        subst l369_ y369_ z369_
        obtain ⟨rk, rfl, Nq369_, hh369_, hrk⟩ := hQ369_
        have N369_ := Fr.app Nl Nq369_
        refine own_viaH (fun _ kq => st369_ _ kq) ?_
        show own_FinH _ _ _ _ _ _ _ _ _ T369_ (mkF m 168 #[.val (.int p1), .val (.int p2), .val (.int p3), .val (.int p4), .val (.int p5), .val (.ref a196_), .val (.int nn), .val (.int po), .val (.int cc), .val (.int fl), .val (.ref b197_), .unset, .unset, .unset] [(.int rk), (.int (4 : Int32)), (.ref b197_)])
        obtain ⟨c370_, Ar370_, q370_, S370_, M370_, H370_, G370_⟩ := (id Vl)
        have hin370_ : ¬ ((4 : Int32) < 0 ∨ c370_.slots.size ≤ ((4 : Int32)).toNatClampNeg) := inb_of S370_ (own_inb (i := 4) rfl hN hlt hn10)
        obtain ⟨T370_, h370_, X370_, e370_, W370_, st370_⟩ := stC X369_ hx hZ196_ hh369_ Ar370_ (j := (4 : Int32)) hin370_ (g := (mkF m 168 #[.val (.int p1), .val (.int p2), .val (.int p3), .val (.int p4), .val (.int p5), .val (.ref a196_), .val (.int nn), .val (.int po), .val (.int cc), .val (.int fl), .val (.ref b197_), .unset, .unset, .unset] [(.int rk), (.int (4 : Int32)), (.ref b197_)])) rfl rfl (hb hby at_168)
        have V370_ := Arv.set Ar370_ q370_ S370_ M370_ H370_ G370_ (fits_nar_char _) W370_ 4 (own_clamp (i := 4) rfl (by decide)) (by rw [List.length_map, hxl]; exact hlt)
        have U370_ : Arv Z h370_ b197_ k197_ .char nn (((xs.map Value.int)).set 4 (.int rk)) (.int 0) := by
          have hq := V370_
          rw [show nar .char rk = rk from (own_narch hrk)] at hq
          exact hq
        have N370_ := Fr.snoc X370_ N369_ g200_
        refine own_viaH (fun _ kq => st370_ _ kq) ?_
        show own_FinH _ _ _ _ _ _ _ _ _ T370_ (mkF m 169 #[.val (.int p1), .val (.int p2), .val (.int p3), .val (.int p4), .val (.int p5), .val (.ref a196_), .val (.int nn), .val (.int po), .val (.int cc), .val (.int fl), .val (.ref b197_), .unset, .unset, .unset] [])
        have Vz : Arv Z h370_ b197_ k197_ .char nn ((xs.set 4 rk).map Value.int) (.int 0) := by rw [List.map_set]; exact U370_
        have sf372_ : Safe Z own_EL T196_.vm hl b197_ := Safe.arv hZ196_.alike Vl (by decide)
        have C371_ := Cl.trans (CHr.wr W370_ sf372_ Cl.1)
        have H371_ := C371_.1
        exact s169 (xs.set 4 rk) T370_ _ X370_ N370_ _ e370_ (Nat.le_trans hkl (Keep.of_wr W370_).1) C371_ (Ol.wr W370_ g200_) (Ex.wr W370_) (Fx.other W370_ (Or.inl q198_)) (Fy.other W370_ (Or.inl q198_)) (Vx.other W370_ q199_) Vz (by rw [List.length_set]; exact hxl) (own_chs_set hxs hrk)
      · refine own_viaH (fun _ kq => XS.icmpYes Xl.here hx rfl (pc0 := 150) (pc' := 169) rfl (hb hby at_150) rfl (flt hg).2.2.2 (by decide) (by decide) kq) ?_
        show own_FinH _ _ _ _ _ _ _ _ _ Tl (mkF m 169 #[.val (.int p1), .val (.int p2), .val (.int p3), .val (.int p4), .val (.int p5), .val (.ref a196_), .val (.int nn), .val (.int po), .val (.int cc), .val (.int fl), .val (.ref b197_), .unset, .unset, .unset] [])
        exact s169 xs Tl _ Xl Nl _ el hkl Cl Ol Ex Fx Fy Vx Vl (by assumption) (by assumption)
     have s125 : ∀ (xs : List Int32) (Tl : State) (locl : List Loc) (Xl : Stand p l e room_1 (s.setVm T196_.vm) m #[(.int p1), (.int p2), (.int p3), (.int p4), (.int p5)] below meth cde Tl locl (0 + 2 + 1) (0 + (72 + 4) + 19)) (Nl : Fr n0 locl) (hl : Heap) (el : Tl.heap = hl) (hkl : h197_.size ≤ hl.size) (Cl : CHr Z own_EL s.vm h0 T196_.vm hl) (Ol : Old Z n0 hl) (Ex : Exa Z hl a196_ "java/lang/String") (Fx : Fld Z hl a196_ "java/lang/String" "coder" "B" (.int (0 : Int32))) (Fy : Fld Z hl a196_ "java/lang/String" "value" "[B" (.ref b196_)) (Vx : Arv Z hl b196_ kb196_ .byte (18 : Int32) own_v2 (.int 0)) (Vl : Arv Z hl b197_ k197_ .char nn (xs.map Value.int) (.int 0)) (hxl : xs.length = n) (hxs : own_chs xs), own_FinH p e s below Z own_EL (own_Q_law Z p1 p2 p3 p4 p5 cz fm va kv bt ct sb tb ktb sc tc ktc em h0 n0) room_1.cells room_1.slots Tl (mkF m 125 #[.val (.int p1), .val (.int p2), .val (.int p3), .val (.int p4), .val (.int p5), .val (.ref a196_), .val (.int nn), .val (.int po), .val (.int cc), .val (.int fl), .val (.ref b197_), .unset, .unset, .unset] []) := by
      intro xs Tl locl Xl Nl hl el hkl Cl Ol Ex Fx Fy Vx Vl hxl hxs
      have Zl : n0 ≤ hl.size := Nat.le_trans Z0 Cl.2.1
      refine own_viaH (fun _ kq => XS.iload Xl.here hx rfl (hb hby at_125) rfl kq) ?_
      refine own_viaH (fun _ kq => XS.iconst Xl.here hx rfl (hb hby at_127) kq) ?_
      rcases Classical.em ((3 : Int32) < nn) with hg | hg
      · refine own_viaH (fun _ kq => XS.icmpNo Xl.here hx rfl (hb hby at_128) rfl (tlt hg).2.2.2 kq) ?_
        show own_FinH _ _ _ _ _ _ _ _ _ Tl (mkF m 131 #[.val (.int p1), .val (.int p2), .val (.int p3), .val (.int p4), .val (.int p5), .val (.ref a196_), .val (.int nn), .val (.int po), .val (.int cc), .val (.int fl), .val (.ref b197_), .unset, .unset, .unset] [])
        have hlt : 3 < n := own_kn (i := 3) rfl hN (by decide) hn4 hg
        refine own_viaH (fun _ kq => XS.aload Xl.here hx rfl (hb hby at_131) rfl rfl kq) ?_
        refine own_viaH (fun _ kq => XS.iconst Xl.here hx rfl (hb hby at_133) kq) ?_
        refine own_viaH (fun _ kq => XS.aload Xl.here hx rfl (hb hby at_134) rfl rfl kq) ?_
        refine own_viaH (fun _ kq => XS.iconst Xl.here hx rfl (hb hby at_136) kq) ?_
        refine own_viaH (fun _ kq => XS.iload Xl.here hx rfl (hb hby at_137) rfl kq) ?_
        refine own_viaH (fun _ kq => XS.iload Xl.here hx rfl (hb hby at_139) rfl kq) ?_
        show own_FinH _ _ _ _ _ _ _ _ _ Tl (mkF m 141 #[.val (.int p1), .val (.int p2), .val (.int p3), .val (.int p4), .val (.int p5), .val (.ref a196_), .val (.int nn), .val (.int po), .val (.int cc), .val (.int fl), .val (.ref b197_), .unset, .unset, .unset] [(.int cc), (.int po), (.int (3 : Int32)), (.ref a196_), (.int (3 : Int32)), (.ref b197_)])
        refine own_viaH (fun _ kq => XS.iload Xl.here hx rfl (hb hby at_141) rfl kq) ?_
        show own_FinH _ _ _ _ _ _ _ _ _ Tl (mkF m 143 #[.val (.int p1), .val (.int p2), .val (.int p3), .val (.int p4), .val (.int p5), .val (.ref a196_), .val (.int nn), .val (.int po), .val (.int cc), .val (.int fl), .val (.ref b197_), .unset, .unset, .unset] [(.int fl), (.int cc), (.int po), (.int (3 : Int32)), (.ref a196_), (.int (3 : Int32)), (.ref b197_)])
        obtain ⟨_, _, ⟨T373_, L373_, k373_, n373_⟩, -, X373_, ⟨Lc373_, hQ373_, l373_, y373_, z373_⟩, st373_⟩ := Jvm.LawKit.callS Xl hx (y := (⟨"com/example/lichen/lichen/webhook/EventTypeOfPinLaw", "pick", "(Ljava/lang/String;IICZ)C"⟩ : MethodName)) hown196_ (mvT hZ196_ (own_w hw 11 rfl)) (mvT hZ196_ (own_w hw 12 rfl)) (mvT hZ196_ (own_w hw 13 rfl)) (mvT hZ196_ (own_w hw 14 rfl)) (by decide) (backOf (W := 2) (own_rm_pick l Z a0 hw [] a196_ cz b196_ kb196_ (18 : Int32) own_v2 own_t2 fm (3 : Int32) 3 po cc fl hl n0 Zl Ol S1 P5 S2 r_fm Ex Fx Fy Vx own_lita2 (by decide) own_litr2 rfl (by decide) hcc) hZ196_ (own_w hw 14 rfl) (own_w hw 13 rfl) (by decide) (by decide)) (g := (mkF m 143 #[.val (.int p1), .val (.int p2), .val (.int p3), .val (.int p4), .val (.int p5), .val (.ref a196_), .val (.int nn), .val (.int po), .val (.int cc), .val (.int fl), .val (.ref b197_), .unset, .unset, .unset] [(.int fl), (.int cc), (.int po), (.int (3 : Int32)), (.ref a196_), (.int (3 : Int32)), (.ref b197_)])) rfl (by rw [hml]; rfl) (argsL := [(.ref a196_), (.int (3 : Int32)), (.int po), (.int cc), (.int fl)]) (rest := [(.int (3 : Int32)), (.ref b197_)]) (lenOf own_pd24 rfl) rfl (by show 2 * 0 + _ ≤ _; exact Nat.le_of_eq rfl) (hb hby at_143) (fun _ _ => ⟨rfl, el, (by decide : (0 + 2 + 1) + 0 ≤ _), (by decide : (0 + (72 + 4) + 19) + 0 ≤ _)⟩)
        dsimp only [Pt.U, Pt.locs, Pt.cells, Pt.slots] at X373_ l373_ y373_ z373_ st373_ hQ373_
        subst l373_ y373_ z373_
        obtain ⟨rk, rfl, Nq373_, hh373_, hrk⟩ := hQ373_
        have N373_ := Fr.app Nl Nq373_
        refine own_viaH (fun _ kq => st373_ _ kq) ?_
        show own_FinH _ _ _ _ _ _ _ _ _ T373_ (mkF m 146 #[.val (.int p1), .val (.int p2), .val (.int p3), .val (.int p4), .val (.int p5), .val (.ref a196_), .val (.int nn), .val (.int po), .val (.int cc), .val (.int fl), .val (.ref b197_), .unset, .unset, .unset] [(.int rk), (.int (3 : Int32)), (.ref b197_)])
        obtain ⟨c374_, Ar374_, q374_, S374_, M374_, H374_, G374_⟩ := (id Vl)
        have hin374_ : ¬ ((3 : Int32) < 0 ∨ c374_.slots.size ≤ ((3 : Int32)).toNatClampNeg) := inb_of S374_ (own_inb (i := 3) rfl hN hlt hn10)
        obtain ⟨T374_, h374_, X374_, e374_, W374_, st374_⟩ := stC X373_ hx hZ196_ hh373_ Ar374_ (j := (3 : Int32)) hin374_ (g := (mkF m 146 #[.val (.int p1), .val (.int p2), .val (.int p3), .val (.int p4), .val (.int p5), .val (.ref a196_), .val (.int nn), .val (.int po), .val (.int cc), .val (.int fl), .val (.ref b197_), .unset, .unset, .unset] [(.int rk), (.int (3 : Int32)), (.ref b197_)])) rfl rfl (hb hby at_146)
        have V374_ := Arv.set Ar374_ q374_ S374_ M374_ H374_ G374_ (fits_nar_char _) W374_ 3 (own_clamp (i := 3) rfl (by decide)) (by rw [List.length_map, hxl]; exact hlt)
        have U374_ : Arv Z h374_ b197_ k197_ .char nn (((xs.map Value.int)).set 3 (.int rk)) (.int 0) := by
          have hq := V374_
          rw [show nar .char rk = rk from (own_narch hrk)] at hq
          exact hq
        have N374_ := Fr.snoc X374_ N373_ g200_
        refine own_viaH (fun _ kq => st374_ _ kq) ?_
        show own_FinH _ _ _ _ _ _ _ _ _ T374_ (mkF m 147 #[.val (.int p1), .val (.int p2), .val (.int p3), .val (.int p4), .val (.int p5), .val (.ref a196_), .val (.int nn), .val (.int po), .val (.int cc), .val (.int fl), .val (.ref b197_), .unset, .unset, .unset] [])
        have Vz : Arv Z h374_ b197_ k197_ .char nn ((xs.set 3 rk).map Value.int) (.int 0) := by rw [List.map_set]; exact U374_
        have sf376_ : Safe Z own_EL T196_.vm hl b197_ := Safe.arv hZ196_.alike Vl (by decide)
        have C375_ := Cl.trans (CHr.wr W374_ sf376_ Cl.1)
        have H375_ := C375_.1
        exact s147 (xs.set 3 rk) T374_ _ X374_ N374_ _ e374_ (Nat.le_trans hkl (Keep.of_wr W374_).1) C375_ (Ol.wr W374_ g200_) (Ex.wr W374_) (Fx.other W374_ (Or.inl q198_)) (Fy.other W374_ (Or.inl q198_)) (Vx.other W374_ q199_) Vz (by rw [List.length_set]; exact hxl) (own_chs_set hxs hrk)
      · refine own_viaH (fun _ kq => XS.icmpYes Xl.here hx rfl (pc0 := 128) (pc' := 147) rfl (hb hby at_128) rfl (flt hg).2.2.2 (by decide) (by decide) kq) ?_
        show own_FinH _ _ _ _ _ _ _ _ _ Tl (mkF m 147 #[.val (.int p1), .val (.int p2), .val (.int p3), .val (.int p4), .val (.int p5), .val (.ref a196_), .val (.int nn), .val (.int po), .val (.int cc), .val (.int fl), .val (.ref b197_), .unset, .unset, .unset] [])
        exact s147 xs Tl _ Xl Nl _ el hkl Cl Ol Ex Fx Fy Vx Vl (by assumption) (by assumption)
     have s103 : ∀ (xs : List Int32) (Tl : State) (locl : List Loc) (Xl : Stand p l e room_1 (s.setVm T196_.vm) m #[(.int p1), (.int p2), (.int p3), (.int p4), (.int p5)] below meth cde Tl locl (0 + 2 + 1) (0 + (72 + 4) + 19)) (Nl : Fr n0 locl) (hl : Heap) (el : Tl.heap = hl) (hkl : h197_.size ≤ hl.size) (Cl : CHr Z own_EL s.vm h0 T196_.vm hl) (Ol : Old Z n0 hl) (Ex : Exa Z hl a196_ "java/lang/String") (Fx : Fld Z hl a196_ "java/lang/String" "coder" "B" (.int (0 : Int32))) (Fy : Fld Z hl a196_ "java/lang/String" "value" "[B" (.ref b196_)) (Vx : Arv Z hl b196_ kb196_ .byte (18 : Int32) own_v2 (.int 0)) (Vl : Arv Z hl b197_ k197_ .char nn (xs.map Value.int) (.int 0)) (hxl : xs.length = n) (hxs : own_chs xs), own_FinH p e s below Z own_EL (own_Q_law Z p1 p2 p3 p4 p5 cz fm va kv bt ct sb tb ktb sc tc ktc em h0 n0) room_1.cells room_1.slots Tl (mkF m 103 #[.val (.int p1), .val (.int p2), .val (.int p3), .val (.int p4), .val (.int p5), .val (.ref a196_), .val (.int nn), .val (.int po), .val (.int cc), .val (.int fl), .val (.ref b197_), .unset, .unset, .unset] []) := by
      intro xs Tl locl Xl Nl hl el hkl Cl Ol Ex Fx Fy Vx Vl hxl hxs
      have Zl : n0 ≤ hl.size := Nat.le_trans Z0 Cl.2.1
      refine own_viaH (fun _ kq => XS.iload Xl.here hx rfl (hb hby at_103) rfl kq) ?_
      refine own_viaH (fun _ kq => XS.iconst Xl.here hx rfl (hb hby at_105) kq) ?_
      rcases Classical.em ((2 : Int32) < nn) with hg | hg
      · refine own_viaH (fun _ kq => XS.icmpNo Xl.here hx rfl (hb hby at_106) rfl (tlt hg).2.2.2 kq) ?_
        show own_FinH _ _ _ _ _ _ _ _ _ Tl (mkF m 109 #[.val (.int p1), .val (.int p2), .val (.int p3), .val (.int p4), .val (.int p5), .val (.ref a196_), .val (.int nn), .val (.int po), .val (.int cc), .val (.int fl), .val (.ref b197_), .unset, .unset, .unset] [])
        have hlt : 2 < n := own_kn (i := 2) rfl hN (by decide) hn4 hg
        refine own_viaH (fun _ kq => XS.aload Xl.here hx rfl (hb hby at_109) rfl rfl kq) ?_
        refine own_viaH (fun _ kq => XS.iconst Xl.here hx rfl (hb hby at_111) kq) ?_
        refine own_viaH (fun _ kq => XS.aload Xl.here hx rfl (hb hby at_112) rfl rfl kq) ?_
        refine own_viaH (fun _ kq => XS.iconst Xl.here hx rfl (hb hby at_114) kq) ?_
        refine own_viaH (fun _ kq => XS.iload Xl.here hx rfl (hb hby at_115) rfl kq) ?_
        refine own_viaH (fun _ kq => XS.iload Xl.here hx rfl (hb hby at_117) rfl kq) ?_
        show own_FinH _ _ _ _ _ _ _ _ _ Tl (mkF m 119 #[.val (.int p1), .val (.int p2), .val (.int p3), .val (.int p4), .val (.int p5), .val (.ref a196_), .val (.int nn), .val (.int po), .val (.int cc), .val (.int fl), .val (.ref b197_), .unset, .unset, .unset] [(.int cc), (.int po), (.int (2 : Int32)), (.ref a196_), (.int (2 : Int32)), (.ref b197_)])
        refine own_viaH (fun _ kq => XS.iload Xl.here hx rfl (hb hby at_119) rfl kq) ?_
        show own_FinH _ _ _ _ _ _ _ _ _ Tl (mkF m 121 #[.val (.int p1), .val (.int p2), .val (.int p3), .val (.int p4), .val (.int p5), .val (.ref a196_), .val (.int nn), .val (.int po), .val (.int cc), .val (.int fl), .val (.ref b197_), .unset, .unset, .unset] [(.int fl), (.int cc), (.int po), (.int (2 : Int32)), (.ref a196_), (.int (2 : Int32)), (.ref b197_)])
        obtain ⟨_, _, ⟨T377_, L377_, k377_, n377_⟩, -, X377_, ⟨Lc377_, hQ377_, l377_, y377_, z377_⟩, st377_⟩ := Jvm.LawKit.callS Xl hx (y := (⟨"com/example/lichen/lichen/webhook/EventTypeOfPinLaw", "pick", "(Ljava/lang/String;IICZ)C"⟩ : MethodName)) hown196_ (mvT hZ196_ (own_w hw 11 rfl)) (mvT hZ196_ (own_w hw 12 rfl)) (mvT hZ196_ (own_w hw 13 rfl)) (mvT hZ196_ (own_w hw 14 rfl)) (by decide) (backOf (W := 2) (own_rm_pick l Z a0 hw [] a196_ cz b196_ kb196_ (18 : Int32) own_v2 own_t2 fm (2 : Int32) 2 po cc fl hl n0 Zl Ol S1 P5 S2 r_fm Ex Fx Fy Vx own_lita2 (by decide) own_litr2 rfl (by decide) hcc) hZ196_ (own_w hw 14 rfl) (own_w hw 13 rfl) (by decide) (by decide)) (g := (mkF m 121 #[.val (.int p1), .val (.int p2), .val (.int p3), .val (.int p4), .val (.int p5), .val (.ref a196_), .val (.int nn), .val (.int po), .val (.int cc), .val (.int fl), .val (.ref b197_), .unset, .unset, .unset] [(.int fl), (.int cc), (.int po), (.int (2 : Int32)), (.ref a196_), (.int (2 : Int32)), (.ref b197_)])) rfl (by rw [hml]; rfl) (argsL := [(.ref a196_), (.int (2 : Int32)), (.int po), (.int cc), (.int fl)]) (rest := [(.int (2 : Int32)), (.ref b197_)]) (lenOf own_pd24 rfl) rfl (by show 2 * 0 + _ ≤ _; exact Nat.le_of_eq rfl) (hb hby at_121) (fun _ _ => ⟨rfl, el, (by decide : (0 + 2 + 1) + 0 ≤ _), (by decide : (0 + (72 + 4) + 19) + 0 ≤ _)⟩)
        dsimp only [Pt.U, Pt.locs, Pt.cells, Pt.slots] at X377_ l377_ y377_ z377_ st377_ hQ377_
        subst l377_ y377_ z377_
        obtain ⟨rk, rfl, Nq377_, hh377_, hrk⟩ := hQ377_
        have N377_ := Fr.app Nl Nq377_
        refine own_viaH (fun _ kq => st377_ _ kq) ?_
        show own_FinH _ _ _ _ _ _ _ _ _ T377_ (mkF m 124 #[.val (.int p1), .val (.int p2), .val (.int p3), .val (.int p4), .val (.int p5), .val (.ref a196_), .val (.int nn), .val (.int po), .val (.int cc), .val (.int fl), .val (.ref b197_), .unset, .unset, .unset] [(.int rk), (.int (2 : Int32)), (.ref b197_)])
        obtain ⟨c378_, Ar378_, q378_, S378_, M378_, H378_, G378_⟩ := (id Vl)
        have hin378_ : ¬ ((2 : Int32) < 0 ∨ c378_.slots.size ≤ ((2 : Int32)).toNatClampNeg) := inb_of S378_ (own_inb (i := 2) rfl hN hlt hn10)
        obtain ⟨T378_, h378_, X378_, e378_, W378_, st378_⟩ := stC X377_ hx hZ196_ hh377_ Ar378_ (j := (2 : Int32)) hin378_ (g := (mkF m 124 #[.val (.int p1), .val (.int p2), .val (.int p3), .val (.int p4), .val (.int p5), .val (.ref a196_), .val (.int nn), .val (.int po), .val (.int cc), .val (.int fl), .val (.ref b197_), .unset, .unset, .unset] [(.int rk), (.int (2 : Int32)), (.ref b197_)])) rfl rfl (hb hby at_124)
        have V378_ := Arv.set Ar378_ q378_ S378_ M378_ H378_ G378_ (fits_nar_char _) W378_ 2 (own_clamp (i := 2) rfl (by decide)) (by rw [List.length_map, hxl]; exact hlt)
        have U378_ : Arv Z h378_ b197_ k197_ .char nn (((xs.map Value.int)).set 2 (.int rk)) (.int 0) := by
          have hq := V378_
          rw [show nar .char rk = rk from (own_narch hrk)] at hq
          exact hq
        have N378_ := Fr.snoc X378_ N377_ g200_
        refine own_viaH (fun _ kq => st378_ _ kq) ?_
        show own_FinH _ _ _ _ _ _ _ _ _ T378_ (mkF m 125 #[.val (.int p1), .val (.int p2), .val (.int p3), .val (.int p4), .val (.int p5), .val (.ref a196_), .val (.int nn), .val (.int po), .val (.int cc), .val (.int fl), .val (.ref b197_), .unset, .unset, .unset] [])
        have Vz : Arv Z h378_ b197_ k197_ .char nn ((xs.set 2 rk).map Value.int) (.int 0) := by rw [List.map_set]; exact U378_
        have sf380_ : Safe Z own_EL T196_.vm hl b197_ := Safe.arv hZ196_.alike Vl (by decide)
        have C379_ := Cl.trans (CHr.wr W378_ sf380_ Cl.1)
        have H379_ := C379_.1
        exact s125 (xs.set 2 rk) T378_ _ X378_ N378_ _ e378_ (Nat.le_trans hkl (Keep.of_wr W378_).1) C379_ (Ol.wr W378_ g200_) (Ex.wr W378_) (Fx.other W378_ (Or.inl q198_)) (Fy.other W378_ (Or.inl q198_)) (Vx.other W378_ q199_) Vz (by rw [List.length_set]; exact hxl) (own_chs_set hxs hrk)
      · refine own_viaH (fun _ kq => XS.icmpYes Xl.here hx rfl (pc0 := 106) (pc' := 125) rfl (hb hby at_106) rfl (flt hg).2.2.2 (by decide) (by decide) kq) ?_
        show own_FinH _ _ _ _ _ _ _ _ _ Tl (mkF m 125 #[.val (.int p1), .val (.int p2), .val (.int p3), .val (.int p4), .val (.int p5), .val (.ref a196_), .val (.int nn), .val (.int po), .val (.int cc), .val (.int fl), .val (.ref b197_), .unset, .unset, .unset] [])
        exact s125 xs Tl _ Xl Nl _ el hkl Cl Ol Ex Fx Fy Vx Vl (by assumption) (by assumption)
     have s81 : ∀ (xs : List Int32) (Tl : State) (locl : List Loc) (Xl : Stand p l e room_1 (s.setVm T196_.vm) m #[(.int p1), (.int p2), (.int p3), (.int p4), (.int p5)] below meth cde Tl locl (0 + 2 + 1) (0 + (72 + 4) + 19)) (Nl : Fr n0 locl) (hl : Heap) (el : Tl.heap = hl) (hkl : h197_.size ≤ hl.size) (Cl : CHr Z own_EL s.vm h0 T196_.vm hl) (Ol : Old Z n0 hl) (Ex : Exa Z hl a196_ "java/lang/String") (Fx : Fld Z hl a196_ "java/lang/String" "coder" "B" (.int (0 : Int32))) (Fy : Fld Z hl a196_ "java/lang/String" "value" "[B" (.ref b196_)) (Vx : Arv Z hl b196_ kb196_ .byte (18 : Int32) own_v2 (.int 0)) (Vl : Arv Z hl b197_ k197_ .char nn (xs.map Value.int) (.int 0)) (hxl : xs.length = n) (hxs : own_chs xs), own_FinH p e s below Z own_EL (own_Q_law Z p1 p2 p3 p4 p5 cz fm va kv bt ct sb tb ktb sc tc ktc em h0 n0) room_1.cells room_1.slots Tl (mkF m 81 #[.val (.int p1), .val (.int p2), .val (.int p3), .val (.int p4), .val (.int p5), .val (.ref a196_), .val (.int nn), .val (.int po), .val (.int cc), .val (.int fl), .val (.ref b197_), .unset, .unset, .unset] []) := by
      intro xs Tl locl Xl Nl hl el hkl Cl Ol Ex Fx Fy Vx Vl hxl hxs
      have Zl : n0 ≤ hl.size := Nat.le_trans Z0 Cl.2.1
      refine own_viaH (fun _ kq => XS.iload Xl.here hx rfl (hb hby at_81) rfl kq) ?_
      refine own_viaH (fun _ kq => XS.iconst Xl.here hx rfl (hb hby at_83) kq) ?_
      rcases Classical.em ((1 : Int32) < nn) with hg | hg
      · refine own_viaH (fun _ kq => XS.icmpNo Xl.here hx rfl (hb hby at_84) rfl (tlt hg).2.2.2 kq) ?_
        show own_FinH _ _ _ _ _ _ _ _ _ Tl (mkF m 87 #[.val (.int p1), .val (.int p2), .val (.int p3), .val (.int p4), .val (.int p5), .val (.ref a196_), .val (.int nn), .val (.int po), .val (.int cc), .val (.int fl), .val (.ref b197_), .unset, .unset, .unset] [])
        have hlt : 1 < n := own_kn (i := 1) rfl hN (by decide) hn4 hg
        refine own_viaH (fun _ kq => XS.aload Xl.here hx rfl (hb hby at_87) rfl rfl kq) ?_
        refine own_viaH (fun _ kq => XS.iconst Xl.here hx rfl (hb hby at_89) kq) ?_
        refine own_viaH (fun _ kq => XS.aload Xl.here hx rfl (hb hby at_90) rfl rfl kq) ?_
        refine own_viaH (fun _ kq => XS.iconst Xl.here hx rfl (hb hby at_92) kq) ?_
        refine own_viaH (fun _ kq => XS.iload Xl.here hx rfl (hb hby at_93) rfl kq) ?_
        refine own_viaH (fun _ kq => XS.iload Xl.here hx rfl (hb hby at_95) rfl kq) ?_
        show own_FinH _ _ _ _ _ _ _ _ _ Tl (mkF m 97 #[.val (.int p1), .val (.int p2), .val (.int p3), .val (.int p4), .val (.int p5), .val (.ref a196_), .val (.int nn), .val (.int po), .val (.int cc), .val (.int fl), .val (.ref b197_), .unset, .unset, .unset] [(.int cc), (.int po), (.int (1 : Int32)), (.ref a196_), (.int (1 : Int32)), (.ref b197_)])
        refine own_viaH (fun _ kq => XS.iload Xl.here hx rfl (hb hby at_97) rfl kq) ?_
        show own_FinH _ _ _ _ _ _ _ _ _ Tl (mkF m 99 #[.val (.int p1), .val (.int p2), .val (.int p3), .val (.int p4), .val (.int p5), .val (.ref a196_), .val (.int nn), .val (.int po), .val (.int cc), .val (.int fl), .val (.ref b197_), .unset, .unset, .unset] [(.int fl), (.int cc), (.int po), (.int (1 : Int32)), (.ref a196_), (.int (1 : Int32)), (.ref b197_)])
        obtain ⟨_, _, ⟨T381_, L381_, k381_, n381_⟩, -, X381_, ⟨Lc381_, hQ381_, l381_, y381_, z381_⟩, st381_⟩ := Jvm.LawKit.callS Xl hx (y := (⟨"com/example/lichen/lichen/webhook/EventTypeOfPinLaw", "pick", "(Ljava/lang/String;IICZ)C"⟩ : MethodName)) hown196_ (mvT hZ196_ (own_w hw 11 rfl)) (mvT hZ196_ (own_w hw 12 rfl)) (mvT hZ196_ (own_w hw 13 rfl)) (mvT hZ196_ (own_w hw 14 rfl)) (by decide) (backOf (W := 2) (own_rm_pick l Z a0 hw [] a196_ cz b196_ kb196_ (18 : Int32) own_v2 own_t2 fm (1 : Int32) 1 po cc fl hl n0 Zl Ol S1 P5 S2 r_fm Ex Fx Fy Vx own_lita2 (by decide) own_litr2 rfl (by decide) hcc) hZ196_ (own_w hw 14 rfl) (own_w hw 13 rfl) (by decide) (by decide)) (g := (mkF m 99 #[.val (.int p1), .val (.int p2), .val (.int p3), .val (.int p4), .val (.int p5), .val (.ref a196_), .val (.int nn), .val (.int po), .val (.int cc), .val (.int fl), .val (.ref b197_), .unset, .unset, .unset] [(.int fl), (.int cc), (.int po), (.int (1 : Int32)), (.ref a196_), (.int (1 : Int32)), (.ref b197_)])) rfl (by rw [hml]; rfl) (argsL := [(.ref a196_), (.int (1 : Int32)), (.int po), (.int cc), (.int fl)]) (rest := [(.int (1 : Int32)), (.ref b197_)]) (lenOf own_pd24 rfl) rfl (by show 2 * 0 + _ ≤ _; exact Nat.le_of_eq rfl) (hb hby at_99) (fun _ _ => ⟨rfl, el, (by decide : (0 + 2 + 1) + 0 ≤ _), (by decide : (0 + (72 + 4) + 19) + 0 ≤ _)⟩)
        dsimp only [Pt.U, Pt.locs, Pt.cells, Pt.slots] at X381_ l381_ y381_ z381_ st381_ hQ381_
        subst l381_ y381_ z381_
        obtain ⟨rk, rfl, Nq381_, hh381_, hrk⟩ := hQ381_
        have N381_ := Fr.app Nl Nq381_
        refine own_viaH (fun _ kq => st381_ _ kq) ?_
        show own_FinH _ _ _ _ _ _ _ _ _ T381_ (mkF m 102 #[.val (.int p1), .val (.int p2), .val (.int p3), .val (.int p4), .val (.int p5), .val (.ref a196_), .val (.int nn), .val (.int po), .val (.int cc), .val (.int fl), .val (.ref b197_), .unset, .unset, .unset] [(.int rk), (.int (1 : Int32)), (.ref b197_)])
        obtain ⟨c382_, Ar382_, q382_, S382_, M382_, H382_, G382_⟩ := (id Vl)
        have hin382_ : ¬ ((1 : Int32) < 0 ∨ c382_.slots.size ≤ ((1 : Int32)).toNatClampNeg) := inb_of S382_ (own_inb (i := 1) rfl hN hlt hn10)
        obtain ⟨T382_, h382_, X382_, e382_, W382_, st382_⟩ := stC X381_ hx hZ196_ hh381_ Ar382_ (j := (1 : Int32)) hin382_ (g := (mkF m 102 #[.val (.int p1), .val (.int p2), .val (.int p3), .val (.int p4), .val (.int p5), .val (.ref a196_), .val (.int nn), .val (.int po), .val (.int cc), .val (.int fl), .val (.ref b197_), .unset, .unset, .unset] [(.int rk), (.int (1 : Int32)), (.ref b197_)])) rfl rfl (hb hby at_102)
        have V382_ := Arv.set Ar382_ q382_ S382_ M382_ H382_ G382_ (fits_nar_char _) W382_ 1 (own_clamp (i := 1) rfl (by decide)) (by rw [List.length_map, hxl]; exact hlt)
        have U382_ : Arv Z h382_ b197_ k197_ .char nn (((xs.map Value.int)).set 1 (.int rk)) (.int 0) := by
          have hq := V382_
          rw [show nar .char rk = rk from (own_narch hrk)] at hq
          exact hq
        have N382_ := Fr.snoc X382_ N381_ g200_
        refine own_viaH (fun _ kq => st382_ _ kq) ?_
        show own_FinH _ _ _ _ _ _ _ _ _ T382_ (mkF m 103 #[.val (.int p1), .val (.int p2), .val (.int p3), .val (.int p4), .val (.int p5), .val (.ref a196_), .val (.int nn), .val (.int po), .val (.int cc), .val (.int fl), .val (.ref b197_), .unset, .unset, .unset] [])
        have Vz : Arv Z h382_ b197_ k197_ .char nn ((xs.set 1 rk).map Value.int) (.int 0) := by rw [List.map_set]; exact U382_
        have sf384_ : Safe Z own_EL T196_.vm hl b197_ := Safe.arv hZ196_.alike Vl (by decide)
        have C383_ := Cl.trans (CHr.wr W382_ sf384_ Cl.1)
        have H383_ := C383_.1
        exact s103 (xs.set 1 rk) T382_ _ X382_ N382_ _ e382_ (Nat.le_trans hkl (Keep.of_wr W382_).1) C383_ (Ol.wr W382_ g200_) (Ex.wr W382_) (Fx.other W382_ (Or.inl q198_)) (Fy.other W382_ (Or.inl q198_)) (Vx.other W382_ q199_) Vz (by rw [List.length_set]; exact hxl) (own_chs_set hxs hrk)
      · refine own_viaH (fun _ kq => XS.icmpYes Xl.here hx rfl (pc0 := 84) (pc' := 103) rfl (hb hby at_84) rfl (flt hg).2.2.2 (by decide) (by decide) kq) ?_
        show own_FinH _ _ _ _ _ _ _ _ _ Tl (mkF m 103 #[.val (.int p1), .val (.int p2), .val (.int p3), .val (.int p4), .val (.int p5), .val (.ref a196_), .val (.int nn), .val (.int po), .val (.int cc), .val (.int fl), .val (.ref b197_), .unset, .unset, .unset] [])
        exact s103 xs Tl _ Xl Nl _ el hkl Cl Ol Ex Fx Fy Vx Vl (by assumption) (by assumption)
     have s60 : ∀ (xs : List Int32) (Tl : State) (locl : List Loc) (Xl : Stand p l e room_1 (s.setVm T196_.vm) m #[(.int p1), (.int p2), (.int p3), (.int p4), (.int p5)] below meth cde Tl locl (0 + 2 + 1) (0 + (72 + 4) + 19)) (Nl : Fr n0 locl) (hl : Heap) (el : Tl.heap = hl) (hkl : h197_.size ≤ hl.size) (Cl : CHr Z own_EL s.vm h0 T196_.vm hl) (Ol : Old Z n0 hl) (Ex : Exa Z hl a196_ "java/lang/String") (Fx : Fld Z hl a196_ "java/lang/String" "coder" "B" (.int (0 : Int32))) (Fy : Fld Z hl a196_ "java/lang/String" "value" "[B" (.ref b196_)) (Vx : Arv Z hl b196_ kb196_ .byte (18 : Int32) own_v2 (.int 0)) (Vl : Arv Z hl b197_ k197_ .char nn (xs.map Value.int) (.int 0)) (hxl : xs.length = n) (hxs : own_chs xs), own_FinH p e s below Z own_EL (own_Q_law Z p1 p2 p3 p4 p5 cz fm va kv bt ct sb tb ktb sc tc ktc em h0 n0) room_1.cells room_1.slots Tl (mkF m 60 #[.val (.int p1), .val (.int p2), .val (.int p3), .val (.int p4), .val (.int p5), .val (.ref a196_), .val (.int nn), .val (.int po), .val (.int cc), .val (.int fl), .val (.ref b197_), .unset, .unset, .unset] []) := by
      intro xs Tl locl Xl Nl hl el hkl Cl Ol Ex Fx Fy Vx Vl hxl hxs
      have Zl : n0 ≤ hl.size := Nat.le_trans Z0 Cl.2.1
      refine own_viaH (fun _ kq => XS.iload Xl.here hx rfl (hb hby at_60) rfl kq) ?_
      rcases Classical.em ((0 : Int32) < nn) with hg | hg
      · refine own_viaH (fun _ kq => XS.ifNo Xl.here hx rfl (hb hby at_62) rfl ((if0 _ _).trans (tlt hg).2.2.2) kq) ?_
        show own_FinH _ _ _ _ _ _ _ _ _ Tl (mkF m 65 #[.val (.int p1), .val (.int p2), .val (.int p3), .val (.int p4), .val (.int p5), .val (.ref a196_), .val (.int nn), .val (.int po), .val (.int cc), .val (.int fl), .val (.ref b197_), .unset, .unset, .unset] [])
        have hlt : 0 < n := own_kn (i := 0) rfl hN (by decide) hn4 hg
        refine own_viaH (fun _ kq => XS.aload Xl.here hx rfl (hb hby at_65) rfl rfl kq) ?_
        refine own_viaH (fun _ kq => XS.iconst Xl.here hx rfl (hb hby at_67) kq) ?_
        refine own_viaH (fun _ kq => XS.aload Xl.here hx rfl (hb hby at_68) rfl rfl kq) ?_
        refine own_viaH (fun _ kq => XS.iconst Xl.here hx rfl (hb hby at_70) kq) ?_
        refine own_viaH (fun _ kq => XS.iload Xl.here hx rfl (hb hby at_71) rfl kq) ?_
        refine own_viaH (fun _ kq => XS.iload Xl.here hx rfl (hb hby at_73) rfl kq) ?_
        refine own_viaH (fun _ kq => XS.iload Xl.here hx rfl (hb hby at_75) rfl kq) ?_
        show own_FinH _ _ _ _ _ _ _ _ _ Tl (mkF m 77 #[.val (.int p1), .val (.int p2), .val (.int p3), .val (.int p4), .val (.int p5), .val (.ref a196_), .val (.int nn), .val (.int po), .val (.int cc), .val (.int fl), .val (.ref b197_), .unset, .unset, .unset] [(.int fl), (.int cc), (.int po), (.int (0 : Int32)), (.ref a196_), (.int (0 : Int32)), (.ref b197_)])
        obtain ⟨_, _, ⟨T385_, L385_, k385_, n385_⟩, -, X385_, ⟨Lc385_, hQ385_, l385_, y385_, z385_⟩, st385_⟩ := Jvm.LawKit.callS Xl hx (y := (⟨"com/example/lichen/lichen/webhook/EventTypeOfPinLaw", "pick", "(Ljava/lang/String;IICZ)C"⟩ : MethodName)) hown196_ (mvT hZ196_ (own_w hw 11 rfl)) (mvT hZ196_ (own_w hw 12 rfl)) (mvT hZ196_ (own_w hw 13 rfl)) (mvT hZ196_ (own_w hw 14 rfl)) (by decide) (backOf (W := 2) (own_rm_pick l Z a0 hw [] a196_ cz b196_ kb196_ (18 : Int32) own_v2 own_t2 fm (0 : Int32) 0 po cc fl hl n0 Zl Ol S1 P5 S2 r_fm Ex Fx Fy Vx own_lita2 (by decide) own_litr2 rfl (by decide) hcc) hZ196_ (own_w hw 14 rfl) (own_w hw 13 rfl) (by decide) (by decide)) (g := (mkF m 77 #[.val (.int p1), .val (.int p2), .val (.int p3), .val (.int p4), .val (.int p5), .val (.ref a196_), .val (.int nn), .val (.int po), .val (.int cc), .val (.int fl), .val (.ref b197_), .unset, .unset, .unset] [(.int fl), (.int cc), (.int po), (.int (0 : Int32)), (.ref a196_), (.int (0 : Int32)), (.ref b197_)])) rfl (by rw [hml]; rfl) (argsL := [(.ref a196_), (.int (0 : Int32)), (.int po), (.int cc), (.int fl)]) (rest := [(.int (0 : Int32)), (.ref b197_)]) (lenOf own_pd24 rfl) rfl (by show 2 * 0 + _ ≤ _; exact Nat.le_of_eq rfl) (hb hby at_77) (fun _ _ => ⟨rfl, el, (by decide : (0 + 2 + 1) + 0 ≤ _), (by decide : (0 + (72 + 4) + 19) + 0 ≤ _)⟩)
        dsimp only [Pt.U, Pt.locs, Pt.cells, Pt.slots] at X385_ l385_ y385_ z385_ st385_ hQ385_
        subst l385_ y385_ z385_
        obtain ⟨rk, rfl, Nq385_, hh385_, hrk⟩ := hQ385_
        have N385_ := Fr.app Nl Nq385_
        refine own_viaH (fun _ kq => st385_ _ kq) ?_
        show own_FinH _ _ _ _ _ _ _ _ _ T385_ (mkF m 80 #[.val (.int p1), .val (.int p2), .val (.int p3), .val (.int p4), .val (.int p5), .val (.ref a196_), .val (.int nn), .val (.int po), .val (.int cc), .val (.int fl), .val (.ref b197_), .unset, .unset, .unset] [(.int rk), (.int (0 : Int32)), (.ref b197_)])
        obtain ⟨c386_, Ar386_, q386_, S386_, M386_, H386_, G386_⟩ := (id Vl)
        have hin386_ : ¬ ((0 : Int32) < 0 ∨ c386_.slots.size ≤ ((0 : Int32)).toNatClampNeg) := inb_of S386_ (own_inb (i := 0) rfl hN hlt hn10)
        obtain ⟨T386_, h386_, X386_, e386_, W386_, st386_⟩ := stC X385_ hx hZ196_ hh385_ Ar386_ (j := (0 : Int32)) hin386_ (g := (mkF m 80 #[.val (.int p1), .val (.int p2), .val (.int p3), .val (.int p4), .val (.int p5), .val (.ref a196_), .val (.int nn), .val (.int po), .val (.int cc), .val (.int fl), .val (.ref b197_), .unset, .unset, .unset] [(.int rk), (.int (0 : Int32)), (.ref b197_)])) rfl rfl (hb hby at_80)
        have V386_ := Arv.set Ar386_ q386_ S386_ M386_ H386_ G386_ (fits_nar_char _) W386_ 0 (own_clamp (i := 0) rfl (by decide)) (by rw [List.length_map, hxl]; exact hlt)
        have U386_ : Arv Z h386_ b197_ k197_ .char nn (((xs.map Value.int)).set 0 (.int rk)) (.int 0) := by
          have hq := V386_
          rw [show nar .char rk = rk from (own_narch hrk)] at hq
          exact hq
        have N386_ := Fr.snoc X386_ N385_ g200_
        refine own_viaH (fun _ kq => st386_ _ kq) ?_
        show own_FinH _ _ _ _ _ _ _ _ _ T386_ (mkF m 81 #[.val (.int p1), .val (.int p2), .val (.int p3), .val (.int p4), .val (.int p5), .val (.ref a196_), .val (.int nn), .val (.int po), .val (.int cc), .val (.int fl), .val (.ref b197_), .unset, .unset, .unset] [])
        have Vz : Arv Z h386_ b197_ k197_ .char nn ((xs.set 0 rk).map Value.int) (.int 0) := by rw [List.map_set]; exact U386_
        have sf388_ : Safe Z own_EL T196_.vm hl b197_ := Safe.arv hZ196_.alike Vl (by decide)
        have C387_ := Cl.trans (CHr.wr W386_ sf388_ Cl.1)
        have H387_ := C387_.1
        exact s81 (xs.set 0 rk) T386_ _ X386_ N386_ _ e386_ (Nat.le_trans hkl (Keep.of_wr W386_).1) C387_ (Ol.wr W386_ g200_) (Ex.wr W386_) (Fx.other W386_ (Or.inl q198_)) (Fy.other W386_ (Or.inl q198_)) (Vx.other W386_ q199_) Vz (by rw [List.length_set]; exact hxl) (own_chs_set hxs hrk)
      · refine own_viaH (fun _ kq => XS.ifYes Xl.here hx rfl (pc0 := 62) (pc' := 81) rfl (hb hby at_62) rfl ((if0 _ _).trans (flt hg).2.2.2) (by decide) (by decide) kq) ?_
        show own_FinH _ _ _ _ _ _ _ _ _ Tl (mkF m 81 #[.val (.int p1), .val (.int p2), .val (.int p3), .val (.int p4), .val (.int p5), .val (.ref a196_), .val (.int nn), .val (.int po), .val (.int cc), .val (.int fl), .val (.ref b197_), .unset, .unset, .unset] [])
        exact s81 xs Tl _ Xl Nl _ el hkl Cl Ol Ex Fx Fy Vx Vl (by assumption) (by assumption)
     have C389_ := C0.trans Cq196_
     have H389_ := C389_.1
     have C390_ := C389_.trans (CHr.ext E197_ H389_)
     have H390_ := C390_.1
     exact s60 (List.replicate n 0) T197_ _ X197_ N0 _ e197_ (Nat.le_refl _) C390_ ((O0.ext E196_).ext E197_) (rE196_.ext E197_) (rC196_.ext E197_) (rV196_.ext E197_) (rA196_.ext E197_) Vr List.length_replicate own_chs_rep
    rcases Classical.em ((p5 &&& (1 : Int32)) = (0 : Int32)) with hfl | hfl
    · refine own_viaH (fun _ kq => XS.ifYes X196_.here hx rfl (pc0 := 44) (pc' := 51) rfl (hb hby at_44) rfl ((if0 _ _).trans (teq hfl).1) (by decide) (by decide) kq) ?_
      show own_FinH _ _ _ _ _ _ _ _ _ T196_ (mkF m 51 #[.val (.int p1), .val (.int p2), .val (.int p3), .val (.int p4), .val (.int p5), .val (.ref a196_), .val (.int ((p2 &&& (2147483647 : Int32)) % (20 : Int32))), .val (.int ((p3 &&& (2147483647 : Int32)) % (20 : Int32))), .val (.int ((p4 &&& (65535 : Int32)).toUInt32.toUInt16.toUInt32.toInt32)), .unset, .unset, .unset, .unset, .unset] [])
      refine own_viaH (fun _ kq => XS.iconst X196_.here hx rfl (hb hby at_51) kq) ?_
      exact s52 _
    · refine own_viaH (fun _ kq => XS.ifNo X196_.here hx rfl (hb hby at_44) rfl ((if0 _ _).trans (feq hfl).1) kq) ?_
      show own_FinH _ _ _ _ _ _ _ _ _ T196_ (mkF m 47 #[.val (.int p1), .val (.int p2), .val (.int p3), .val (.int p4), .val (.int p5), .val (.ref a196_), .val (.int ((p2 &&& (2147483647 : Int32)) % (20 : Int32))), .val (.int ((p3 &&& (2147483647 : Int32)) % (20 : Int32))), .val (.int ((p4 &&& (65535 : Int32)).toUInt32.toUInt16.toUInt32.toInt32)), .unset, .unset, .unset, .unset, .unset] [])
      refine own_viaH (fun _ kq => XS.iconst X196_.here hx rfl (hb hby at_47) kq) ?_
      refine own_viaH (fun _ kq => XS.goto X196_.here hx rfl (pc0 := 48) (pc' := 52) rfl (hb hby at_48) (by decide) (by decide) kq) ?_
      exact s52 _
set_option maxRecDepth 65536 in
set_option maxHeartbeats 40000000 in
theorem comes_1 {Post : Tables → Env → Array Value → State → Outcome → State → Prop} (hpost : ∀ tb e args s v u, (limb_1_1.after args s (.returned v) u = true ∧ limb_1_2.after args s (.returned v) u = true ∧ True) → ReturnedEndW s (.returned v) u (Jvm.fieldLocs frame_1_writes args s ++ Jvm.arrayLocs frame_1_arrays args s ++ Jvm.staticLocs frame_1_statics s) 24 3328 → Post tb e args s (.returned v) u) :
    ArmFor flags0 classFile x code maxLocals ret World_1 tables_1 room_1 Calls_1 rest_1 Pre_1 Post := by
  intro l hfl _ _ p e ha hc hk s m args below hf hA hF happ hP
  obtain ⟨hcalls, hrest, hpre⟩ := hP
  obtain ⟨-, -, -, hnamed, -, -, -, hat⟩ := (Spec.applies_iff hf).mp happ
  obtain ⟨hg, hn⟩ := and_e (Cond.before_iff.mp (show (Jvm.Cond.and given_1 narrow_1).before args s = true from hpre))
  obtain ⟨g0, k0⟩ := and_e hg
  obtain ⟨g1, k1⟩ := and_e k0
  obtain ⟨g2, k2⟩ := and_e k1
  obtain ⟨g3, k3⟩ := and_e k2
  obtain ⟨g4, k4⟩ := and_e k3
  have g5 := k4
  obtain ⟨w0, w1, w2, w3, w4, rfl⟩ : ∃ w0 w1 w2 w3 w4 : Value, args = #[w0, w1, w2, w3, w4] := by
    have hs : args.size = 5 := by simpa [Cond.value, given_1] using g0
    obtain ⟨L⟩ := args
    match L, hs with
    | [w0, w1, w2, w3, w4], _ => exact ⟨w0, w1, w2, w3, w4, rfl⟩
  have hw := fun d (hd : d ∈ tables_1) => atoms_spec (ws := Jvm.Cond.code x code maxLocals ret :: tables_1) hat d (List.mem_cons_of_mem _ hd)
  have hfit : Fit s := fun {y c} hc i hi => by
    obtain ⟨ha, rfl⟩ := Array.getElem?_eq_some_iff.mp hc
    have q := List.all_eq_true.mp ((Array.all_eq_true_iff_forall_mem.mp hF) _ (Array.getElem_mem ha)) i (List.mem_range.mpr hi)
    simpa [Array.getElem?_eq_getElem hi] using q
  obtain ⟨hsets, hown0⟩ := atoms_of _ (rest_1_c_eq ▸ (show rest_1_c.before _ s = true from hrest))
  have hr0 := Cond.before_iff.mp hown0
  obtain ⟨i0, ei0⟩ := is_v g1
  obtain rfl : w0 = (.int i0) := Option.some.inj ei0
  obtain ⟨i1, ei1⟩ := is_v g2
  obtain rfl : w1 = (.int i1) := Option.some.inj ei1
  obtain ⟨i2, ei2⟩ := is_v g3
  obtain rfl : w2 = (.int i2) := Option.some.inj ei2
  obtain ⟨i3, ei3⟩ := is_v g4
  obtain rfl : w3 = (.int i3) := Option.some.inj ei3
  obtain ⟨i4, ei4⟩ := is_v g5
  obtain rfl : w4 = (.int i4) := Option.some.inj ei4
  have n3 := not_v (Cond.before_iff.mp (hsets _ (List.mem_of_getElem? (i := 2) rfl)))
  obtain ⟨cz, ecz⟩ := is_v (Cond.before_iff.mp (hsets _ (List.mem_of_getElem? (i := 1) rfl)))
  have S8 : Sta s s.heap "java/lang/String" "COMPACT_STRINGS" "Z" (.int cz) := Sta.start ecz (Or.inl (hsets _ (List.mem_of_getElem? (i := 0) rfl)))
  have c13 : ¬ (cz = (0 : Int32)) := gotF (Cond.eq_ints ecz (Term.int_eval (0))) n3
  obtain ⟨fm, efm, rfm⟩ := isR_v (Cond.before_iff.mp (hsets _ (List.mem_of_getElem? (i := 8) rfl)))
  have S9 : Sta s s.heap "jdk/internal/util/Preconditions" "SIOOBE_FORMATTER" "Ljava/util/function/BiFunction;" fm := Sta.start efm (Or.inl (hsets _ (List.mem_of_getElem? (i := 7) rfl)))
  have Sua : Sta s s.heap "java/lang/StringUTF16" "$assertionsDisabled" "Z" (.int (1 : Int32)) := Sta.start (own_eqi (Cond.before_iff.mp (hsets _ (List.mem_of_getElem? (i := 16) rfl)))) (Or.inl (hsets _ (List.mem_of_getElem? (i := 15) rfl)))
  have Suh : Sta s s.heap "java/lang/StringUTF16" "HI_BYTE_SHIFT" "I" (.int (0 : Int32)) := Sta.start (own_eqi (Cond.before_iff.mp (hsets _ (List.mem_of_getElem? (i := 19) rfl)))) (Or.inl (hsets _ (List.mem_of_getElem? (i := 18) rfl)))
  have Sul : Sta s s.heap "java/lang/StringUTF16" "LO_BYTE_SHIFT" "I" (.int (8 : Int32)) := Sta.start (own_eqi (Cond.before_iff.mp (hsets _ (List.mem_of_getElem? (i := 22) rfl)))) (Or.inl (hsets _ (List.mem_of_getElem? (i := 21) rfl)))
  obtain ⟨m0, k0_⟩ := and_e hn
  obtain ⟨m1, k1_⟩ := and_e k0_
  obtain ⟨m2, k2_⟩ := and_e k1_
  obtain ⟨m3, k3_⟩ := and_e k2_
  obtain ⟨m4, k4_⟩ := and_e k3_
  obtain ⟨m5, k5_⟩ := and_e k4_
  obtain ⟨m6, k6_⟩ := and_e k5_
  obtain ⟨m7, k7_⟩ := and_e k6_
  obtain ⟨m8, k8_⟩ := and_e k7_
  obtain ⟨m9, k9_⟩ := and_e k8_
  obtain ⟨m10, k10_⟩ := and_e k9_
  obtain ⟨m11, k11_⟩ := and_e k10_
  obtain ⟨m12, k12_⟩ := and_e k11_
  obtain ⟨m13, k13_⟩ := and_e k12_
  obtain ⟨m14, k14_⟩ := and_e k13_
  obtain ⟨m15, k15_⟩ := and_e k14_
  obtain ⟨m16, k16_⟩ := and_e k15_
  obtain ⟨m17, k17_⟩ := and_e k16_
  obtain ⟨m18, k18_⟩ := and_e k17_
  obtain ⟨m19, k19_⟩ := and_e k18_
  obtain ⟨m20, k20_⟩ := and_e k19_
  obtain ⟨m21, k21_⟩ := and_e k20_
  obtain ⟨m22, k22_⟩ := and_e k21_
  obtain ⟨m23, k23_⟩ := and_e k22_
  obtain ⟨m24, k24_⟩ := and_e k23_
  obtain ⟨m25, k25_⟩ := and_e k24_
  obtain ⟨m26, k26_⟩ := and_e k25_
  obtain ⟨m27, k27_⟩ := and_e k26_
  obtain ⟨m28, k28_⟩ := and_e k27_
  obtain ⟨m29, k29_⟩ := and_e k28_
  obtain ⟨m30, k30_⟩ := and_e k29_
  obtain ⟨m31, k31_⟩ := and_e k30_
  obtain ⟨m32, k32_⟩ := and_e k31_
  obtain ⟨m33, k33_⟩ := and_e k32_
  obtain ⟨m34, k34_⟩ := and_e k33_
  obtain ⟨m35, k35_⟩ := and_e k34_
  obtain ⟨m36, k36_⟩ := and_e k35_
  obtain ⟨m37, k37_⟩ := and_e k36_
  obtain ⟨m38, k38_⟩ := and_e k37_
  obtain ⟨m39, k39_⟩ := and_e k38_
  obtain ⟨m40, k40_⟩ := and_e k39_
  obtain ⟨m41, k41_⟩ := and_e k40_
  obtain ⟨m42, k42_⟩ := and_e k41_
  obtain ⟨m43, k43_⟩ := and_e k42_
  have m44 := k43_
  obtain ⟨va, eva⟩ := arr_v m0
  have Eva := Exa.start eva m1
  obtain ⟨cva, Ava⟩ := Arr.start eva m0
  obtain ⟨lqv, lzv⟩ := own_lenK eva Ava m2
  obtain ⟨bt, ebt⟩ := exa_v m3
  have Ebt := Exa.start ebt m3
  obtain ⟨ct, ect⟩ := exa_v m5
  have Ect := Exa.start ect m5
  have Vva := Arv.start (dv := .null) (vs := [.ref bt, .ref ct]) hfit Ava lqv lzv (by decide) rfl ⟨own_el0 (j := (0 : Int32)) eva Ava (by decide) (own_eqr ebt m4), own_el0 (j := (1 : Int32)) eva Ava (by decide) (own_eqr ect m6), trivial⟩
  obtain ⟨sb, esb⟩ := exa_v m7
  have Esb := Exa.start esb m7
  have Fbt := Fld.start (own_fat ebt esb)
  have Fcsb := Fld.start (own_fat esb (own_eqi m8))
  obtain ⟨tb, etb⟩ := arr_v m9
  have Fvsb := Fld.start (own_fat esb etb)
  obtain ⟨ctb, Atb⟩ := Arr.start etb m9
  obtain ⟨lqtb, lztb⟩ := own_lenK etb Atb m10
  have Vtb := Arv.start (dv := .int 0) (vs := [(.int (98 : Int32)), (.int (97 : Int32)), (.int (116 : Int32)), (.int (99 : Int32)), (.int (104 : Int32)), (.int (46 : Int32)), (.int (115 : Int32)), (.int (105 : Int32)), (.int (103 : Int32)), (.int (110 : Int32)), (.int (101 : Int32)), (.int (100 : Int32))]) hfit Atb lqtb lztb (by decide) rfl ⟨own_el0 (j := (0 : Int32)) etb Atb (by decide) (own_eqi m15), own_el0 (j := (1 : Int32)) etb Atb (by decide) (own_eqi m16), own_el0 (j := (2 : Int32)) etb Atb (by decide) (own_eqi m17), own_el0 (j := (3 : Int32)) etb Atb (by decide) (own_eqi m18), own_el0 (j := (4 : Int32)) etb Atb (by decide) (own_eqi m19), own_el0 (j := (5 : Int32)) etb Atb (by decide) (own_eqi m20), own_el0 (j := (6 : Int32)) etb Atb (by decide) (own_eqi m21), own_el0 (j := (7 : Int32)) etb Atb (by decide) (own_eqi m22), own_el0 (j := (8 : Int32)) etb Atb (by decide) (own_eqi m23), own_el0 (j := (9 : Int32)) etb Atb (by decide) (own_eqi m24), own_el0 (j := (10 : Int32)) etb Atb (by decide) (own_eqi m25), own_el0 (j := (11 : Int32)) etb Atb (by decide) (own_eqi m26), trivial⟩
  obtain ⟨sc, esc⟩ := exa_v m11
  have Esc := Exa.start esc m11
  have Fct := Fld.start (own_fat ect esc)
  have Fcsc := Fld.start (own_fat esc (own_eqi m12))
  obtain ⟨tc, etc⟩ := arr_v m13
  have Fvsc := Fld.start (own_fat esc etc)
  obtain ⟨ctc, Atc⟩ := Arr.start etc m13
  obtain ⟨lqtc, lztc⟩ := own_lenK etc Atc m14
  have Vtc := Arv.start (dv := .int 0) (vs := [(.int (99 : Int32)), (.int (114 : Int32)), (.int (101 : Int32)), (.int (100 : Int32)), (.int (101 : Int32)), (.int (110 : Int32)), (.int (116 : Int32)), (.int (105 : Int32)), (.int (97 : Int32)), (.int (108 : Int32)), (.int (46 : Int32)), (.int (114 : Int32)), (.int (101 : Int32)), (.int (118 : Int32)), (.int (111 : Int32)), (.int (107 : Int32)), (.int (101 : Int32)), (.int (100 : Int32))]) hfit Atc lqtc lztc (by decide) rfl ⟨own_el0 (j := (0 : Int32)) etc Atc (by decide) (own_eqi m27), own_el0 (j := (1 : Int32)) etc Atc (by decide) (own_eqi m28), own_el0 (j := (2 : Int32)) etc Atc (by decide) (own_eqi m29), own_el0 (j := (3 : Int32)) etc Atc (by decide) (own_eqi m30), own_el0 (j := (4 : Int32)) etc Atc (by decide) (own_eqi m31), own_el0 (j := (5 : Int32)) etc Atc (by decide) (own_eqi m32), own_el0 (j := (6 : Int32)) etc Atc (by decide) (own_eqi m33), own_el0 (j := (7 : Int32)) etc Atc (by decide) (own_eqi m34), own_el0 (j := (8 : Int32)) etc Atc (by decide) (own_eqi m35), own_el0 (j := (9 : Int32)) etc Atc (by decide) (own_eqi m36), own_el0 (j := (10 : Int32)) etc Atc (by decide) (own_eqi m37), own_el0 (j := (11 : Int32)) etc Atc (by decide) (own_eqi m38), own_el0 (j := (12 : Int32)) etc Atc (by decide) (own_eqi m39), own_el0 (j := (13 : Int32)) etc Atc (by decide) (own_eqi m40), own_el0 (j := (14 : Int32)) etc Atc (by decide) (own_eqi m41), own_el0 (j := (15 : Int32)) etc Atc (by decide) (own_eqi m42), own_el0 (j := (16 : Int32)) etc Atc (by decide) (own_eqi m43), own_el0 (j := (17 : Int32)) etc Atc (by decide) (own_eqi m44), trivial⟩
  have Sv : Sta s s.heap "com/example/lichen/lichen/webhook/EventType" "$VALUES" "[Lcom/example/lichen/lichen/webhook/EventType;" (.ref va) := Sta.start eva (Or.inr ⟨(own_w hw 83 rfl), (own_w hw 89 rfl)⟩)
  have Sb : Sta s s.heap "com/example/lichen/lichen/webhook/EventType" "BATCH_SIGNED" "Lcom/example/lichen/lichen/webhook/EventType;" (.ref bt) := Sta.start ebt (Or.inr ⟨(own_w hw 83 rfl), (own_w hw 97 rfl)⟩)
  have Sc : Sta s s.heap "com/example/lichen/lichen/webhook/EventType" "CREDENTIAL_REVOKED" "Lcom/example/lichen/lichen/webhook/EventType;" (.ref ct) := Sta.start ect (Or.inr ⟨(own_w hw 83 rfl), (own_w hw 98 rfl)⟩)
  obtain ⟨em, eem⟩ := exa_v (Cond.before_iff.mp (hsets _ (List.mem_of_getElem? (i := 11) rfl)))
  have Eem := Exa.start eem (Cond.before_iff.mp (hsets _ (List.mem_of_getElem? (i := 11) rfl)))
  have Fem := Fld.start (own_fat eem (null_v (Cond.before_iff.mp (hsets _ (List.mem_of_getElem? (i := 12) rfl)))))
  have Se : Sta s s.heap "java/util/Optional" "EMPTY" "Ljava/util/Optional;" (.ref em) := Sta.start eem (Or.inl (hsets _ (List.mem_of_getElem? (i := 10) rfl)))
  obtain ⟨n, o, h1, h2, h3, _, L, rfl, ⟨rfl, N⟩, -, hq⟩ := own_rm_law l s _ hw tables_1 i0 i1 i2 i3 i4 cz fm va cva.cls bt ct sb tb ctb.cls sc tc ctc.cls em s.heap s.heap.size (Nat.le_refl _) (Old.start s) S8 c13 S9 rfm Sua Suh Sul Sv Se Sb Sc Eva Vva Ebt Fbt Esb Fcsb Fvsb Vtb Ect Fct Esc Fcsc Fvsc Vtc Eem Fem p e ha hc hk s m _ below hf ((Spec.applies_iff_loose hf).mp happ).1 ⟨rfl, State.Warmed39.refl s, rfl, CHv.start (own_ew hw) (fun q hq => hcalls.1 q hq) (hsets _ (List.mem_of_getElem? (i := 2) rfl)) (own_w hw 3 rfl) (own_w hw 2 rfl)⟩ trivial
  refine ⟨n, _, h1, h2, h3, hpost _ _ _ _ _ _ ⟨Cond.after_iff.mpr rfl, Cond.after_iff.mpr (eq_i res_at (Term.int_eval (1)) rfl), trivial⟩ ⟨hq.1, hq.2.1, hq.2.2.1, (hq.2.2.2.sift fun y hy => Or.inr (N y hy)).mono (by decide) (by decide)⟩⟩
theorem main_1_1 : Claimed_1_1 := comes_1 fun _ _ _ _ _ _ h hF => ⟨h.1, hF⟩
theorem main_1_2 : Claimed_1_2 := comes_1 fun _ _ _ _ _ _ h hF => ⟨h.2.1, hF⟩
end Jvm.Pilot.@@N@@
namespace Jvm.Pilot.@@N@@
open Jvm Jvm.ClassFile Sem Op Lib Jvm.Free Jvm.Stand Jvm.Pilot.@@N@@.Jvm.D
/-! MADE BY PROGRAM (witnessworld.py) out of the Statement's table words and the real class files: 24 classes; the members and pool entries that the words name. The judged class is class 1, her method 1. -/
namespace start1
open Jvm.ClassFile
def u (s : String) : CpInfo := .utf8 (stringToUtf16 s)
/-- a pool by its gaps: so many unusable entries, then the entry; so many at the end -/
def gap : Nat → List CpInfo → List CpInfo
  | 0, r => r
  | n + 1, r => .unusable :: gap n r
def poolList (es : List (Nat × CpInfo)) (last : Nat) : List CpInfo := es.foldr (fun e r => gap e.1 (e.2 :: r)) (gap last [])
def pool (es : List (Nat × CpInfo)) (last : Nat) : Array CpInfo := ⟨poolList es last⟩
def fileOf (pool : Array CpInfo) (this : Nat) (attrs : Array Attribute := #[]) (ms : Array MethodInfo := #[]) (fl : Nat := 33) (sup : Nat := 0) (ifs : Array Nat := #[]) (fds : Array FieldInfo := #[]) : ClassFile where
  minorVersion := 0
  majorVersion := 65
  constantPool := pool
  accessFlags := fl
  thisClass := this
  superClass := sup
  interfaces := ifs
  fields := fds
  methods := ms
  attributes := attrs
def plain (name : String) (sup : Option ClassId) : Class where
  name := name
  kind := .ordinary
  loader := none
  accessFlags := 33
  super := sup
  interfaces := #[]
  cf := none
  fields := #[]
  methods := #[]
  instanceTypes := #[]
  staticTypes := #[]
  resolved := #[]
  callSites := []
  init := .initialized
  statics := none
  mirror := none

def pool0 : Array CpInfo := pool [(5, u "<init>"), (0, u "()V"), (1, .class_ 10), (1, u "java/lang/Object"), (85, u "clone"), (0, u "()Ljava/lang/Object;")] 26

def k0c0 : Code := { maxStack := 0, maxLocals := 1, code := object_method_1_code, exceptionTable := #[], attributes := #[] }
def k0m0 : Method := { name := "<init>", desc := "()V", sig := { parameters := [], returnType := none }, accessFlags := 1, code := some k0c0 }
def k0m1 : Method := { name := "clone", desc := "()Ljava/lang/Object;", sig := { parameters := [], returnType := some (.object "java/lang/Object") }, accessFlags := 260, code := none }
/-- java/lang/Object -/
def k0 : Class := { plain "java/lang/Object" none with
  accessFlags := 33
  interfaces := #[]
  cf := some (fileOf pool0 8 #[] #[{ accessFlags := 1, nameIndex := 5, descriptorIndex := 6, attributes := #[] }, { accessFlags := 260, nameIndex := 96, descriptorIndex := 97, attributes := #[] }] 33 0 #[] #[])
  fields := #[]
  methods := #[k0m0, k0m1]
  instanceTypes := #[]
  staticTypes := #[]
  resolved := Array.replicate 124 none
  statics := none }

def pool1 : Array CpInfo := pool [(2, .class_ 4), (1, u "java/lang/Object"), (0, u "<init>"), (0, u "()V"), (0, .string 8), (0, u "batch.signed"), (0, .string 10), (0, u "credential.revoked"), (0, .integer 2147483647), (0, .integer 65535), (0, .methodref 14 15), (0, .class_ 16), (0, .nameAndType 17 18), (0, u "com/example/lichen/lichen/webhook/EventTypeOfPinLaw"), (0, u "pick"), (0, u "(Ljava/lang/String;IICZ)C"), (0, .class_ 20), (0, u "java/lang/String"), (0, .methodref 19 22), (0, .nameAndType 5 23), (0, u "([C)V"), (0, .methodref 19 25), (0, .nameAndType 26 27), (0, u "equals"), (0, u "(Ljava/lang/Object;)Z"), (0, .fieldref 29 30), (0, .class_ 31), (0, .nameAndType 32 33), (0, u "com/example/lichen/lichen/webhook/EventType"), (0, u "BATCH_SIGNED"), (0, u "Lcom/example/lichen/lichen/webhook/EventType;"), (0, .fieldref 29 35), (0, .nameAndType 36 33), (0, u "CREDENTIAL_REVOKED"), (0, .methodref 29 38), (0, .nameAndType 39 40), (0, u "of"), (0, u "(Ljava/lang/String;)Ljava/util/Optional;"), (0, .methodref 42 43), (0, .class_ 44), (0, .nameAndType 45 46), (0, u "java/util/Optional"), (0, u "isPresent"), (0, u "()Z"), (0, .methodref 42 48), (0, .nameAndType 49 50), (0, u "get"), (0, u "()Ljava/lang/Object;"), (0, .methodref 19 52), (0, .nameAndType 53 54), (0, u "length"), (0, u "()I"), (0, .methodref 19 56), (0, .nameAndType 57 58), (0, u "charAt"), (0, u "(I)C"), (2, u "law"), (0, u "(IIIII)Z")] 5

def k1m0 : Method := { name := "<init>", desc := "()V", sig := { parameters := [], returnType := none }, accessFlags := 1, code := none }
def k1c1 : Code := { maxStack := 7, maxLocals := 14, code := code, exceptionTable := #[], attributes := #[] }
def k1m1 : Method := { name := "law", desc := "(IIIII)Z", sig := { parameters := [.int, .int, .int, .int, .int], returnType := some .boolean }, accessFlags := 9, code := some k1c1 }
def k1c2 : Code := { maxStack := 2, maxLocals := 5, code := method_3_code, exceptionTable := #[], attributes := #[] }
def k1m2 : Method := { name := "pick", desc := "(Ljava/lang/String;IICZ)C", sig := { parameters := [(.object "java/lang/String"), .int, .int, .char, .boolean], returnType := some .char }, accessFlags := 10, code := some k1c2 }
/-- com/example/lichen/lichen/webhook/EventTypeOfPinLaw -/
def k1 : Class := { plain "com/example/lichen/lichen/webhook/EventTypeOfPinLaw" (some 0) with
  accessFlags := 49
  interfaces := #[]
  cf := some (fileOf pool1 14 #[] #[{ accessFlags := 1, nameIndex := 5, descriptorIndex := 6, attributes := #[] }, { accessFlags := 9, nameIndex := 61, descriptorIndex := 62, attributes := #[] }, { accessFlags := 10, nameIndex := 17, descriptorIndex := 18, attributes := #[] }] 49 2 #[] #[])
  fields := #[]
  methods := #[k1m0, k1m1, k1m2]
  instanceTypes := #[]
  staticTypes := #[]
  resolved := Array.replicate 68 none
  statics := none }

def pool2 : Array CpInfo := pool [(1, .class_ 2), (0, u "java/io/Serializable"), (0, .class_ 4), (0, u "java/lang/Object")] 2

/-- java/io/Serializable -/
def k2 : Class := { plain "java/io/Serializable" (some 0) with
  accessFlags := 1537
  interfaces := #[]
  cf := some (fileOf pool2 1 #[] #[] 1537 3 #[] #[])
  fields := #[]
  methods := #[]
  instanceTypes := #[]
  staticTypes := #[]
  resolved := Array.replicate 7 none
  statics := none }

def pool3 : Array CpInfo := pool [(1, .class_ 2), (0, u "java/lang/Comparable"), (0, .class_ 4), (0, u "java/lang/Object")] 7

/-- java/lang/Comparable -/
def k3 : Class := { plain "java/lang/Comparable" (some 0) with
  accessFlags := 1537
  interfaces := #[]
  cf := some (fileOf pool3 1 #[] #[] 1537 3 #[] #[])
  fields := #[]
  methods := #[]
  instanceTypes := #[]
  staticTypes := #[]
  resolved := Array.replicate 12 none
  statics := none }

def pool4 : Array CpInfo := pool [(2, .class_ 4), (1, u "java/lang/CharSequence"), (42, .class_ 48), (0, u "java/lang/CharSequence$1CodePointIterator"), (10, .class_ 60), (0, u "java/lang/CharSequence$1CharIterator"), (5, .class_ 67), (0, u "java/lang/Object")] 63

/-- java/lang/CharSequence -/
def k4 : Class := { plain "java/lang/CharSequence" (some 0) with
  accessFlags := 1537
  interfaces := #[]
  cf := some (fileOf pool4 2 #[.nestMembers #[47, 59]] #[] 1537 66 #[] #[])
  fields := #[]
  methods := #[]
  instanceTypes := #[]
  staticTypes := #[]
  resolved := Array.replicate 131 none
  statics := none }

def pool5 : Array CpInfo := pool [(1, .class_ 2), (0, u "java/lang/constant/Constable"), (0, .class_ 4), (0, u "java/lang/Object")] 6

/-- java/lang/constant/Constable -/
def k5 : Class := { plain "java/lang/constant/Constable" (some 0) with
  accessFlags := 1537
  interfaces := #[]
  cf := some (fileOf pool5 1 #[] #[] 1537 3 #[] #[])
  fields := #[]
  methods := #[]
  instanceTypes := #[]
  staticTypes := #[]
  resolved := Array.replicate 11 none
  statics := none }

def pool6 : Array CpInfo := pool [(1, .class_ 2), (0, u "java/lang/constant/ConstantDesc"), (0, .class_ 4), (0, u "java/lang/Object")] 32

/-- java/lang/constant/ConstantDesc -/
def k6 : Class := { plain "java/lang/constant/ConstantDesc" (some 0) with
  accessFlags := 1537
  interfaces := #[]
  cf := some (fileOf pool6 1 #[] #[] 1537 3 #[] #[])
  fields := #[]
  methods := #[]
  instanceTypes := #[]
  staticTypes := #[]
  resolved := Array.replicate 37 none
  statics := none }

def pool7 : Array CpInfo := pool [(1, .methodref 2 3), (0, .class_ 4), (0, .nameAndType 5 6), (0, u "java/lang/Object"), (0, u "<init>"), (0, u "()V"), (0, .string 8), (0, u ""), (0, .fieldref 10 11), (0, .class_ 12), (0, .nameAndType 13 14), (0, u "java/lang/String"), (0, u "value"), (0, u "[B"), (0, .fieldref 10 16), (0, .nameAndType 17 18), (0, u "coder"), (0, u "B"), (2, u "hash"), (0, u "I"), (2, u "hashIsZero"), (0, u "Z"), (0, .methodref 10 28), (0, .nameAndType 5 29), (0, u "([CIILjava/lang/Void;)V"), (8, .fieldref 10 39), (0, .nameAndType 40 26), (0, u "COMPACT_STRINGS"), (1, .class_ 44), (1, u "java/lang/StringUTF16"), (0, u "compress"), (1, .methodref 42 48), (0, .nameAndType 49 50), (0, u "coderFromArrayLen"), (0, u "([BI)B"), (56, .class_ 109), (1, u "java/lang/StringLatin1"), (32, u "()Z"), (34, .methodref 42 178), (0, .nameAndType 45 179), (0, u "([CII)[B"), (154, u "()I"), (0, .methodref 10 336), (0, .nameAndType 17 337), (0, u "()B"), (25, u "([BI)C"), (27, u "(II)V"), (35, u "(I)C"), (64, .methodref 10 493), (0, .nameAndType 494 142), (0, u "isLatin1"), (0, .methodref 107 496), (0, .nameAndType 497 363), (0, u "charAt"), (3, u "checkIndex"), (5, u "length"), (33, .methodref 107 542), (0, .nameAndType 543 544), (0, u "equals"), (0, u "([B[B)Z"), (28, u "(Ljava/lang/Object;)Z"), (1, .class_ 576), (0, u "java/lang/CharSequence"), (22, u "CASE_INSENSITIVE_ORDER"), (0, u "Ljava/util/Comparator;"), (409, u "([C)V"), (42, .fieldref 1054 1055), (0, .class_ 1056), (0, .nameAndType 1057 1058), (0, u "jdk/internal/util/Preconditions"), (0, u "SIOOBE_FORMATTER"), (0, u "Ljava/util/function/BiFunction;"), (0, .methodref 1054 1060), (0, .nameAndType 501 1061), (0, u "(IILjava/util/function/BiFunction;)I"), (39, u "serialPersistentFields"), (0, u "[Ljava/io/ObjectStreamField;"), (0, .class_ 1104), (0, u "java/lang/String$CaseInsensitiveComparator"), (1, .class_ 1107), (0, u "java/io/Serializable"), (0, .class_ 1109), (0, u "java/lang/Comparable"), (0, .class_ 1111), (0, u "java/lang/constant/Constable"), (0, .class_ 1113), (0, u "java/lang/constant/ConstantDesc"), (2, u "serialVersionUID"), (0, u "J"), (3, u "REPL"), (0, u "C"), (2, u "LATIN1"), (1, u "UTF16")] 323

def k7m0 : Method := { name := "<init>", desc := "()V", sig := { parameters := [], returnType := none }, accessFlags := 1, code := none }
def k7c1 : Code := { maxStack := 5, maxLocals := 2, code := jdk_42_method_3_code, exceptionTable := #[], attributes := #[] }
def k7m1 : Method := { name := "<init>", desc := "([C)V", sig := { parameters := [(.array .char)], returnType := none }, accessFlags := 1, code := some k7c1 }
def k7c2 : Code := { maxStack := 2, maxLocals := 1, code := jdk_42_method_54_code, exceptionTable := #[], attributes := #[] }
def k7m2 : Method := { name := "length", desc := "()I", sig := { parameters := [], returnType := some .int }, accessFlags := 1, code := some k7c2 }
def k7c3 : Code := { maxStack := 2, maxLocals := 2, code := jdk_42_method_56_code, exceptionTable := #[], attributes := #[] }
def k7m3 : Method := { name := "charAt", desc := "(I)C", sig := { parameters := [.int], returnType := some .char }, accessFlags := 1, code := some k7c3 }
def k7c4 : Code := { maxStack := 2, maxLocals := 3, code := jdk_42_method_66_code, exceptionTable := #[], attributes := #[] }
def k7m4 : Method := { name := "equals", desc := "(Ljava/lang/Object;)Z", sig := { parameters := [(.object "java/lang/Object")], returnType := some .boolean }, accessFlags := 1, code := some k7c4 }
def k7c5 : Code := { maxStack := 4, maxLocals := 6, code := jdk_42_method_149_code, exceptionTable := #[], attributes := #[] }
def k7m5 : Method := { name := "<init>", desc := "([CIILjava/lang/Void;)V", sig := { parameters := [(.array .char), .int, .int, (.object "java/lang/Void")], returnType := none }, accessFlags := 2, code := some k7c5 }
def k7c6 : Code := { maxStack := 1, maxLocals := 1, code := jdk_42_method_152_code, exceptionTable := #[], attributes := #[] }
def k7m6 : Method := { name := "coder", desc := "()B", sig := { parameters := [], returnType := some .byte }, accessFlags := 0, code := some k7c6 }
def k7c7 : Code := { maxStack := 1, maxLocals := 1, code := jdk_42_method_154_code, exceptionTable := #[], attributes := #[] }
def k7m7 : Method := { name := "isLatin1", desc := "()Z", sig := { parameters := [], returnType := some .boolean }, accessFlags := 0, code := some k7c7 }
def k7c8 : Code := { maxStack := 3, maxLocals := 2, code := jdk_42_method_155_code, exceptionTable := #[], attributes := #[] }
def k7m8 : Method := { name := "checkIndex", desc := "(II)V", sig := { parameters := [.int, .int], returnType := none }, accessFlags := 8, code := some k7c8 }
/-- java/lang/String -/
def k7 : Class := { plain "java/lang/String" (some 0) with
  accessFlags := 49
  interfaces := #[2, 3, 4, 5, 6]
  cf := some (fileOf pool7 10 #[.nestMembers #[1103]] #[{ accessFlags := 1, nameIndex := 5, descriptorIndex := 6, attributes := #[] }, { accessFlags := 1, nameIndex := 5, descriptorIndex := 1010, attributes := #[] }, { accessFlags := 1, nameIndex := 507, descriptorIndex := 334, attributes := #[] }, { accessFlags := 1, nameIndex := 497, descriptorIndex := 427, attributes := #[] }, { accessFlags := 1, nameIndex := 543, descriptorIndex := 573, attributes := #[] }, { accessFlags := 2, nameIndex := 5, descriptorIndex := 29, attributes := #[] }, { accessFlags := 0, nameIndex := 17, descriptorIndex := 337, attributes := #[] }, { accessFlags := 0, nameIndex := 494, descriptorIndex := 142, attributes := #[] }, { accessFlags := 8, nameIndex := 501, descriptorIndex := 391, attributes := #[] }] 49 2 #[1106, 1108, 575, 1110, 1112] #[{ accessFlags := 18, nameIndex := 13, descriptorIndex := 14, attributes := #[] }, { accessFlags := 18, nameIndex := 17, descriptorIndex := 18, attributes := #[] }, { accessFlags := 2, nameIndex := 21, descriptorIndex := 22, attributes := #[] }, { accessFlags := 2, nameIndex := 25, descriptorIndex := 26, attributes := #[] }, { accessFlags := 26, nameIndex := 1116, descriptorIndex := 1117, attributes := #[] }, { accessFlags := 24, nameIndex := 40, descriptorIndex := 26, attributes := #[] }, { accessFlags := 26, nameIndex := 1101, descriptorIndex := 1102, attributes := #[] }, { accessFlags := 26, nameIndex := 1121, descriptorIndex := 1122, attributes := #[] }, { accessFlags := 25, nameIndex := 599, descriptorIndex := 600, attributes := #[] }, { accessFlags := 24, nameIndex := 1125, descriptorIndex := 18, attributes := #[] }, { accessFlags := 24, nameIndex := 1127, descriptorIndex := 18, attributes := #[] }])
  fields := #[{ name := "value", type := (.array .byte), accessFlags := 18, slot := 0, constantValue := 0 }, { name := "coder", type := .byte, accessFlags := 18, slot := 1, constantValue := 0 }, { name := "hash", type := .int, accessFlags := 2, slot := 2, constantValue := 0 }, { name := "hashIsZero", type := .boolean, accessFlags := 2, slot := 3, constantValue := 0 }, { name := "serialVersionUID", type := .long, accessFlags := 26, slot := 0, constantValue := 0 }, { name := "COMPACT_STRINGS", type := .boolean, accessFlags := 24, slot := 1, constantValue := 0 }, { name := "serialPersistentFields", type := (.array (.object "java/io/ObjectStreamField")), accessFlags := 26, slot := 2, constantValue := 0 }, { name := "REPL", type := .char, accessFlags := 26, slot := 3, constantValue := 0 }, { name := "CASE_INSENSITIVE_ORDER", type := (.object "java/util/Comparator"), accessFlags := 25, slot := 4, constantValue := 0 }, { name := "LATIN1", type := .byte, accessFlags := 24, slot := 5, constantValue := 0 }, { name := "UTF16", type := .byte, accessFlags := 24, slot := 6, constantValue := 0 }]
  methods := #[k7m0, k7m1, k7m2, k7m3, k7m4, k7m5, k7m6, k7m7, k7m8]
  instanceTypes := #[(.array .byte), .byte, .int, .boolean]
  staticTypes := #[.long, .boolean, (.array (.object "java/io/ObjectStreamField")), .char, (.object "java/util/Comparator"), .byte, .byte]
  resolved := Array.replicate 1451 none
  statics := some 0 }

def pool8 : Array CpInfo := pool [(1, .class_ 2), (0, u "java/lang/String"), (1, .class_ 6), (1, u "java/lang/Object"), (0, u "<init>"), (0, u "()V"), (0, .methodref 1 10), (0, .nameAndType 11 12), (0, u "checkIndex"), (0, u "(II)V"), (1, .class_ 16), (1, u "java/lang/StringLatin1"), (36, u "([BI)C"), (67, u "$assertionsDisabled"), (0, u "Z"), (98, .class_ 223), (1, u "java/lang/StringLatin1$LinesSpliterator"), (28, u "charAt"), (28, u "equals"), (0, u "([B[B)Z"), (107, .class_ 391), (0, u "java/lang/StringLatin1$CharsSpliterator")] 3

def k8m0 : Method := { name := "<init>", desc := "()V", sig := { parameters := [], returnType := none }, accessFlags := 0, code := none }
def k8c1 : Code := { maxStack := 2, maxLocals := 2, code := jdk_43_method_2_code, exceptionTable := #[], attributes := #[] }
def k8m1 : Method := { name := "charAt", desc := "([BI)C", sig := { parameters := [(.array .byte), .int], returnType := some .char }, accessFlags := 9, code := some k8c1 }
def k8c2 : Code := { maxStack := 3, maxLocals := 3, code := jdk_43_method_13_code, exceptionTable := #[], attributes := #[] }
def k8m2 : Method := { name := "equals", desc := "([B[B)Z", sig := { parameters := [(.array .byte), (.array .byte)], returnType := some .boolean }, accessFlags := 9, code := some k8c2 }
/-- java/lang/StringLatin1 -/
def k8 : Class := { plain "java/lang/StringLatin1" (some 0) with
  accessFlags := 48
  interfaces := #[]
  cf := some (fileOf pool8 14 #[.nestMembers #[390, 221]] #[{ accessFlags := 0, nameIndex := 7, descriptorIndex := 8, attributes := #[] }, { accessFlags := 9, nameIndex := 252, descriptorIndex := 53, attributes := #[] }, { accessFlags := 9, nameIndex := 281, descriptorIndex := 282, attributes := #[] }] 48 4 #[] #[{ accessFlags := 4120, nameIndex := 121, descriptorIndex := 122, attributes := #[] }])
  fields := #[{ name := "$assertionsDisabled", type := .boolean, accessFlags := 4120, slot := 0, constantValue := 0 }]
  methods := #[k8m0, k8m1, k8m2]
  instanceTypes := #[]
  staticTypes := #[.boolean]
  resolved := Array.replicate 395 none
  statics := none }

def pool9 : Array CpInfo := pool [(2, .class_ 4), (1, u "java/lang/Object"), (0, u "<init>"), (0, u "()V"), (17, .class_ 26), (1, u "jdk/internal/util/Preconditions"), (6, u "checkIndex"), (21, .class_ 56), (0, u "jdk/internal/util/Preconditions$4"), (57, .class_ 115), (0, u "jdk/internal/util/Preconditions$1"), (7, u "SIOOBE_FORMATTER"), (0, u "Ljava/util/function/BiFunction;"), (0, .class_ 126), (0, u "jdk/internal/util/Preconditions$2"), (3, u "AIOOBE_FORMATTER"), (0, .class_ 132), (0, u "jdk/internal/util/Preconditions$3"), (3, u "IOOBE_FORMATTER"), (41, u "(IILjava/util/function/BiFunction;)I")] 15

def k9m0 : Method := { name := "<init>", desc := "()V", sig := { parameters := [], returnType := none }, accessFlags := 1, code := none }
def k9c1 : Code := { maxStack := 3, maxLocals := 3, code := jdk_41_method_11_code, exceptionTable := #[], attributes := #[] }
def k9m1 : Method := { name := "checkIndex", desc := "(IILjava/util/function/BiFunction;)I", sig := { parameters := [.int, .int, (.object "java/util/function/BiFunction")], returnType := some .int }, accessFlags := 9, code := some k9c1 }
/-- jdk/internal/util/Preconditions -/
def k9 : Class := { plain "jdk/internal/util/Preconditions" (some 0) with
  accessFlags := 33
  interfaces := #[]
  cf := some (fileOf pool9 24 #[.nestMembers #[55, 131, 125, 114]] #[{ accessFlags := 1, nameIndex := 5, descriptorIndex := 6, attributes := #[] }, { accessFlags := 9, nameIndex := 33, descriptorIndex := 178, attributes := #[] }] 33 2 #[] #[{ accessFlags := 25, nameIndex := 123, descriptorIndex := 124, attributes := #[] }, { accessFlags := 25, nameIndex := 130, descriptorIndex := 124, attributes := #[] }, { accessFlags := 25, nameIndex := 136, descriptorIndex := 124, attributes := #[] }])
  fields := #[{ name := "SIOOBE_FORMATTER", type := (.object "java/util/function/BiFunction"), accessFlags := 25, slot := 0, constantValue := 0 }, { name := "AIOOBE_FORMATTER", type := (.object "java/util/function/BiFunction"), accessFlags := 25, slot := 1, constantValue := 0 }, { name := "IOOBE_FORMATTER", type := (.object "java/util/function/BiFunction"), accessFlags := 25, slot := 2, constantValue := 0 }]
  methods := #[k9m0, k9m1]
  instanceTypes := #[]
  staticTypes := #[(.object "java/util/function/BiFunction"), (.object "java/util/function/BiFunction"), (.object "java/util/function/BiFunction")]
  resolved := Array.replicate 194 none
  statics := some 1 }

def pool10 : Array CpInfo := pool [(6, .class_ 8), (1, u "java/lang/Object"), (0, u "<init>"), (0, u "()V"), (0, .methodref 12 13), (0, .class_ 14), (0, .nameAndType 15 16), (0, u "java/lang/StringUTF16"), (0, u "newBytesLength"), (0, u "(I)I"), (3, .integer 1073741823), (23, .fieldref 12 45), (0, .nameAndType 46 47), (0, u "$assertionsDisabled"), (0, u "Z"), (11, .fieldref 12 60), (0, .nameAndType 61 62), (0, u "HI_BYTE_SHIFT"), (0, u "I"), (0, .fieldref 12 64), (0, .nameAndType 65 62), (0, u "LO_BYTE_SHIFT"), (5, .methodref 12 72), (0, .nameAndType 73 74), (0, u "getChar"), (0, u "([BI)C"), (32, .methodref 12 108), (0, .nameAndType 109 110), (0, u "newBytesFor"), (0, u "(I)[B"), (0, .methodref 12 112), (0, .nameAndType 113 114), (0, u "putChar"), (0, u "([BII)V"), (0, .methodref 12 116), (0, .nameAndType 117 118), (0, u "compress"), (0, u "([CI[BII)I"), (0, .methodref 12 120), (0, .nameAndType 121 122), (0, u "toBytes"), (0, u "([CII)[B"), (138, u "coderFromArrayLen"), (0, u "([BI)B"), (106, .class_ 371), (1, u "java/lang/StringUTF16$LinesSpliterator"), (58, u "MAX_LENGTH"), (196, .class_ 628), (0, u "java/lang/StringUTF16$CodePointsSpliterator"), (0, .class_ 630), (0, u "java/lang/StringUTF16$CharsSpliterator")] 4

def k10m0 : Method := { name := "<init>", desc := "()V", sig := { parameters := [], returnType := none }, accessFlags := 0, code := none }
def k10c1 : Code := { maxStack := 1, maxLocals := 1, code := jdk_52_method_2_code, exceptionTable := #[], attributes := #[] }
def k10m1 : Method := { name := "newBytesFor", desc := "(I)[B", sig := { parameters := [.int], returnType := some (.array .byte) }, accessFlags := 9, code := some k10c1 }
def k10c2 : Code := { maxStack := 4, maxLocals := 1, code := jdk_52_method_3_code, exceptionTable := #[], attributes := #[] }
def k10m2 : Method := { name := "newBytesLength", desc := "(I)I", sig := { parameters := [.int], returnType := some .int }, accessFlags := 9, code := some k10c2 }
def k10c3 : Code := { maxStack := 4, maxLocals := 3, code := jdk_52_method_4_code, exceptionTable := #[], attributes := #[] }
def k10m3 : Method := { name := "putChar", desc := "([BII)V", sig := { parameters := [(.array .byte), .int, .int], returnType := none }, accessFlags := 8, code := some k10c3 }
def k10c4 : Code := { maxStack := 3, maxLocals := 2, code := jdk_52_method_5_code, exceptionTable := #[], attributes := #[] }
def k10m4 : Method := { name := "getChar", desc := "([BI)C", sig := { parameters := [(.array .byte), .int], returnType := some .char }, accessFlags := 8, code := some k10c4 }
def k10c5 : Code := { maxStack := 4, maxLocals := 5, code := jdk_52_method_14_code, exceptionTable := #[], attributes := #[] }
def k10m5 : Method := { name := "toBytes", desc := "([CII)[B", sig := { parameters := [(.array .char), .int, .int], returnType := some (.array .byte) }, accessFlags := 9, code := some k10c5 }
def k10c6 : Code := { maxStack := 2, maxLocals := 2, code := jdk_52_method_15_code, exceptionTable := #[], attributes := #[] }
def k10m6 : Method := { name := "coderFromArrayLen", desc := "([BI)B", sig := { parameters := [(.array .byte), .int], returnType := some .byte }, accessFlags := 8, code := some k10c6 }
def k10c7 : Code := { maxStack := 5, maxLocals := 6, code := jdk_52_method_16_code, exceptionTable := #[], attributes := #[] }
def k10m7 : Method := { name := "compress", desc := "([CII)[B", sig := { parameters := [(.array .char), .int, .int], returnType := some (.array .byte) }, accessFlags := 9, code := some k10c7 }
def k10c8 : Code := { maxStack := 3, maxLocals := 7, code := jdk_52_method_21_code, exceptionTable := #[], attributes := #[] }
def k10m8 : Method := { name := "compress", desc := "([CI[BII)I", sig := { parameters := [(.array .char), .int, (.array .byte), .int, .int], returnType := some .int }, accessFlags := 9, code := some k10c8 }
/-- java/lang/StringUTF16 -/
def k10 : Class := { plain "java/lang/StringUTF16" (some 0) with
  accessFlags := 48
  interfaces := #[]
  cf := some (fileOf pool10 12 #[.nestMembers #[627, 629, 369]] #[{ accessFlags := 0, nameIndex := 9, descriptorIndex := 10, attributes := #[] }, { accessFlags := 9, nameIndex := 109, descriptorIndex := 110, attributes := #[] }, { accessFlags := 9, nameIndex := 15, descriptorIndex := 16, attributes := #[] }, { accessFlags := 8, nameIndex := 113, descriptorIndex := 114, attributes := #[] }, { accessFlags := 8, nameIndex := 73, descriptorIndex := 74, attributes := #[] }, { accessFlags := 9, nameIndex := 121, descriptorIndex := 122, attributes := #[] }, { accessFlags := 8, nameIndex := 261, descriptorIndex := 262, attributes := #[] }, { accessFlags := 9, nameIndex := 117, descriptorIndex := 122, attributes := #[] }, { accessFlags := 9, nameIndex := 117, descriptorIndex := 118, attributes := #[] }] 48 6 #[] #[{ accessFlags := 26, nameIndex := 61, descriptorIndex := 62, attributes := #[] }, { accessFlags := 26, nameIndex := 65, descriptorIndex := 62, attributes := #[] }, { accessFlags := 24, nameIndex := 430, descriptorIndex := 62, attributes := #[] }, { accessFlags := 4120, nameIndex := 46, descriptorIndex := 47, attributes := #[] }])
  fields := #[{ name := "HI_BYTE_SHIFT", type := .int, accessFlags := 26, slot := 0, constantValue := 0 }, { name := "LO_BYTE_SHIFT", type := .int, accessFlags := 26, slot := 1, constantValue := 0 }, { name := "MAX_LENGTH", type := .int, accessFlags := 24, slot := 2, constantValue := 0 }, { name := "$assertionsDisabled", type := .boolean, accessFlags := 4120, slot := 3, constantValue := 0 }]
  methods := #[k10m0, k10m1, k10m2, k10m3, k10m4, k10m5, k10m6, k10m7, k10m8]
  instanceTypes := #[]
  staticTypes := #[.int, .int, .int, .boolean]
  resolved := Array.replicate 635 none
  statics := some 2 }

def pool11 : Array CpInfo := pool [(2, .class_ 4), (1, u "java/lang/Enum"), (0, u "name"), (0, u "Ljava/lang/String;"), (2, u "ordinal"), (0, u "I"), (1, .class_ 14), (1, u "java/lang/Object"), (4, u "hash"), (86, .class_ 108), (1, u "java/lang/Enum$EnumDesc"), (2, .class_ 112), (0, u "java/lang/constant/Constable"), (0, .class_ 114), (0, u "java/lang/Comparable"), (0, .class_ 116), (0, u "java/io/Serializable")] 87

/-- java/lang/Enum -/
def k11 : Class := { plain "java/lang/Enum" (some 0) with
  accessFlags := 1057
  interfaces := #[5, 3, 2]
  cf := some (fileOf pool11 2 #[.nestMembers #[106]] #[] 1057 12 #[111, 113, 115] #[{ accessFlags := 18, nameIndex := 5, descriptorIndex := 6, attributes := #[] }, { accessFlags := 18, nameIndex := 9, descriptorIndex := 10, attributes := #[] }, { accessFlags := 2, nameIndex := 19, descriptorIndex := 10, attributes := #[] }])
  fields := #[{ name := "name", type := (.object "java/lang/String"), accessFlags := 18, slot := 0, constantValue := 0 }, { name := "ordinal", type := .int, accessFlags := 18, slot := 1, constantValue := 0 }, { name := "hash", type := .int, accessFlags := 2, slot := 2, constantValue := 0 }]
  methods := #[]
  instanceTypes := #[(.object "java/lang/String"), .int, .int]
  staticTypes := #[]
  resolved := Array.replicate 204 none
  statics := none }

def pool12 : Array CpInfo := pool [(1, .class_ 2), (0, u "com/example/lichen/lichen/webhook/EventType"), (2, u "BATCH_SIGNED"), (0, u "Lcom/example/lichen/lichen/webhook/EventType;"), (2, u "CREDENTIAL_REVOKED"), (0, .fieldref 1 11), (0, .nameAndType 12 13), (0, u "$VALUES"), (0, u "[Lcom/example/lichen/lichen/webhook/EventType;"), (0, .methodref 15 16), (0, .class_ 13), (0, .nameAndType 17 18), (0, u "clone"), (0, u "()Ljava/lang/Object;"), (1, .class_ 22), (1, u "java/lang/Enum"), (6, .fieldref 1 30), (0, .nameAndType 31 32), (0, u "code"), (0, u "Ljava/lang/String;"), (0, .methodref 1 34), (0, .nameAndType 35 36), (0, u "values"), (0, u "()[Lcom/example/lichen/lichen/webhook/EventType;"), (0, .methodref 38 39), (0, .class_ 40), (0, .nameAndType 41 42), (0, u "java/lang/String"), (0, u "equals"), (0, u "(Ljava/lang/Object;)Z"), (0, .methodref 44 45), (0, .class_ 46), (0, .nameAndType 47 48), (0, u "java/util/Optional"), (0, u "of"), (0, u "(Ljava/lang/Object;)Ljava/util/Optional;"), (0, .methodref 44 50), (0, .nameAndType 51 52), (0, u "empty"), (0, u "()Ljava/util/Optional;"), (19, u "(Ljava/lang/String;)Ljava/util/Optional;")] 7

def k12c0 : Code := { maxStack := 1, maxLocals := 0, code := prog_26_method_1_code, exceptionTable := #[], attributes := #[] }
def k12m0 : Method := { name := "values", desc := "()[Lcom/example/lichen/lichen/webhook/EventType;", sig := { parameters := [], returnType := some (.array (.object "com/example/lichen/lichen/webhook/EventType")) }, accessFlags := 9, code := some k12c0 }
def k12c1 : Code := { maxStack := 2, maxLocals := 5, code := prog_26_method_5_code, exceptionTable := #[], attributes := #[] }
def k12m1 : Method := { name := "of", desc := "(Ljava/lang/String;)Ljava/util/Optional;", sig := { parameters := [(.object "java/lang/String")], returnType := some (.object "java/util/Optional") }, accessFlags := 9, code := some k12c1 }
/-- com/example/lichen/lichen/webhook/EventType -/
def k12 : Class := { plain "com/example/lichen/lichen/webhook/EventType" (some 11) with
  accessFlags := 16433
  interfaces := #[]
  cf := some (fileOf pool12 1 #[] #[{ accessFlags := 9, nameIndex := 35, descriptorIndex := 36, attributes := #[] }, { accessFlags := 9, nameIndex := 47, descriptorIndex := 72, attributes := #[] }] 16433 20 #[] #[{ accessFlags := 16409, nameIndex := 5, descriptorIndex := 6, attributes := #[] }, { accessFlags := 16409, nameIndex := 9, descriptorIndex := 6, attributes := #[] }, { accessFlags := 18, nameIndex := 31, descriptorIndex := 32, attributes := #[] }, { accessFlags := 4122, nameIndex := 12, descriptorIndex := 13, attributes := #[] }])
  fields := #[{ name := "BATCH_SIGNED", type := (.object "com/example/lichen/lichen/webhook/EventType"), accessFlags := 16409, slot := 0, constantValue := 0 }, { name := "CREDENTIAL_REVOKED", type := (.object "com/example/lichen/lichen/webhook/EventType"), accessFlags := 16409, slot := 1, constantValue := 0 }, { name := "code", type := (.object "java/lang/String"), accessFlags := 18, slot := 3, constantValue := 0 }, { name := "$VALUES", type := (.array (.object "com/example/lichen/lichen/webhook/EventType")), accessFlags := 4122, slot := 2, constantValue := 0 }]
  methods := #[k12m0, k12m1]
  instanceTypes := #[(.object "java/lang/String"), .int, .int, (.object "java/lang/String")]
  staticTypes := #[(.object "com/example/lichen/lichen/webhook/EventType"), (.object "com/example/lichen/lichen/webhook/EventType"), (.array (.object "com/example/lichen/lichen/webhook/EventType"))]
  resolved := Array.replicate 80 none
  statics := some 3 }

def pool13 : Array CpInfo := pool [(1, .class_ 2), (0, u "java/lang/Cloneable"), (0, .class_ 4), (0, u "java/lang/Object")] 2

/-- java/lang/Cloneable -/
def k13 : Class := { plain "java/lang/Cloneable" (some 0) with
  accessFlags := 1537
  interfaces := #[]
  cf := some (fileOf pool13 1 #[] #[] 1537 3 #[] #[])
  fields := #[]
  methods := #[]
  instanceTypes := #[]
  staticTypes := #[]
  resolved := Array.replicate 7 none
  statics := none }

def pool14 : Array CpInfo := pool [(1, .fieldref 2 3), (0, .class_ 4), (0, .nameAndType 5 6), (0, u "java/util/Optional"), (0, u "EMPTY"), (0, u "Ljava/util/Optional;"), (0, .methodref 8 9), (0, .class_ 10), (0, .nameAndType 11 12), (0, u "java/lang/Object"), (0, u "<init>"), (0, u "()V"), (0, .fieldref 2 14), (0, .nameAndType 15 16), (0, u "value"), (0, u "Ljava/lang/Object;"), (0, .methodref 18 19), (0, .class_ 20), (0, .nameAndType 21 22), (0, u "java/util/Objects"), (0, u "requireNonNull"), (0, u "(Ljava/lang/Object;)Ljava/lang/Object;"), (0, .methodref 2 24), (0, .nameAndType 11 25), (0, u "(Ljava/lang/Object;)V"), (20, u "()Z"), (8, u "empty"), (0, u "()Ljava/util/Optional;"), (8, u "(Ljava/lang/Object;)Ljava/util/Optional;"), (2, u "isPresent"), (4, u "get"), (0, u "()Ljava/lang/Object;"), (7, u "of")] 104

def k14c0 : Code := { maxStack := 1, maxLocals := 1, code := jdk_32_method_1_code, exceptionTable := #[], attributes := #[] }
def k14m0 : Method := { name := "empty", desc := "()Ljava/util/Optional;", sig := { parameters := [], returnType := some (.object "java/util/Optional") }, accessFlags := 9, code := some k14c0 }
def k14c1 : Code := { maxStack := 2, maxLocals := 2, code := jdk_32_method_2_code, exceptionTable := #[], attributes := #[] }
def k14m1 : Method := { name := "<init>", desc := "(Ljava/lang/Object;)V", sig := { parameters := [(.object "java/lang/Object")], returnType := none }, accessFlags := 2, code := some k14c1 }
def k14c2 : Code := { maxStack := 3, maxLocals := 1, code := jdk_32_method_3_code, exceptionTable := #[], attributes := #[] }
def k14m2 : Method := { name := "of", desc := "(Ljava/lang/Object;)Ljava/util/Optional;", sig := { parameters := [(.object "java/lang/Object")], returnType := some (.object "java/util/Optional") }, accessFlags := 9, code := some k14c2 }
def k14c3 : Code := { maxStack := 3, maxLocals := 1, code := jdk_32_method_5_code, exceptionTable := #[], attributes := #[] }
def k14m3 : Method := { name := "get", desc := "()Ljava/lang/Object;", sig := { parameters := [], returnType := some (.object "java/lang/Object") }, accessFlags := 1, code := some k14c3 }
def k14c4 : Code := { maxStack := 1, maxLocals := 1, code := jdk_32_method_6_code, exceptionTable := #[], attributes := #[] }
def k14m4 : Method := { name := "isPresent", desc := "()Z", sig := { parameters := [], returnType := some .boolean }, accessFlags := 1, code := some k14c4 }
/-- java/util/Optional -/
def k14 : Class := { plain "java/util/Optional" (some 0) with
  accessFlags := 49
  interfaces := #[]
  cf := some (fileOf pool14 2 #[] #[{ accessFlags := 9, nameIndex := 55, descriptorIndex := 56, attributes := #[] }, { accessFlags := 2, nameIndex := 11, descriptorIndex := 25, attributes := #[] }, { accessFlags := 9, nameIndex := 82, descriptorIndex := 65, attributes := #[] }, { accessFlags := 1, nameIndex := 73, descriptorIndex := 74, attributes := #[] }, { accessFlags := 1, nameIndex := 68, descriptorIndex := 46, attributes := #[] }] 49 8 #[] #[{ accessFlags := 26, nameIndex := 5, descriptorIndex := 6, attributes := #[] }, { accessFlags := 18, nameIndex := 15, descriptorIndex := 16, attributes := #[] }])
  fields := #[{ name := "EMPTY", type := (.object "java/util/Optional"), accessFlags := 26, slot := 0, constantValue := 0 }, { name := "value", type := (.object "java/lang/Object"), accessFlags := 18, slot := 0, constantValue := 0 }]
  methods := #[k14m0, k14m1, k14m2, k14m3, k14m4]
  instanceTypes := #[(.object "java/lang/Object")]
  staticTypes := #[(.object "java/util/Optional")]
  resolved := Array.replicate 187 none
  statics := some 4 }

def pool15 : Array CpInfo := pool [(2, .class_ 4), (1, u "java/lang/Object"), (0, u "<init>"), (0, u "()V"), (35, .class_ 44), (1, u "java/util/Objects"), (0, u "requireNonNull"), (0, u "(Ljava/lang/Object;)Ljava/lang/Object;")] 137

def k15m0 : Method := { name := "<init>", desc := "()V", sig := { parameters := [], returnType := none }, accessFlags := 2, code := none }
def k15c1 : Code := { maxStack := 2, maxLocals := 1, code := jdk_31_method_10_code, exceptionTable := #[], attributes := #[] }
def k15m1 : Method := { name := "requireNonNull", desc := "(Ljava/lang/Object;)Ljava/lang/Object;", sig := { parameters := [(.object "java/lang/Object")], returnType := some (.object "java/lang/Object") }, accessFlags := 9, code := some k15c1 }
/-- java/util/Objects -/
def k15 : Class := { plain "java/util/Objects" (some 0) with
  accessFlags := 49
  interfaces := #[]
  cf := some (fileOf pool15 42 #[] #[{ accessFlags := 2, nameIndex := 5, descriptorIndex := 6, attributes := #[] }, { accessFlags := 9, nameIndex := 45, descriptorIndex := 46, attributes := #[] }] 49 2 #[] #[])
  fields := #[]
  methods := #[k15m0, k15m1]
  instanceTypes := #[]
  staticTypes := #[]
  resolved := Array.replicate 184 none
  statics := none }

def pool16 : Array CpInfo := pool [(9, u "<init>"), (6, .class_ 18), (1, u "java/lang/Object"), (0, u "()V"), (1, .class_ 23), (1, u "jdk/internal/util/ArraysSupport"), (0, u "LOG2_ARRAY_LONG_INDEX_SCALE"), (0, u "I"), (2, u "U"), (0, u "Ljdk/internal/misc/Unsafe;"), (8, u "BIG_ENDIAN"), (0, u "Z"), (8, u "LOG2_BYTE_BIT_SIZE"), (4, u "LOG2_ARRAY_INT_INDEX_SCALE"), (54, u "JLA"), (0, u "Ljdk/internal/access/JavaLangAccess;"), (11, u "LOG2_ARRAY_BOOLEAN_INDEX_SCALE"), (9, u "LOG2_ARRAY_BYTE_INDEX_SCALE"), (5, u "LOG2_ARRAY_CHAR_INDEX_SCALE"), (5, u "LOG2_ARRAY_SHORT_INDEX_SCALE"), (18, u "LOG2_ARRAY_FLOAT_INDEX_SCALE"), (24, u "LOG2_ARRAY_DOUBLE_INDEX_SCALE"), (89, u "T_BOOLEAN"), (2, u "T_CHAR"), (1, u "T_FLOAT"), (1, u "T_DOUBLE"), (1, u "T_BYTE"), (1, u "T_SHORT"), (1, u "T_INT"), (1, u "T_LONG"), (1, u "SOFT_MAX_ARRAY_LENGTH")] 83

def k16m0 : Method := { name := "<init>", desc := "()V", sig := { parameters := [], returnType := none }, accessFlags := 2, code := none }
/-- jdk/internal/util/ArraysSupport -/
def k16 : Class := { plain "jdk/internal/util/ArraysSupport" (some 0) with
  accessFlags := 33
  interfaces := #[]
  cf := some (fileOf pool16 21 #[] #[{ accessFlags := 2, nameIndex := 9, descriptorIndex := 19, attributes := #[] }] 33 16 #[] #[{ accessFlags := 24, nameIndex := 28, descriptorIndex := 29, attributes := #[] }, { accessFlags := 26, nameIndex := 38, descriptorIndex := 39, attributes := #[] }, { accessFlags := 25, nameIndex := 121, descriptorIndex := 25, attributes := #[] }, { accessFlags := 25, nameIndex := 131, descriptorIndex := 25, attributes := #[] }, { accessFlags := 25, nameIndex := 137, descriptorIndex := 25, attributes := #[] }, { accessFlags := 25, nameIndex := 143, descriptorIndex := 25, attributes := #[] }, { accessFlags := 25, nameIndex := 53, descriptorIndex := 25, attributes := #[] }, { accessFlags := 25, nameIndex := 24, descriptorIndex := 25, attributes := #[] }, { accessFlags := 25, nameIndex := 162, descriptorIndex := 25, attributes := #[] }, { accessFlags := 25, nameIndex := 187, descriptorIndex := 25, attributes := #[] }, { accessFlags := 26, nameIndex := 48, descriptorIndex := 25, attributes := #[] }, { accessFlags := 25, nameIndex := 277, descriptorIndex := 25, attributes := #[] }, { accessFlags := 25, nameIndex := 280, descriptorIndex := 25, attributes := #[] }, { accessFlags := 25, nameIndex := 282, descriptorIndex := 25, attributes := #[] }, { accessFlags := 25, nameIndex := 284, descriptorIndex := 25, attributes := #[] }, { accessFlags := 25, nameIndex := 286, descriptorIndex := 25, attributes := #[] }, { accessFlags := 25, nameIndex := 288, descriptorIndex := 25, attributes := #[] }, { accessFlags := 25, nameIndex := 290, descriptorIndex := 25, attributes := #[] }, { accessFlags := 25, nameIndex := 292, descriptorIndex := 25, attributes := #[] }, { accessFlags := 26, nameIndex := 108, descriptorIndex := 109, attributes := #[] }, { accessFlags := 25, nameIndex := 294, descriptorIndex := 25, attributes := #[] }])
  fields := #[{ name := "U", type := (.object "jdk/internal/misc/Unsafe"), accessFlags := 24, slot := 0, constantValue := 0 }, { name := "BIG_ENDIAN", type := .boolean, accessFlags := 26, slot := 1, constantValue := 0 }, { name := "LOG2_ARRAY_BOOLEAN_INDEX_SCALE", type := .int, accessFlags := 25, slot := 2, constantValue := 0 }, { name := "LOG2_ARRAY_BYTE_INDEX_SCALE", type := .int, accessFlags := 25, slot := 3, constantValue := 0 }, { name := "LOG2_ARRAY_CHAR_INDEX_SCALE", type := .int, accessFlags := 25, slot := 4, constantValue := 0 }, { name := "LOG2_ARRAY_SHORT_INDEX_SCALE", type := .int, accessFlags := 25, slot := 5, constantValue := 0 }, { name := "LOG2_ARRAY_INT_INDEX_SCALE", type := .int, accessFlags := 25, slot := 6, constantValue := 0 }, { name := "LOG2_ARRAY_LONG_INDEX_SCALE", type := .int, accessFlags := 25, slot := 7, constantValue := 0 }, { name := "LOG2_ARRAY_FLOAT_INDEX_SCALE", type := .int, accessFlags := 25, slot := 8, constantValue := 0 }, { name := "LOG2_ARRAY_DOUBLE_INDEX_SCALE", type := .int, accessFlags := 25, slot := 9, constantValue := 0 }, { name := "LOG2_BYTE_BIT_SIZE", type := .int, accessFlags := 26, slot := 10, constantValue := 0 }, { name := "T_BOOLEAN", type := .int, accessFlags := 25, slot := 11, constantValue := 0 }, { name := "T_CHAR", type := .int, accessFlags := 25, slot := 12, constantValue := 0 }, { name := "T_FLOAT", type := .int, accessFlags := 25, slot := 13, constantValue := 0 }, { name := "T_DOUBLE", type := .int, accessFlags := 25, slot := 14, constantValue := 0 }, { name := "T_BYTE", type := .int, accessFlags := 25, slot := 15, constantValue := 0 }, { name := "T_SHORT", type := .int, accessFlags := 25, slot := 16, constantValue := 0 }, { name := "T_INT", type := .int, accessFlags := 25, slot := 17, constantValue := 0 }, { name := "T_LONG", type := .int, accessFlags := 25, slot := 18, constantValue := 0 }, { name := "JLA", type := (.object "jdk/internal/access/JavaLangAccess"), accessFlags := 26, slot := 19, constantValue := 0 }, { name := "SOFT_MAX_ARRAY_LENGTH", type := .int, accessFlags := 25, slot := 20, constantValue := 0 }]
  methods := #[k16m0]
  instanceTypes := #[]
  staticTypes := #[(.object "jdk/internal/misc/Unsafe"), .boolean, .int, .int, .int, .int, .int, .int, .int, .int, .int, .int, .int, .int, .int, .int, .int, .int, .int, (.object "jdk/internal/access/JavaLangAccess"), .int]
  resolved := Array.replicate 378 none
  statics := none }

/-- the primitive byte -/
def k17 : Class := { plain "byte" none with kind := .primitive 'B', accessFlags := 0x411 }
/-- [B -/
def k18 : Class := { plain "[B" (some 0) with kind := .array 17 .byte, interfaces := #[13, 2], accessFlags := 1041 }

/-- the primitive char -/
def k19 : Class := { plain "char" none with kind := .primitive 'C', accessFlags := 0x411 }
/-- [C -/
def k20 : Class := { plain "[C" (some 0) with kind := .array 19 .char, interfaces := #[13, 2], accessFlags := 1041 }

/-- the primitive int -/
def k21 : Class := { plain "int" none with kind := .primitive 'I', accessFlags := 0x411 }
/-- [I -/
def k22 : Class := { plain "[I" (some 0) with kind := .array 21 .int, interfaces := #[13, 2], accessFlags := 1041 }

/-- [Lcom/example/lichen/lichen/webhook/EventType; -/
def k23 : Class := { plain "[Lcom/example/lichen/lichen/webhook/EventType;" (some 0) with kind := .array 12 (.object "com/example/lichen/lichen/webhook/EventType"), interfaces := #[13, 2], accessFlags := 1041 }

def heap : Heap := #[{ cls := 7, slots := #[.long 0, .int 1, .null, .int 0, .null, .int 0, .int 0], vm := .statics 7 },
  { cls := 9, slots := #[.null, .null, .null], vm := .statics 9 },
  { cls := 10, slots := #[.int 0, .int 8, .int 0, .int 1], vm := .statics 10 },
  { cls := 12, slots := #[.ref 6, .ref 7, .ref 5], vm := .statics 12 },
  { cls := 14, slots := #[.ref 12], vm := .statics 14 },
  { cls := 23, slots := #[.ref 6, .ref 7], vm := .none },
  { cls := 12, slots := #[.null, .int 0, .int 0, .ref 8], vm := .none },
  { cls := 12, slots := #[.null, .int 1, .int 0, .ref 9], vm := .none },
  { cls := 7, slots := #[.ref 10, .int 0, .int 0, .int 0], vm := .none },
  { cls := 7, slots := #[.ref 11, .int 0, .int 0, .int 0], vm := .none },
  { cls := 18, slots := #[.int 98, .int 97, .int 116, .int 99, .int 104, .int 46, .int 115, .int 105, .int 103, .int 110, .int 101, .int 100], vm := .none },
  { cls := 18, slots := #[.int 99, .int 114, .int 101, .int 100, .int 101, .int 110, .int 116, .int 105, .int 97, .int 108, .int 46, .int 114, .int 101, .int 118, .int 111, .int 107, .int 101, .int 100], vm := .none },
  { cls := 14, slots := #[.null], vm := .none }]
def classes : Array Class := #[k0, k1, k2, k3, k4, k5, k6, k7, k8, k9, k10, k11, k12, k13, k14, k15, k16, k17, k18, k19, k20, k21, k22, k23]
def interned : List (Array UInt16 × Addr) := []
def slotsUsed : Nat := 67
def theMethod : MethodId := ⟨1, 1⟩
def args0 : Array Value := #[.int 1, .int 7, .int 3, .int 70, .int 1]
def aboutOver (below : List Frame) : State where
  vm := { classes := classes, interned := interned.toArray }
  heap := heap
  slotsUsed := slotsUsed
  threads := #[{ frames := .invoking theMethod args0 :: below }]
def below0 : List Frame := [.native { method := ⟨0, 0⟩, args := #[] }]
def about1 : State := aboutOver below0
def p0 : Program := .bare "" "" ""
def e0 : Env := launch0.env 0 0 0
theorem w_frames : about1.frames = Frame.invoking theMethod args0 :: below0 := rfl
set_option maxRecDepth 65536 in
theorem w_args : argsFit about1.vm theMethod args0 = true := by decide +kernel
set_option maxRecDepth 65536 in
theorem w_heap : heapFits about1 = true := by decide +kernel
set_option maxRecDepth 65536 in
theorem w_runnable : about1.curStatus? = some .runnable := by decide +kernel
set_option maxRecDepth 65536 in
theorem w_alone : about1.alone = true := by decide +kernel
set_option maxRecDepth 65536 in
theorem w_named : about1.methodNamed? x = some theMethod := by decide +kernel
set_option maxRecDepth 65536 in
theorem w_hears : about1.hears theMethod below0 = true := by decide +kernel
set_option maxRecDepth 65536 in
theorem w_ripe : about1.ripe theMethod args0 below0 = true := by decide +kernel
theorem w_running : about1.status = .running := rfl
set_option maxRecDepth 65536 in
theorem w_room : about1.hasRoom e0.platform room_1 = true :=
  launch0.hasRoom_least _ room_1 (by decide +kernel) (by decide +kernel) (by decide +kernel) (by decide +kernel) (by decide +kernel) (by decide +kernel)
theorem allAtoms_all (ts : List Jvm.Cond) (a : Array Jvm.Value) (st : Jvm.State) : (allAtoms ts).before a st = ts.all (fun c => c.before a st) := by
  induction ts with
  | nil => rfl
  | cons c t ih =>
    show (Jvm.Cond.and c (allAtoms t)).before a st = _
    rw [Jvm.Cond.before_and, ih, List.all_cons]
def words1 : List Jvm.Cond := Jvm.Cond.code x code maxLocals ret :: tables_1
/-- a 'code' word, met by the world's own term for the bytes: nothing is compared byte by byte -/
theorem code_word {y : MethodName} {bytes : ByteArray} {mx : Nat} {rt : Option FieldType} {a : Array Value} {s : State} {m : MethodId} {meth : Method} {c : Code} (h1 : s.methodNamed? y = some m) (h2 : s.vm.method? m = some meth) (h3 : meth.code = some c) (h4 : c.code = bytes)
    (h5 : (c.maxLocals == mx && c.exceptionTable.isEmpty && decide (c.maxStack ≤ mostOperands) && decide (meth.sig.returnType = rt) && !meth.locks && decide (parseMethodDescriptor y.desc = some meth.sig)) = true) : (Jvm.Cond.code y bytes mx rt).before a s = true := by
  simp only [Bool.and_eq_true, beq_iff_eq, Bool.not_eq_true', decide_eq_true_eq] at h5
  obtain ⟨⟨⟨⟨⟨g1, g2⟩, g3⟩, g4⟩, g5⟩, g6⟩ := h5
  simp [Cond.before, Cond.holds, Cond.value, h1, h2, h3, h4, g1, g2, g3, g4, g5, g6]
def isCode : Jvm.Cond → Bool
  | .code _ _ _ _ => true
  | _ => false
theorem all_split {L : List Jvm.Cond} {P : Jvm.Cond → Bool} (h1 : L.all (fun c => isCode c || P c) = true) (h2 : ∀ c ∈ L.filter isCode, P c = true) : L.all P = true := by
  refine List.all_eq_true.mpr fun c hc => ?_
  have h := List.all_eq_true.mp h1 c hc
  rcases Bool.eq_false_or_eq_true (isCode c) with hi | hi
  · exact h2 c (List.mem_filter.mpr ⟨hc, hi⟩)
  · simpa [hi] using h
set_option maxRecDepth 65536 in
theorem w_c0 : (Jvm.Cond.code x code maxLocals ret).before args0 about1 = true := code_word (m := ⟨1, 1⟩) (meth := k1m1) (c := k1c1) (by decide +kernel) rfl rfl rfl (by decide +kernel)
set_option maxRecDepth 65536 in
theorem w_c1 : (Jvm.Cond.code ({ cls := "com/example/lichen/lichen/webhook/EventTypeOfPinLaw", name := "pick", desc := "(Ljava/lang/String;IICZ)C" } : Jvm.MethodName) method_3_code (5 : Nat) (Option.some Jvm.ClassFile.FieldType.char)).before args0 about1 = true := code_word (m := ⟨1, 2⟩) (meth := k1m2) (c := k1c2) (by decide +kernel) rfl rfl rfl (by decide +kernel)
set_option maxRecDepth 65536 in
theorem w_c2 : (Jvm.Cond.code ({ cls := "java/lang/String", name := "length", desc := "()I" } : Jvm.MethodName) jdk_42_method_54_code (1 : Nat) (Option.some Jvm.ClassFile.FieldType.int)).before args0 about1 = true := code_word (m := ⟨7, 2⟩) (meth := k7m2) (c := k7c2) (by decide +kernel) rfl rfl rfl (by decide +kernel)
set_option maxRecDepth 65536 in
theorem w_c3 : (Jvm.Cond.code ({ cls := "java/lang/String", name := "coder", desc := "()B" } : Jvm.MethodName) jdk_42_method_152_code (1 : Nat) (Option.some Jvm.ClassFile.FieldType.byte)).before args0 about1 = true := code_word (m := ⟨7, 6⟩) (meth := k7m6) (c := k7c6) (by decide +kernel) rfl rfl rfl (by decide +kernel)
set_option maxRecDepth 65536 in
theorem w_c4 : (Jvm.Cond.code ({ cls := "java/lang/String", name := "charAt", desc := "(I)C" } : Jvm.MethodName) jdk_42_method_56_code (2 : Nat) (Option.some Jvm.ClassFile.FieldType.char)).before args0 about1 = true := code_word (m := ⟨7, 3⟩) (meth := k7m3) (c := k7c3) (by decide +kernel) rfl rfl rfl (by decide +kernel)
set_option maxRecDepth 65536 in
theorem w_c5 : (Jvm.Cond.code ({ cls := "java/lang/String", name := "isLatin1", desc := "()Z" } : Jvm.MethodName) jdk_42_method_154_code (1 : Nat) (Option.some Jvm.ClassFile.FieldType.boolean)).before args0 about1 = true := code_word (m := ⟨7, 7⟩) (meth := k7m7) (c := k7c7) (by decide +kernel) rfl rfl rfl (by decide +kernel)
set_option maxRecDepth 65536 in
theorem w_c6 : (Jvm.Cond.code ({ cls := "java/lang/StringLatin1", name := "charAt", desc := "([BI)C" } : Jvm.MethodName) jdk_43_method_2_code (2 : Nat) (Option.some Jvm.ClassFile.FieldType.char)).before args0 about1 = true := code_word (m := ⟨8, 1⟩) (meth := k8m1) (c := k8c1) (by decide +kernel) rfl rfl rfl (by decide +kernel)
set_option maxRecDepth 65536 in
theorem w_c7 : (Jvm.Cond.code ({ cls := "java/lang/String", name := "checkIndex", desc := "(II)V" } : Jvm.MethodName) jdk_42_method_155_code (2 : Nat) (Option.none : Option Jvm.ClassFile.FieldType)).before args0 about1 = true := code_word (m := ⟨7, 8⟩) (meth := k7m8) (c := k7c8) (by decide +kernel) rfl rfl rfl (by decide +kernel)
set_option maxRecDepth 65536 in
theorem w_c8 : (Jvm.Cond.code ({ cls := "jdk/internal/util/Preconditions", name := "checkIndex", desc := "(IILjava/util/function/BiFunction;)I" } : Jvm.MethodName) jdk_41_method_11_code (3 : Nat) (Option.some Jvm.ClassFile.FieldType.int)).before args0 about1 = true := code_word (m := ⟨9, 1⟩) (meth := k9m1) (c := k9c1) (by decide +kernel) rfl rfl rfl (by decide +kernel)
set_option maxRecDepth 65536 in
theorem w_c9 : (Jvm.Cond.code ({ cls := "java/lang/String", name := "<init>", desc := "([C)V" } : Jvm.MethodName) jdk_42_method_3_code (2 : Nat) (Option.none : Option Jvm.ClassFile.FieldType)).before args0 about1 = true := code_word (m := ⟨7, 1⟩) (meth := k7m1) (c := k7c1) (by decide +kernel) rfl rfl rfl (by decide +kernel)
set_option maxRecDepth 65536 in
theorem w_c10 : (Jvm.Cond.code ({ cls := "java/lang/String", name := "<init>", desc := "([CIILjava/lang/Void;)V" } : Jvm.MethodName) jdk_42_method_149_code (6 : Nat) (Option.none : Option Jvm.ClassFile.FieldType)).before args0 about1 = true := code_word (m := ⟨7, 5⟩) (meth := k7m5) (c := k7c5) (by decide +kernel) rfl rfl rfl (by decide +kernel)
set_option maxRecDepth 65536 in
theorem w_c11 : (Jvm.Cond.code ({ cls := "java/lang/Object", name := "<init>", desc := "()V" } : Jvm.MethodName) object_method_1_code (1 : Nat) (Option.none : Option Jvm.ClassFile.FieldType)).before args0 about1 = true := code_word (m := ⟨0, 0⟩) (meth := k0m0) (c := k0c0) (by decide +kernel) rfl rfl rfl (by decide +kernel)
set_option maxRecDepth 65536 in
theorem w_c12 : (Jvm.Cond.code ({ cls := "java/lang/StringUTF16", name := "compress", desc := "([CII)[B" } : Jvm.MethodName) jdk_52_method_16_code (6 : Nat) (Option.some (Jvm.ClassFile.FieldType.array Jvm.ClassFile.FieldType.byte))).before args0 about1 = true := code_word (m := ⟨10, 7⟩) (meth := k10m7) (c := k10c7) (by decide +kernel) rfl rfl rfl (by decide +kernel)
set_option maxRecDepth 65536 in
theorem w_c13 : (Jvm.Cond.code ({ cls := "java/lang/StringUTF16", name := "compress", desc := "([CI[BII)I" } : Jvm.MethodName) jdk_52_method_21_code (7 : Nat) (Option.some Jvm.ClassFile.FieldType.int)).before args0 about1 = true := code_word (m := ⟨10, 8⟩) (meth := k10m8) (c := k10c8) (by decide +kernel) rfl rfl rfl (by decide +kernel)
set_option maxRecDepth 65536 in
theorem w_c14 : (Jvm.Cond.code ({ cls := "java/lang/StringUTF16", name := "coderFromArrayLen", desc := "([BI)B" } : Jvm.MethodName) jdk_52_method_15_code (2 : Nat) (Option.some Jvm.ClassFile.FieldType.byte)).before args0 about1 = true := code_word (m := ⟨10, 6⟩) (meth := k10m6) (c := k10c6) (by decide +kernel) rfl rfl rfl (by decide +kernel)
set_option maxRecDepth 65536 in
theorem w_c15 : (Jvm.Cond.code ({ cls := "java/lang/String", name := "equals", desc := "(Ljava/lang/Object;)Z" } : Jvm.MethodName) jdk_42_method_66_code (3 : Nat) (Option.some Jvm.ClassFile.FieldType.boolean)).before args0 about1 = true := code_word (m := ⟨7, 4⟩) (meth := k7m4) (c := k7c4) (by decide +kernel) rfl rfl rfl (by decide +kernel)
set_option maxRecDepth 65536 in
theorem w_c16 : (Jvm.Cond.code ({ cls := "java/lang/StringLatin1", name := "equals", desc := "([B[B)Z" } : Jvm.MethodName) jdk_43_method_13_code (3 : Nat) (Option.some Jvm.ClassFile.FieldType.boolean)).before args0 about1 = true := code_word (m := ⟨8, 2⟩) (meth := k8m2) (c := k8c2) (by decide +kernel) rfl rfl rfl (by decide +kernel)
set_option maxRecDepth 65536 in
theorem w_c17 : (Jvm.Cond.code ({ cls := "com/example/lichen/lichen/webhook/EventType", name := "of", desc := "(Ljava/lang/String;)Ljava/util/Optional;" } : Jvm.MethodName) prog_26_method_5_code (5 : Nat) (Option.some (Jvm.ClassFile.FieldType.object "java/util/Optional"))).before args0 about1 = true := code_word (m := ⟨12, 1⟩) (meth := k12m1) (c := k12c1) (by decide +kernel) rfl rfl rfl (by decide +kernel)
set_option maxRecDepth 65536 in
theorem w_c18 : (Jvm.Cond.code ({ cls := "com/example/lichen/lichen/webhook/EventType", name := "values", desc := "()[Lcom/example/lichen/lichen/webhook/EventType;" } : Jvm.MethodName) prog_26_method_1_code (0 : Nat) (Option.some (Jvm.ClassFile.FieldType.array (Jvm.ClassFile.FieldType.object "com/example/lichen/lichen/webhook/EventType")))).before args0 about1 = true := code_word (m := ⟨12, 0⟩) (meth := k12m0) (c := k12c0) (by decide +kernel) rfl rfl rfl (by decide +kernel)
set_option maxRecDepth 65536 in
theorem w_c19 : (Jvm.Cond.code ({ cls := "java/util/Optional", name := "empty", desc := "()Ljava/util/Optional;" } : Jvm.MethodName) jdk_32_method_1_code (1 : Nat) (Option.some (Jvm.ClassFile.FieldType.object "java/util/Optional"))).before args0 about1 = true := code_word (m := ⟨14, 0⟩) (meth := k14m0) (c := k14c0) (by decide +kernel) rfl rfl rfl (by decide +kernel)
set_option maxRecDepth 65536 in
theorem w_c20 : (Jvm.Cond.code ({ cls := "java/util/Optional", name := "isPresent", desc := "()Z" } : Jvm.MethodName) jdk_32_method_6_code (1 : Nat) (Option.some Jvm.ClassFile.FieldType.boolean)).before args0 about1 = true := code_word (m := ⟨14, 4⟩) (meth := k14m4) (c := k14c4) (by decide +kernel) rfl rfl rfl (by decide +kernel)
set_option maxRecDepth 65536 in
theorem w_c21 : (Jvm.Cond.code ({ cls := "java/lang/StringUTF16", name := "toBytes", desc := "([CII)[B" } : Jvm.MethodName) jdk_52_method_14_code (5 : Nat) (Option.some (Jvm.ClassFile.FieldType.array Jvm.ClassFile.FieldType.byte))).before args0 about1 = true := code_word (m := ⟨10, 5⟩) (meth := k10m5) (c := k10c5) (by decide +kernel) rfl rfl rfl (by decide +kernel)
set_option maxRecDepth 65536 in
theorem w_c22 : (Jvm.Cond.code ({ cls := "java/lang/StringUTF16", name := "newBytesFor", desc := "(I)[B" } : Jvm.MethodName) jdk_52_method_2_code (1 : Nat) (Option.some (Jvm.ClassFile.FieldType.array Jvm.ClassFile.FieldType.byte))).before args0 about1 = true := code_word (m := ⟨10, 1⟩) (meth := k10m1) (c := k10c1) (by decide +kernel) rfl rfl rfl (by decide +kernel)
set_option maxRecDepth 65536 in
theorem w_c23 : (Jvm.Cond.code ({ cls := "java/lang/StringUTF16", name := "newBytesLength", desc := "(I)I" } : Jvm.MethodName) jdk_52_method_3_code (1 : Nat) (Option.some Jvm.ClassFile.FieldType.int)).before args0 about1 = true := code_word (m := ⟨10, 2⟩) (meth := k10m2) (c := k10c2) (by decide +kernel) rfl rfl rfl (by decide +kernel)
set_option maxRecDepth 65536 in
theorem w_c24 : (Jvm.Cond.code ({ cls := "java/lang/StringUTF16", name := "putChar", desc := "([BII)V" } : Jvm.MethodName) jdk_52_method_4_code (3 : Nat) (Option.none : Option Jvm.ClassFile.FieldType)).before args0 about1 = true := code_word (m := ⟨10, 3⟩) (meth := k10m3) (c := k10c3) (by decide +kernel) rfl rfl rfl (by decide +kernel)
set_option maxRecDepth 65536 in
theorem w_c25 : (Jvm.Cond.code ({ cls := "java/lang/StringUTF16", name := "getChar", desc := "([BI)C" } : Jvm.MethodName) jdk_52_method_5_code (2 : Nat) (Option.some Jvm.ClassFile.FieldType.char)).before args0 about1 = true := code_word (m := ⟨10, 4⟩) (meth := k10m4) (c := k10c4) (by decide +kernel) rfl rfl rfl (by decide +kernel)
set_option maxRecDepth 65536 in
theorem w_c26 : (Jvm.Cond.code ({ cls := "java/util/Optional", name := "of", desc := "(Ljava/lang/Object;)Ljava/util/Optional;" } : Jvm.MethodName) jdk_32_method_3_code (1 : Nat) (Option.some (Jvm.ClassFile.FieldType.object "java/util/Optional"))).before args0 about1 = true := code_word (m := ⟨14, 2⟩) (meth := k14m2) (c := k14c2) (by decide +kernel) rfl rfl rfl (by decide +kernel)
set_option maxRecDepth 65536 in
theorem w_c27 : (Jvm.Cond.code ({ cls := "java/util/Objects", name := "requireNonNull", desc := "(Ljava/lang/Object;)Ljava/lang/Object;" } : Jvm.MethodName) jdk_31_method_10_code (1 : Nat) (Option.some (Jvm.ClassFile.FieldType.object "java/lang/Object"))).before args0 about1 = true := code_word (m := ⟨15, 1⟩) (meth := k15m1) (c := k15c1) (by decide +kernel) rfl rfl rfl (by decide +kernel)
set_option maxRecDepth 65536 in
theorem w_c28 : (Jvm.Cond.code ({ cls := "java/util/Optional", name := "<init>", desc := "(Ljava/lang/Object;)V" } : Jvm.MethodName) jdk_32_method_2_code (2 : Nat) (Option.none : Option Jvm.ClassFile.FieldType)).before args0 about1 = true := code_word (m := ⟨14, 1⟩) (meth := k14m1) (c := k14c1) (by decide +kernel) rfl rfl rfl (by decide +kernel)
set_option maxRecDepth 65536 in
theorem w_c29 : (Jvm.Cond.code ({ cls := "java/util/Optional", name := "get", desc := "()Ljava/lang/Object;" } : Jvm.MethodName) jdk_32_method_5_code (1 : Nat) (Option.some (Jvm.ClassFile.FieldType.object "java/lang/Object"))).before args0 about1 = true := code_word (m := ⟨14, 3⟩) (meth := k14m3) (c := k14c3) (by decide +kernel) rfl rfl rfl (by decide +kernel)
def codes1 : List Jvm.Cond := [Jvm.Cond.code x code maxLocals ret, Jvm.Cond.code ({ cls := "com/example/lichen/lichen/webhook/EventTypeOfPinLaw", name := "pick", desc := "(Ljava/lang/String;IICZ)C" } : Jvm.MethodName) method_3_code (5 : Nat) (Option.some Jvm.ClassFile.FieldType.char), Jvm.Cond.code ({ cls := "java/lang/String", name := "length", desc := "()I" } : Jvm.MethodName) jdk_42_method_54_code (1 : Nat) (Option.some Jvm.ClassFile.FieldType.int), Jvm.Cond.code ({ cls := "java/lang/String", name := "coder", desc := "()B" } : Jvm.MethodName) jdk_42_method_152_code (1 : Nat) (Option.some Jvm.ClassFile.FieldType.byte), Jvm.Cond.code ({ cls := "java/lang/String", name := "charAt", desc := "(I)C" } : Jvm.MethodName) jdk_42_method_56_code (2 : Nat) (Option.some Jvm.ClassFile.FieldType.char), Jvm.Cond.code ({ cls := "java/lang/String", name := "isLatin1", desc := "()Z" } : Jvm.MethodName) jdk_42_method_154_code (1 : Nat) (Option.some Jvm.ClassFile.FieldType.boolean), Jvm.Cond.code ({ cls := "java/lang/StringLatin1", name := "charAt", desc := "([BI)C" } : Jvm.MethodName) jdk_43_method_2_code (2 : Nat) (Option.some Jvm.ClassFile.FieldType.char), Jvm.Cond.code ({ cls := "java/lang/String", name := "checkIndex", desc := "(II)V" } : Jvm.MethodName) jdk_42_method_155_code (2 : Nat) (Option.none : Option Jvm.ClassFile.FieldType), Jvm.Cond.code ({ cls := "jdk/internal/util/Preconditions", name := "checkIndex", desc := "(IILjava/util/function/BiFunction;)I" } : Jvm.MethodName) jdk_41_method_11_code (3 : Nat) (Option.some Jvm.ClassFile.FieldType.int), Jvm.Cond.code ({ cls := "java/lang/String", name := "<init>", desc := "([C)V" } : Jvm.MethodName) jdk_42_method_3_code (2 : Nat) (Option.none : Option Jvm.ClassFile.FieldType), Jvm.Cond.code ({ cls := "java/lang/String", name := "<init>", desc := "([CIILjava/lang/Void;)V" } : Jvm.MethodName) jdk_42_method_149_code (6 : Nat) (Option.none : Option Jvm.ClassFile.FieldType), Jvm.Cond.code ({ cls := "java/lang/Object", name := "<init>", desc := "()V" } : Jvm.MethodName) object_method_1_code (1 : Nat) (Option.none : Option Jvm.ClassFile.FieldType), Jvm.Cond.code ({ cls := "java/lang/StringUTF16", name := "compress", desc := "([CII)[B" } : Jvm.MethodName) jdk_52_method_16_code (6 : Nat) (Option.some (Jvm.ClassFile.FieldType.array Jvm.ClassFile.FieldType.byte)), Jvm.Cond.code ({ cls := "java/lang/StringUTF16", name := "compress", desc := "([CI[BII)I" } : Jvm.MethodName) jdk_52_method_21_code (7 : Nat) (Option.some Jvm.ClassFile.FieldType.int), Jvm.Cond.code ({ cls := "java/lang/StringUTF16", name := "coderFromArrayLen", desc := "([BI)B" } : Jvm.MethodName) jdk_52_method_15_code (2 : Nat) (Option.some Jvm.ClassFile.FieldType.byte), Jvm.Cond.code ({ cls := "java/lang/String", name := "equals", desc := "(Ljava/lang/Object;)Z" } : Jvm.MethodName) jdk_42_method_66_code (3 : Nat) (Option.some Jvm.ClassFile.FieldType.boolean), Jvm.Cond.code ({ cls := "java/lang/StringLatin1", name := "equals", desc := "([B[B)Z" } : Jvm.MethodName) jdk_43_method_13_code (3 : Nat) (Option.some Jvm.ClassFile.FieldType.boolean), Jvm.Cond.code ({ cls := "com/example/lichen/lichen/webhook/EventType", name := "of", desc := "(Ljava/lang/String;)Ljava/util/Optional;" } : Jvm.MethodName) prog_26_method_5_code (5 : Nat) (Option.some (Jvm.ClassFile.FieldType.object "java/util/Optional")), Jvm.Cond.code ({ cls := "com/example/lichen/lichen/webhook/EventType", name := "values", desc := "()[Lcom/example/lichen/lichen/webhook/EventType;" } : Jvm.MethodName) prog_26_method_1_code (0 : Nat) (Option.some (Jvm.ClassFile.FieldType.array (Jvm.ClassFile.FieldType.object "com/example/lichen/lichen/webhook/EventType"))), Jvm.Cond.code ({ cls := "java/util/Optional", name := "empty", desc := "()Ljava/util/Optional;" } : Jvm.MethodName) jdk_32_method_1_code (1 : Nat) (Option.some (Jvm.ClassFile.FieldType.object "java/util/Optional")), Jvm.Cond.code ({ cls := "java/util/Optional", name := "isPresent", desc := "()Z" } : Jvm.MethodName) jdk_32_method_6_code (1 : Nat) (Option.some Jvm.ClassFile.FieldType.boolean), Jvm.Cond.code ({ cls := "java/lang/StringUTF16", name := "toBytes", desc := "([CII)[B" } : Jvm.MethodName) jdk_52_method_14_code (5 : Nat) (Option.some (Jvm.ClassFile.FieldType.array Jvm.ClassFile.FieldType.byte)), Jvm.Cond.code ({ cls := "java/lang/StringUTF16", name := "newBytesFor", desc := "(I)[B" } : Jvm.MethodName) jdk_52_method_2_code (1 : Nat) (Option.some (Jvm.ClassFile.FieldType.array Jvm.ClassFile.FieldType.byte)), Jvm.Cond.code ({ cls := "java/lang/StringUTF16", name := "newBytesLength", desc := "(I)I" } : Jvm.MethodName) jdk_52_method_3_code (1 : Nat) (Option.some Jvm.ClassFile.FieldType.int), Jvm.Cond.code ({ cls := "java/lang/StringUTF16", name := "putChar", desc := "([BII)V" } : Jvm.MethodName) jdk_52_method_4_code (3 : Nat) (Option.none : Option Jvm.ClassFile.FieldType), Jvm.Cond.code ({ cls := "java/lang/StringUTF16", name := "getChar", desc := "([BI)C" } : Jvm.MethodName) jdk_52_method_5_code (2 : Nat) (Option.some Jvm.ClassFile.FieldType.char), Jvm.Cond.code ({ cls := "java/util/Optional", name := "of", desc := "(Ljava/lang/Object;)Ljava/util/Optional;" } : Jvm.MethodName) jdk_32_method_3_code (1 : Nat) (Option.some (Jvm.ClassFile.FieldType.object "java/util/Optional")), Jvm.Cond.code ({ cls := "java/util/Objects", name := "requireNonNull", desc := "(Ljava/lang/Object;)Ljava/lang/Object;" } : Jvm.MethodName) jdk_31_method_10_code (1 : Nat) (Option.some (Jvm.ClassFile.FieldType.object "java/lang/Object")), Jvm.Cond.code ({ cls := "java/util/Optional", name := "<init>", desc := "(Ljava/lang/Object;)V" } : Jvm.MethodName) jdk_32_method_2_code (2 : Nat) (Option.none : Option Jvm.ClassFile.FieldType), Jvm.Cond.code ({ cls := "java/util/Optional", name := "get", desc := "()Ljava/lang/Object;" } : Jvm.MethodName) jdk_32_method_5_code (1 : Nat) (Option.some (Jvm.ClassFile.FieldType.object "java/lang/Object"))]
set_option maxRecDepth 65536 in
theorem codes_eq : words1.filter isCode = codes1 := rfl
theorem w_codes : ∀ c ∈ words1.filter isCode, c.before args0 about1 = true := by
  rw [codes_eq]
  intro c hc
  simp only [codes1, List.mem_cons, List.not_mem_nil, or_false] at hc
  rcases hc with rfl | rfl | rfl | rfl | rfl | rfl | rfl | rfl | rfl | rfl | rfl | rfl | rfl | rfl | rfl | rfl | rfl | rfl | rfl | rfl | rfl | rfl | rfl | rfl | rfl | rfl | rfl | rfl | rfl | rfl
  · exact w_c0
  · exact w_c1
  · exact w_c2
  · exact w_c3
  · exact w_c4
  · exact w_c5
  · exact w_c6
  · exact w_c7
  · exact w_c8
  · exact w_c9
  · exact w_c10
  · exact w_c11
  · exact w_c12
  · exact w_c13
  · exact w_c14
  · exact w_c15
  · exact w_c16
  · exact w_c17
  · exact w_c18
  · exact w_c19
  · exact w_c20
  · exact w_c21
  · exact w_c22
  · exact w_c23
  · exact w_c24
  · exact w_c25
  · exact w_c26
  · exact w_c27
  · exact w_c28
  · exact w_c29
set_option maxRecDepth 65536 in
theorem w_t1 : (words1.take 24).all (fun c => isCode c || c.before args0 about1) = true := by decide +kernel
set_option maxRecDepth 65536 in
theorem w_t2 : ((words1.drop 24).take 24).all (fun c => isCode c || c.before args0 about1) = true := by decide +kernel
set_option maxRecDepth 65536 in
theorem w_t3 : (((words1.drop 24).drop 24).take 24).all (fun c => isCode c || c.before args0 about1) = true := by decide +kernel
set_option maxRecDepth 65536 in
theorem w_t4 : ((((words1.drop 24).drop 24).drop 24).take 24).all (fun c => isCode c || c.before args0 about1) = true := by decide +kernel
set_option maxRecDepth 65536 in
theorem w_t5 : (((((words1.drop 24).drop 24).drop 24).drop 24).take 24).all (fun c => isCode c || c.before args0 about1) = true := by decide +kernel
set_option maxRecDepth 65536 in
theorem w_t6 : ((((((words1.drop 24).drop 24).drop 24).drop 24).drop 24).take 24).all (fun c => isCode c || c.before args0 about1) = true := by decide +kernel
set_option maxRecDepth 65536 in
theorem w_t7 : ((((((words1.drop 24).drop 24).drop 24).drop 24).drop 24).drop 24).all (fun c => isCode c || c.before args0 about1) = true := by decide +kernel
theorem w_tables : (allAtoms (Jvm.Cond.code x code maxLocals ret :: tables_1)).before args0 about1 = true := by
  rw [allAtoms_all]
  show words1.all (fun c => c.before args0 about1) = true
  refine all_split ?_ w_codes
  rw [← List.take_append_drop 24 words1, List.all_append, w_t1, ← List.take_append_drop 24 (words1.drop 24), List.all_append, w_t2, ← List.take_append_drop 24 ((words1.drop 24).drop 24), List.all_append, w_t3, ← List.take_append_drop 24 (((words1.drop 24).drop 24).drop 24), List.all_append, w_t4, ← List.take_append_drop 24 ((((words1.drop 24).drop 24).drop 24).drop 24), List.all_append, w_t5, ← List.take_append_drop 24 (((((words1.drop 24).drop 24).drop 24).drop 24).drop 24), List.all_append, w_t6, w_t7]
  rfl
set_option maxRecDepth 65536 in
theorem w_rest : rest_1_c.before args0 about1 = true := by decide +kernel
set_option maxRecDepth 65536 in
theorem w_case : (Jvm.Cond.and given_1 narrow_1).before args0 about1 = true := by decide +kernel
set_option maxRecDepth 65536 in
theorem w_consts : constsHeld consts_1 about1 := Jvm.Lit.constsHeldB_iff.mp (by decide +kernel)
theorem w_applies : (headSpec (Jvm.Cond.code x code maxLocals ret :: tables_1) room_1).applies x e0.platform about1 = true :=
  (Spec.applies_iff w_frames).mpr ⟨w_running, w_runnable, w_alone, w_named, w_hears, w_ripe, w_room, w_tables⟩
theorem atStart : AtStart classFile x code maxLocals ret World_1 tables_1 room_1 Calls_1 rest_1 Pre_1 launch0 p0 e0 about1 theMethod args0 below0 :=
  ⟨lists_1, trivial, launch0.admits_env _ _ _, launch0.least_env, fairChoices_fair.cas, fairChoices_fair.clock, w_frames, w_args, w_heap, w_applies, ⟨w_consts, trivial⟩, w_rest, w_case⟩
end start1
theorem witness_1 : WitnessClaimed_1 := ⟨start1.p0, start1.e0, start1.about1, start1.theMethod, start1.args0, start1.below0, start1.atStart⟩
end Jvm.Pilot.@@N@@
