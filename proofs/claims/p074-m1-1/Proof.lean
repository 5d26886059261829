import JvmDerived
import JvmDerived.Pilot.@@N@@Statement
import JvmDerived.Pilot.@@N@@Code
set_option linter.unusedVariables false
set_option linter.unusedSimpArgs false
/- laws to paste: pair_says, chr8_lo8, shr1 (cut by pick.py; bodies as the Statement names them) -/
namespace Jvm.Pilot.@@N@@
namespace StrChars
open Jvm Sem ClassFile Op Lib Jvm.Stand Jvm.Free.XT Jvm.Free.ALB Jvm.Free.JM Jvm.Free
open Jvm.Lib.Cold (StaticIs)
/-- the byte that i2b leaves of a char -/
def lo8 (x : Int32) : Int32 := x.toInt8.toInt32
/-- the byte, read back as charAt reads it, is the char -/
theorem lo8_mask {x : Int32} (h0 : ¬ x < 0) (h1 : ¬ 255 < x) : lo8 x &&& 255 = x := by
  have t : ∀ k : Fin 256, lo8 (Int32.ofNat k.val) &&& 255 = Int32.ofNat k.val := by decide +kernel
  rw [Int32.lt_iff_toInt_lt] at h0 h1
  have e0 : (0 : Int32).toInt = 0 := rfl
  have e1 : (255 : Int32).toInt = 255 := rfl
  obtain ⟨k, hk⟩ : ∃ k : Nat, x.toInt = k := ⟨x.toInt.toNat, by omega⟩
  have hx : x = Int32.ofNat k := Int32.toInt_inj.mp (by rw [hk, Int32.toInt_ofNat_small (by omega)])
  rw [hx]
  exact t ⟨k, by omega⟩
end StrChars
namespace StrChars
open Jvm Sem ClassFile Op Lib Jvm.Stand Jvm.Free.XT Jvm.Free.ALB Jvm.Free.JM Jvm.Free
open Jvm.Lib.Cold (StaticIs)
def hi8 (x : Int32) : Int32 := lo8 (x >>> ((8 : Int32) &&& 31))
/-- what StringUTF16.getChar makes of two bytes -/
def pairCh (u v : Int32) : Int32 := (((u &&& 255) <<< ((0 : Int32) &&& 31)) ||| ((v &&& 255) <<< ((8 : Int32) &&& 31))).toUInt32.toUInt16.toUInt32.toInt32
theorem lo8_and (x : Int32) : (lo8 x &&& 255).toBitVec.toNat = x.toBitVec.toNat % 256 := by
  have h : (lo8 x).toBitVec = (x.toBitVec.signExtend 8).signExtend 32 := by rw [lo8, Int8.toBitVec_toInt32, Int32.toBitVec_toInt8]
  rw [Int32.toBitVec_and, BitVec.toNat_and, h]
  have e : ((x.toBitVec.signExtend 8).signExtend 32).toNat % 256 = x.toBitVec.toNat % 256 := by
    rw [BitVec.toNat_signExtend]
    have hlt := x.toBitVec.isLt
    simp only [BitVec.toNat_setWidth, BitVec.toNat_signExtend]
    split <;> split <;> omega
  rw [← e]
  exact Nat.and_two_pow_sub_one_eq_mod _ 8
theorem pair_says {c : Int32} (h0 : ¬ c < 0) (h1 : ¬ 65535 < c) : pairCh (lo8 c) (hi8 c) = c := by
  rw [Int32.lt_iff_toInt_lt] at h0 h1
  have e0 : (0 : Int32).toInt = 0 := rfl
  have e1 : (65535 : Int32).toInt = 65535 := rfl
  have hc : c.toInt = c.toBitVec.toNat := by
    have := c.toBitVec.isLt
    have e : c.toInt = c.toBitVec.toInt := rfl
    rw [e] at h0 h1
    rw [e]
    rw [BitVec.toInt_eq_toNat_cond] at h0 h1 ⊢
    split at h0 <;> split <;> omega
  have hn : c.toBitVec.toNat < 65536 := by omega
  have a1 := lo8_and c
  have a2 : (hi8 c &&& 255).toBitVec.toNat = c.toBitVec.toNat / 256 := by
    rw [hi8, lo8_and]
    have e : ((8 : Int32) &&& 31) = 8 := by decide
    rw [e, Int32.toBitVec_shiftRight]
    have e2 : ((8 : Int32).toBitVec.smod 32) = 8#32 := by decide
    rw [e2, BitVec.sshiftRight_eq', BitVec.toNat_sshiftRight_of_msb_false (by rw [BitVec.msb_eq_false_iff_two_mul_lt]; omega)]
    show c.toBitVec.toNat >>> 8 % 256 = _
    rw [Nat.shiftRight_eq_div_pow]
    omega
  unfold pairCh
  apply Int32.toBitVec_inj.mp
  apply BitVec.eq_of_toNat_eq
  have f0 : ((0 : Int32) &&& 31) = 0 := by decide
  have f8 : ((8 : Int32) &&& 31) = 8 := by decide
  rw [f0, f8]
  have g : (((lo8 c &&& 255) <<< (0 : Int32)) ||| ((hi8 c &&& 255) <<< (8 : Int32))).toBitVec.toNat = c.toBitVec.toNat := by
    rw [Int32.toBitVec_or, Int32.toBitVec_shiftLeft, Int32.toBitVec_shiftLeft]
    have s0 : ((0 : Int32).toBitVec.smod 32) = 0#32 := by decide
    have s8 : ((8 : Int32).toBitVec.smod 32) = 8#32 := by decide
    rw [s0, s8, BitVec.toNat_or]
    simp only [BitVec.shiftLeft_eq', BitVec.toNat_shiftLeft, a1, a2]
    show (c.toBitVec.toNat % 256) <<< 0 % 2 ^ 32 ||| (c.toBitVec.toNat / 256) <<< 8 % 2 ^ 32 = _
    rw [Nat.shiftLeft_zero, Nat.mod_eq_of_lt (show c.toBitVec.toNat % 256 < 2 ^ 32 by omega), Nat.mod_eq_of_lt (show (c.toBitVec.toNat / 256) <<< 8 < 2 ^ 32 by rw [Nat.shiftLeft_eq]; omega), Nat.or_comm, ← Nat.shiftLeft_add_eq_or_of_lt (by omega), Nat.shiftLeft_eq]
    omega
  show BitVec.toNat (((((lo8 c &&& 255) <<< (0 : Int32)) ||| ((hi8 c &&& 255) <<< (8 : Int32))).toBitVec.setWidth 16).setWidth 32) = _
  rw [BitVec.toNat_setWidth, BitVec.toNat_setWidth, g]
  omega
end StrChars
namespace StrChars
open Jvm Sem ClassFile Op Lib Jvm.Stand Jvm.Free.XT Jvm.Free.ALB Jvm.Free.JM Jvm.Free
open Jvm.Lib.Cold (StaticIs)
theorem shr1 {n : Nat} (h : 2 * n < 2 ^ 31) : Int32.ofNat (2 * n) >>> ((1 : Int32) &&& 31) = Int32.ofNat n := by
  have e : ((1 : Int32) &&& 31) = 1 := by decide
  rw [e]
  apply Int32.toBitVec_inj.mp
  rw [Int32.toBitVec_shiftRight]
  have e1 : ((1 : Int32).toBitVec.smod 32) = 1#32 := by decide
  have hm : (BitVec.ofNat 32 (2 * n)).toNat = 2 * n := by rw [BitVec.toNat_ofNat, Nat.mod_eq_of_lt (by omega)]
  rw [e1, BitVec.sshiftRight_eq']
  apply BitVec.eq_of_toNat_eq
  show ((BitVec.ofNat 32 (2 * n)).sshiftRight 1).toNat = (BitVec.ofNat 32 n).toNat
  rw [BitVec.toNat_sshiftRight_of_msb_false (by rw [BitVec.msb_eq_false_iff_two_mul_lt, hm]; omega), hm, BitVec.toNat_ofNat, Nat.shiftRight_eq_div_pow]
  omega
/-- charAt's cast of a byte read back -/
def chr8 (u : Int32) : Int32 := (u &&& 255).toUInt32.toUInt16.toUInt32.toInt32
theorem chr8_lo8 {c : Int32} (h0 : ¬ c < 0) (h1 : ¬ 255 < c) : chr8 (lo8 c) = c := by
  have t : ∀ k : Fin 256, (Int32.ofNat k.val).toUInt32.toUInt16.toUInt32.toInt32 = Int32.ofNat k.val := by decide +kernel
  unfold chr8
  rw [lo8_mask h0 h1]
  rw [Int32.lt_iff_toInt_lt] at h0 h1
  have e0 : (0 : Int32).toInt = 0 := rfl
  have e1 : (255 : Int32).toInt = 255 := rfl
  obtain ⟨k, hk⟩ : ∃ k : Nat, c.toInt = k := ⟨c.toInt.toNat, by omega⟩
  have hx : c = Int32.ofNat k := Int32.toInt_inj.mp (by rw [hk, Int32.toInt_ofNat_small (by omega)])
  rw [hx]
  exact t ⟨k, by omega⟩
end StrChars
end Jvm.Pilot.@@N@@
namespace Jvm.Pilot.@@N@@
open Jvm Jvm.ClassFile Sem Op Lib Jvm.Free Jvm.Stand Jvm.LawKit Jvm.RoadKit Bundle Jvm.Pilot.@@N@@.Jvm.D

section OwnKit
variable {p : Program} {l : Launch} {e : Env} {R : Room} {s : State} {m : MethodId} {args : Array Value} {below : List Frame} {meth : Method} {c : Code} {T : State} {locs : List Loc} {cells slots : Nat} {Q : Option Value → Heap → List Loc → Prop} {kc kn : Nat} {h : Heap}
/-- from T, with the frame g on top, the body comes to its end, and the end is as Q says -/
def own_Fin (p : Program) (e : Env) (s : State) (below : List Frame) (Q : Option Value → Heap → List Loc → Prop) (kc kn : Nat) (T : State) (g : JFrame) : Prop :=
  ∃ s₂ o, Steps p.tables e below (T.setTop g) s₂ ∧ s₂.status = .running ∧ Ended s₂ below o ∧ ∃ v L, o = .returned v ∧ Q v s₂.heap L ∧ FrameEnd s o s₂ L kc kn
theorem own_w {Z : State} {a0 : Array Value} (hw : ∀ d ∈ tables_1, d.before a0 Z = true) (i : Nat) {d : Jvm.Cond} (h : tables_1[i]? = some d) : d.before a0 Z = true := hw d (List.mem_of_getElem? h)
theorem own_eq {T : State} {h : Heap} {x : Addr} {c : Cell} (e : T.heap = h) (q : h[x]? = some c) : T.heap[x]? = some c := by rw [e]; exact q
theorem own_via {T' : State} {g g' : JFrame} (k : ∀ t, Steps p.tables e below (T'.setTop g') t → Steps p.tables e below (T.setTop g) t) (hf : own_Fin p e s below Q kc kn T' g') : own_Fin p e s below Q kc kn T g := by
  obtain ⟨s2, o, h1, r⟩ := hf
  exact ⟨s2, o, k _ h1, r⟩
theorem own_ret0 (X : Stand p l e R s m args below meth c T locs cells slots) (hx : p.tables.exec = Jvm.exec) (hret : meth.sig.returnType = none) (hlk : meth.locks = false) {pc : Nat} {Ls : Array Slot} (hd : decode c.code pc = .ok (.return_, 1)) (eT : T.heap = h) (hq : Q none h locs) (hc : cells ≤ kc) (hs : slots ≤ kn) : own_Fin p e s below Q kc kn T (mkF m pc Ls []) := by
  obtain ⟨fs, hr, hrun, hended, hW, hsame⟩ := X.leave (v := none) (fun _ => rfl) hlk
  exact ⟨_, _, X.returnOut hx hret hd hr, hrun, hended, none, locs, rfl, by subst eT; exact hq, ⟨_, rfl⟩, hW, hsame.mono hc hs⟩
theorem own_retN (X : Stand p l e R s m args below meth c T locs cells slots) (hx : p.tables.exec = Jvm.exec) {t : FieldType} (hret : meth.sig.returnType = some t) (hlk : meth.locks = false) (ht : t = .boolean ∨ t = .byte ∨ t = .char ∨ t = .short) {pc : Nat} {Ls : Array Slot} {z r : Int32} {rest : List Value} (hd : decode c.code pc = .ok (.ireturn, 1)) (eT : T.heap = h) (hv : nar t z = r) (hq : Q (some (.int r)) h locs) (hc : cells ≤ kc) (hs : slots ≤ kn) : own_Fin p e s below Q kc kn T (mkF m pc Ls (.int z :: rest)) := by
  obtain ⟨fs, hr, hrun, hended, hW, hsame⟩ := X.leave (v := some (.int (nar t z))) (fun h => by rw [hret] at h; cases h) hlk
  exact ⟨_, _, retN X hx hret ht hd hr, hrun, hended, _, locs, rfl, by subst eT; rw [hv]; exact hq, ⟨_, rfl⟩, hW, hsame.mono hc hs⟩
theorem own_retI (X : Stand p l e R s m args below meth c T locs cells slots) (hx : p.tables.exec = Jvm.exec) (hret : meth.sig.returnType = some .int) (hlk : meth.locks = false) {pc : Nat} {Ls : Array Slot} {z r : Int32} {rest : List Value} (hd : decode c.code pc = .ok (.ireturn, 1)) (eT : T.heap = h) (hv : z = r) (hq : Q (some (.int r)) h locs) (hc : cells ≤ kc) (hs : slots ≤ kn) : own_Fin p e s below Q kc kn T (mkF m pc Ls (.int z :: rest)) := by
  subst hv
  obtain ⟨fs, hr, hrun, hended, hW, hsame⟩ := X.leave (v := some (.int z)) (fun h => by rw [hret] at h; cases h) hlk
  exact ⟨_, _, retOut X hx hret rfl (Or.inl ⟨rfl, Or.inl rfl, z, rfl⟩) hd hr, hrun, hended, _, locs, rfl, by subst eT; exact hq, ⟨_, rfl⟩, hW, hsame.mono hc hs⟩
theorem own_retJ (X : Stand p l e R s m args below meth c T locs cells slots) (hx : p.tables.exec = Jvm.exec) (hret : meth.sig.returnType = some .long) (hlk : meth.locks = false) {pc : Nat} {Ls : Array Slot} {z r : Int64} {rest : List Value} (hd : decode c.code pc = .ok (.lreturn, 1)) (eT : T.heap = h) (hv : z = r) (hq : Q (some (.long r)) h locs) (hc : cells ≤ kc) (hs : slots ≤ kn) : own_Fin p e s below Q kc kn T (mkF m pc Ls (.long z :: rest)) := by
  subst hv
  obtain ⟨fs, hr, hrun, hended, hW, hsame⟩ := X.leave (v := some (.long z)) (fun h => by rw [hret] at h; cases h) hlk
  exact ⟨_, _, retOut X hx hret rfl (Or.inr (Or.inl ⟨rfl, rfl, z, rfl⟩)) hd hr, hrun, hended, _, locs, rfl, by subst eT; exact hq, ⟨_, rfl⟩, hW, hsame.mono hc hs⟩
theorem own_retD (X : Stand p l e R s m args below meth c T locs cells slots) (hx : p.tables.exec = Jvm.exec) (hret : meth.sig.returnType = some .double) (hlk : meth.locks = false) {pc : Nat} {Ls : Array Slot} {z r : UInt64} {rest : List Value} (hd : decode c.code pc = .ok (.dreturn, 1)) (eT : T.heap = h) (hv : z = r) (hq : Q (some (.double r)) h locs) (hc : cells ≤ kc) (hs : slots ≤ kn) : own_Fin p e s below Q kc kn T (mkF m pc Ls (.double z :: rest)) := by
  subst hv
  obtain ⟨fs, hr, hrun, hended, hW, hsame⟩ := X.leave (v := some (.double z)) (fun h => by rw [hret] at h; cases h) hlk
  exact ⟨_, _, retOut X hx hret rfl (Or.inr (Or.inr (Or.inl ⟨rfl, rfl, z, rfl⟩))) hd hr, hrun, hended, _, locs, rfl, by subst eT; exact hq, ⟨_, rfl⟩, hW, hsame.mono hc hs⟩
theorem own_retA (X : Stand p l e R s m args below meth c T locs cells slots) (hx : p.tables.exec = Jvm.exec) {t : FieldType} (hret : meth.sig.returnType = some t) (hlk : meth.locks = false) (ht : t.isReference = true) {pc : Nat} {Ls : Array Slot} {w : Value} {rest : List Value} (hw : w.isRef = true) (hd : decode c.code pc = .ok (.areturn, 1)) (eT : T.heap = h) (hq : Q (some w) h locs) (hc : cells ≤ kc) (hs : slots ≤ kn) : own_Fin p e s below Q kc kn T (mkF m pc Ls (w :: rest)) := by
  obtain ⟨fs, hr, hrun, hended, hW, hsame⟩ := X.leave (v := some w) (fun h => by rw [hret] at h; cases h) hlk
  have hn : narrow t w = w := by
    cases t <;> first | (cases ht; done) | rfl
  exact ⟨_, _, retOut X hx hret hn (Or.inr (Or.inr (Or.inr (Or.inr ⟨rfl, ht, hw⟩)))) hd hr, hrun, hended, _, locs, rfl, by subst eT; exact hq, ⟨_, rfl⟩, hW, hsame.mono hc hs⟩
theorem own_cloneV {Z : State} {a0 : Array Value} {a : Addr} {ty : FieldType} (X : Stand p l e R s m args below meth c T locs cells slots) (hx : p.tables.exec = Jvm.exec) (hZ : Z.Warmed39 s.vm) {own ad : String} {index : Nat} (hown : s.vm.findClass own = some m.cls)
    (w1 : (Cond.methodLink own index ⟨ad, "clone", "()Ljava/lang/Object;"⟩).before a0 Z = true) (w2 : (Cond.sameMethod ad "java/lang/Object" "clone" "()Ljava/lang/Object;").before a0 Z = true) (w3 : (Cond.native ⟨"java/lang/Object", "clone", "()Ljava/lang/Object;"⟩).before a0 Z = true)
    (w4 : (Cond.instanceMethod ⟨"java/lang/Object", "clone", "()Ljava/lang/Object;"⟩).before a0 Z = true) (w5 : (Cond.selects ad ⟨ad, "clone", "()Ljava/lang/Object;"⟩ ⟨"java/lang/Object", "clone", "()Ljava/lang/Object;"⟩).before a0 Z = true) (w6 : (Cond.castable ad "java/lang/Cloneable").before a0 Z = true)
    (eT : T.heap = h) {k : ClassId} {z : Int32} {vs : List Value} {dv : Value} (F : Arv Z h a k ty z vs dv) (E : Exa Z h a ad) {g : JFrame} (hg : g.method = m) (hsize : g.locals.size = c.maxLocals) {rest : List Value} (hst : g.stack = .ref a :: rest) (hd : decode c.code g.pc = .ok (.invokevirtual index, 3))
    (hf : 1 ≤ R.frames) {W cap : Nat} (hW : 2 * g.monitorRoom + (rest.map fun v => v.category).sum ≤ W) (hl : W + 14 ≤ R.locals) (hcap : z.toNatClampNeg ≤ cap) (hc : cells + 1 ≤ R.cells) (hsl : slots + cap ≤ R.slots) :
    ∃ T' h', Stand p l e R s m args below meth c T' locs (cells + 1) (slots + cap) ∧ T'.heap = h' ∧ Ext h h' ∧ Arv Z h' h.size k ty z vs dv ∧ Exa Z h' h.size ad ∧
      ∀ target, Steps p.tables e below (T'.setTop { g with pc := g.pc + 3, stack := .ref h.size :: rest }) target → Steps p.tables e below (T.setTop g) target := by
  obtain ⟨cl, A, r1, r2, r3, r4, r5⟩ := F
  have fc : FitC Z cl := fitC_of A fun i hi v hv => by
    have q := r4 i hi
    rw [q] at hv
    cases hv
    exact r5 i hi
  obtain ⟨T1, h1, X1, e1, x1, A1, E1, st1⟩ := cloneA X hx hZ hown w1 w2 w3 w4 w5 w6 eT A E fc hg hsize hst hd hf hW hl (by rw [r2]; exact hcap) hc hsl
  exact ⟨T1, h1, X1, e1, x1, ⟨_, A1, r1, r2, r3, r4, r5⟩, E1, st1⟩
theorem own_selfsel {s : State} {args : Array Value} {C : String} {y : MethodName} (hs : (Cond.selects C y y).before args s = true) (hi : (Cond.instanceMethod y).before args s = true) (hp : s.PrivateAt y) (hy : y.cls ≠ "java/lang/invoke/MethodHandle" ∧ y.cls ≠ "java/lang/invoke/VarHandle") : (Cond.selects y.cls y y).before args s = true := by
  obtain ⟨c2, r2, m2, -, -, q3, -, kP, hkP, hkPi⟩ := Cond.selects_spec hs
  exact Jvm.Stand.selects_self_of_private (findClass_of_methodNamed q3) hkP hkPi hp hi hy
theorem own_notFace {s : State} {args : Array Value} {C : String} {x y z : MethodName} (hs : (Cond.selects C x z).before args s = true) (hz : z.cls = y.cls) : NotFace s y := fun r0 h0 => by
  obtain ⟨c2, r2, m2, -, -, q3, -, kP, hkP, hkPi⟩ := Cond.selects_spec hs
  have h1 := findClass_of_methodNamed h0
  have h2 := findClass_of_methodNamed q3
  rw [hz] at h2
  have e : m2.cls = r0.cls := Option.some.inj (h2.symm.trans h1)
  rw [e] at hkP
  exact ⟨kP, hkP, hkPi⟩
theorem own_same {Z : State} {a0 : Array Value} {C : String} {x y z : MethodName} (hi : (Cond.instanceMethod y).before a0 Z = true) (hs : (Cond.selects C x z).before a0 Z = true) (hz : z.cls = y.cls) (hy : y.cls ≠ "java/lang/invoke/MethodHandle" ∧ y.cls ≠ "java/lang/invoke/VarHandle") : (Cond.sameMethod y.cls y.cls y.name y.desc).before a0 Z = true := by
  obtain ⟨mk, methM, hnamed, -, -, -⟩ := Cond.instanceMethod_spec hi
  obtain ⟨c2, r2, m2, -, -, q3, -, kP, hkP, hkPi⟩ := Cond.selects_spec hs
  have h1 := findClass_of_methodNamed hnamed
  have h2 := findClass_of_methodNamed q3
  rw [hz] at h2
  have e : m2.cls = mk.cls := Option.some.inj (h2.symm.trans h1)
  have hfound := State.methodFound?_of_named hnamed hy
  have hn' : Z.methodNamed? ⟨y.cls, y.name, y.desc⟩ = some mk := hnamed
  rw [e] at hkP
  simp only [Cond.before, Cond.holds, Cond.value, h1, hfound, hn']
  simp [hkP, hkPi]
end OwnKit

section OwnKitH
variable {p : Program} {l : Launch} {e : Env} {R : Room} {s : State} {m : MethodId} {args : Array Value} {below : List Frame} {meth : Method} {c : Code} {T : State} {locs : List Loc} {cells slots : Nat} {Q : Option Value → Heap → List Loc → Prop} {kc kn : Nat} {h h0 : Heap} {Z : State} {a0 : Array Value} {EL : List (String × Nat)} {vm : Vm} {k0 : Nat}
/-- own_Fin of a body that may load String constants -/
def own_FinH (p : Program) (e : Env) (s : State) (below : List Frame) (Z : State) (EL : List (String × Nat)) (Q : Option Value → Heap → List Loc → Prop) (kc kn : Nat) (T : State) (g : JFrame) : Prop :=
  ∃ s₂ o, Steps p.tables e below (T.setTop g) s₂ ∧ s₂.status = .running ∧ Ended s₂ below o ∧ ∃ v L, o = .returned v ∧ Q v s₂.heap L ∧ CHr Z EL s.vm s.heap s₂.vm s₂.heap ∧ ReturnedEndW s o s₂ L kc kn
theorem own_viaH {T' : State} {g g' : JFrame} (k : ∀ t, Steps p.tables e below (T'.setTop g') t → Steps p.tables e below (T.setTop g) t) (hf : own_FinH p e s below Z EL Q kc kn T' g') : own_FinH p e s below Z EL Q kc kn T g := by
  obtain ⟨s2, o, h1, r⟩ := hf
  exact ⟨s2, o, k _ h1, r⟩
theorem own_endH (X : Stand p l e R (s.setVm vm) m args below meth c T locs cells slots) (hlk : meth.locks = false) (hEL : EW Z a0 EL) (hZ : Z.Warmed39 vm) (hS : s.Since vm k0) (hk : k0 ≤ h.size) (hh : s.heap = h0) (C : CHr Z EL s.vm h0 vm h) (eT : T.heap = h) {v : Option Value} (hv : meth.sig.returnType = none → v = none) {g : JFrame}
    (st : ∀ fs : List Frame, (∀ (f : JFrame) (acts : List Action), f.method = m → f.locked = none → f.entered = [] → (doReturn e (T.setTop f) acts v).1 = T.setFrames fs) → Steps p.tables e below (T.setTop g) (T.setFrames fs)) (hq : Q v h locs) (hc : cells ≤ kc) (hs : slots ≤ kn) : own_FinH p e s below Z EL Q kc kn T g := by
  obtain ⟨fs, hr, hrun, hended, w1, w2, w3, w4⟩ := X.leaveW hS (by rw [eT]; exact hk) hv hlk
  subst eT hh
  have K : CHr Z EL vm T.heap T.vm T.heap := CHv.at X hZ hEL C.1
  exact ⟨_, _, st fs hr, hrun, hended, v, locs, rfl, hq, C.trans K, w1, w2, w3, w4.mono hc hs⟩
theorem own_ret0H (X : Stand p l e R (s.setVm vm) m args below meth c T locs cells slots) (hx : p.tables.exec = Jvm.exec) (hret : meth.sig.returnType = none) (hlk : meth.locks = false) (hEL : EW Z a0 EL) (hZ : Z.Warmed39 vm) (hS : s.Since vm k0) (hk : k0 ≤ h.size) (hh : s.heap = h0) (C : CHr Z EL s.vm h0 vm h) {pc : Nat} {Ls : Array Slot} (hd : decode c.code pc = .ok (.return_, 1)) (eT : T.heap = h) (hq : Q none h locs) (hc : cells ≤ kc) (hs : slots ≤ kn) : own_FinH p e s below Z EL Q kc kn T (mkF m pc Ls []) :=
  own_endH X hlk hEL hZ hS hk hh C eT (fun _ => rfl) (fun fs hr => X.returnOut hx hret hd hr) hq hc hs
theorem own_retNH (X : Stand p l e R (s.setVm vm) m args below meth c T locs cells slots) (hx : p.tables.exec = Jvm.exec) {t : FieldType} (hret : meth.sig.returnType = some t) (hlk : meth.locks = false) (hEL : EW Z a0 EL) (hZ : Z.Warmed39 vm) (hS : s.Since vm k0) (hk : k0 ≤ h.size) (hh : s.heap = h0) (C : CHr Z EL s.vm h0 vm h) (ht : t = .boolean ∨ t = .byte ∨ t = .char ∨ t = .short) {pc : Nat} {Ls : Array Slot} {z r : Int32} {rest : List Value} (hd : decode c.code pc = .ok (.ireturn, 1)) (eT : T.heap = h) (hv : nar t z = r) (hq : Q (some (.int r)) h locs) (hc : cells ≤ kc) (hs : slots ≤ kn) : own_FinH p e s below Z EL Q kc kn T (mkF m pc Ls (.int z :: rest)) := by
  subst hv
  exact own_endH X hlk hEL hZ hS hk hh C eT (fun q => by rw [hret] at q; cases q) (fun fs hr => retN X hx hret ht hd hr) hq hc hs
theorem own_retIH (X : Stand p l e R (s.setVm vm) m args below meth c T locs cells slots) (hx : p.tables.exec = Jvm.exec) (hret : meth.sig.returnType = some .int) (hlk : meth.locks = false) (hEL : EW Z a0 EL) (hZ : Z.Warmed39 vm) (hS : s.Since vm k0) (hk : k0 ≤ h.size) (hh : s.heap = h0) (C : CHr Z EL s.vm h0 vm h) {pc : Nat} {Ls : Array Slot} {z r : Int32} {rest : List Value} (hd : decode c.code pc = .ok (.ireturn, 1)) (eT : T.heap = h) (hv : z = r) (hq : Q (some (.int r)) h locs) (hc : cells ≤ kc) (hs : slots ≤ kn) : own_FinH p e s below Z EL Q kc kn T (mkF m pc Ls (.int z :: rest)) := by
  subst hv
  exact own_endH X hlk hEL hZ hS hk hh C eT (fun q => by rw [hret] at q; cases q) (fun fs hr => retOut X hx hret rfl (Or.inl ⟨rfl, Or.inl rfl, z, rfl⟩) hd hr) hq hc hs
theorem own_retAH (X : Stand p l e R (s.setVm vm) m args below meth c T locs cells slots) (hx : p.tables.exec = Jvm.exec) {t : FieldType} (hret : meth.sig.returnType = some t) (hlk : meth.locks = false) (hEL : EW Z a0 EL) (hZ : Z.Warmed39 vm) (hS : s.Since vm k0) (hk : k0 ≤ h.size) (hh : s.heap = h0) (C : CHr Z EL s.vm h0 vm h) (ht : t.isReference = true) {pc : Nat} {Ls : Array Slot} {w : Value} {rest : List Value} (hw : w.isRef = true) (hd : decode c.code pc = .ok (.areturn, 1)) (eT : T.heap = h) (hq : Q (some w) h locs) (hc : cells ≤ kc) (hs : slots ≤ kn) : own_FinH p e s below Z EL Q kc kn T (mkF m pc Ls (w :: rest)) := by
  have hn : narrow t w = w := by
    cases t <;> first | (cases ht; done) | rfl
  exact own_endH X hlk hEL hZ hS hk hh C eT (fun q => by rw [hret] at q; cases q) (fun fs hr => retOut X hx hret hn (Or.inr (Or.inr (Or.inr (Or.inr ⟨rfl, ht, hw⟩)))) hd hr) hq hc hs
/-- a String whose value is still null is no booked one -/
theorem own_safe_null {x : Addr} (hal : Z.vm.Alike vm) (E : Exa Z h x "java/lang/String") (F : Fld Z h x "java/lang/String" "value" "[B" .null) : Safe Z EL vm h x := fun B => by
  obtain ⟨p1, -, u, a, -, q, -, G, rfl | rfl⟩ := B
  · obtain ⟨cell, cf, k, i, f, h1, h2, h3, -, -, -, h7⟩ := F
    obtain ⟨cS, ⟨⟨s1, s2, s3, ⟨c', k', i', s4, s4'⟩, s5, s6, s7, s8, -⟩, -, -⟩, -⟩ := G
    cases (show h[q.sa]? = some q.sC from s1).symm.trans h1
    obtain ⟨k2, z4⟩ := ff_back (U := Wst Z vm h) hal s4
    cases h2.symm.trans z4
    rw [h7] at s8
    cases s8
  · obtain ⟨cell, k, e1, e2, e3, -⟩ := E
    cases (show h[q.sd]? = some q.SA from G.hd).symm.trans e1
    obtain ⟨cS, -, -, f, -⟩ := G
    have f' : vm.findClass "[B" = some q.SA.cls := f
    rw [hal.findClass] at f'
    obtain ⟨k1, q1, q2⟩ := Vm.findClass_spec f'
    obtain ⟨k2, q3, q4⟩ := Vm.findClass_spec e2
    cases q1.symm.trans q3
    exact absurd (q2.symm.trans q4) (by decide)
end OwnKitH

theorem own_gset {ws : List Value} {i : Nat} {v d : Value} (hi : i < ws.length) : (ws.set i v).getD i d = v := by
  rw [List.getD_eq_getElem?_getD, List.getElem?_set_self hi]; rfl
theorem own_gset_ne {ws : List Value} {i k : Nat} {v d : Value} (hi : i ≠ k) : (ws.set i v).getD k d = ws.getD k d := by
  rw [List.getD_eq_getElem?_getD, List.getElem?_set_ne hi, List.getD_eq_getElem?_getD]
theorem own_neg31 {x : Int32} (h : x.toInt < 0) : (x.toUInt32 >>> ((31 : Int32) &&& 31).toUInt32).toInt32 = 1 := by
  have e := c_iushr x (31 : Int32) 31 (by decide) (by decide)
  have r := rng32 x
  apply Int32.toInt_inj.mp
  have e1 : (1 : Int32).toInt = 1 := rfl
  omega

theorem own_lt32 {a b : Int32} : a < b ↔ a.toInt < b.toInt := Int32.lt_iff_toInt_lt
theorem own_getD {ds : List Int32} {k : Nat} : (ds.map Value.int).getD k (.int 0) = .int (ds.getD k 0) := by
  simp only [List.getD_eq_getElem?_getD, List.getElem?_map]
  cases ds[k]? <;> rfl
theorem own_toI {i : Nat} (hi : i ≤ 10000) : (Int32.ofNat i).toInt = (i : Int) := Int32.toInt_ofNat_of_lt (by omega)
theorem own_jI {i : Nat} {j : Int32} (hj : j = Int32.ofNat i) (hi : i ≤ 10000) : j.toInt = (i : Int) := by rw [hj]; exact own_toI hi
theorem own_clamp {i : Nat} {j : Int32} (hj : j = Int32.ofNat i) (hi : i ≤ 10000) : j.toNatClampNeg = i := by
  show j.toInt.toNat = i
  rw [own_jI hj hi]; exact Int.toNat_natCast i
theorem own_el {ds : List Int32} {i : Nat} {j : Int32} (hj : j = Int32.ofNat i) (hi : i ≤ 10000) : (ds.map Value.int).getD j.toNatClampNeg (.int 0) = .int (ds.getD i 0) := by rw [own_clamp hj hi]; exact own_getD
theorem own_ltN {i n : Nat} {j N : Int32} (hj : j = Int32.ofNat i) (hN : N = Int32.ofNat n) (hi : i ≤ 10000) (hn : n ≤ 10000) : j < N ↔ i < n := by
  rw [own_lt32, own_jI hj hi, own_jI hN hn]; omega
theorem own_nneg {i : Nat} {j : Int32} (hj : j = Int32.ofNat i) (hi : i ≤ 10000) : ¬ j < 0 := by
  have e : (0 : Int32).toInt = 0 := rfl
  rw [own_lt32, own_jI hj hi, e]; omega
theorem own_inb {i n : Nat} {j N : Int32} (hj : j = Int32.ofNat i) (hN : N = Int32.ofNat n) (hi : i < n) (hn : n ≤ 10000) : ¬ j < 0 ∧ j < N := ⟨own_nneg hj (by omega), (own_ltN hj hN (by omega) hn).mpr hi⟩
theorem own_succ {i : Nat} {j : Int32} (hj : j = Int32.ofNat i) : j + (1 : Int32) = Int32.ofNat (i + 1) := by rw [hj, Int32.ofNat_add]; rfl
theorem own_one {z : Int32} : One (.val (.int z)) := Or.inr ⟨_, rfl, rfl⟩
theorem own_subI {x y : Int32} {a b : Int} (hx : x.toInt = a) (hy : y.toInt = b) (h1 : -2147483648 ≤ a - b) (h2 : a - b < 2147483648) : (x - y).toInt = a - b := by
  have e := c_isub x y
  have r := rng32 (x - y)
  omega
theorem own_addI {x y : Int32} {a b : Int} (hx : x.toInt = a) (hy : y.toInt = b) (h1 : -2147483648 ≤ a + b) (h2 : a + b < 2147483648) : (x + y).toInt = a + b := by
  have e := c_iadd x y
  have r := rng32 (x + y)
  omega
theorem own_nz {n : Nat} {N : Int32} (hN : N = Int32.ofNat n) (hp0 : 0 < n) (hn : n ≤ 4000) : ¬ N = (0 : Int32) := fun q => by
  have e := own_jI hN (by omega)
  rw [q] at e
  have e2 : (0 : Int32).toInt = 0 := rfl
  omega
theorem own_ofne {i n : Nat} {j N : Int32} (hj : j = Int32.ofNat i) (hN : N = Int32.ofNat n) (hi : i < n) (hn : n ≤ 4000) : ¬ j = N := fun q => by
  have e := own_jI hN (by omega)
  have e2 := own_jI hj (by omega)
  rw [q] at e2
  omega
theorem own_small {n : Nat} {j : Int32} (hj : j = Int32.ofNat n) (hn : n ≤ 4000) : j < (1073741823 : Int32) := by
  have e : (1073741823 : Int32).toInt = 1073741823 := rfl
  rw [own_lt32, own_jI hj (by omega), e]; omega
theorem own_i2c {x : Int32} (h0 : 0 ≤ x.toInt) (h1 : x.toInt < 65536) : x.toUInt32.toUInt16.toUInt32.toInt32 = x := Int32.toInt_inj.mp (by have := c_i2c x; omega)
def own_lat (x : Int32) : Prop := 0 ≤ x.toInt ∧ x.toInt ≤ 255
def own_chr (x : Int32) : Prop := 0 ≤ x.toInt ∧ x.toInt ≤ 65535
def own_chs (cs : List Int32) : Prop := ∀ q, own_chr (cs.getD q 0)
theorem own_chs_of {cs : List Int32} (h : ∀ c ∈ cs, own_chr c) : own_chs cs := fun q => by
  rw [List.getD_eq_getElem?_getD]
  cases e : cs[q]? with
  | none => exact ⟨by decide, by decide⟩
  | some c => exact h c (List.mem_of_getElem? e)
theorem own_255 {x : Int32} : (255 : Int32) < x ↔ 255 < x.toInt := by
  have e : (255 : Int32).toInt = 255 := rfl
  rw [own_lt32, e]
theorem own_lat_of {x : Int32} (h : own_chr x) (h2 : ¬ (255 : Int32) < x) : own_lat x := by
  rw [own_255] at h2
  exact ⟨h.1, by omega⟩
theorem own_narch {x : Int32} (h : own_chr x) : nar .char x = x := by
  obtain ⟨h1, h2⟩ := h
  show x.toUInt32.toUInt16.toUInt32.toInt32 = _
  rw [own_i2c (by omega) (by omega)]
abbrev own_lo (x : Int32) : Int32 := x.toInt8.toInt32
abbrev own_hi (x : Int32) : Int32 := (x >>> ((8 : Int32) &&& 31)).toInt8.toInt32
theorem own_shr0 (N : Int32) : N >>> ((0 : Int32) &&& 31) = N := Int32.toInt_inj.mp (by rw [c_ishr N 0 0 (by decide)]; simp)
theorem own_lo2 (x : Int32) : x.toInt8.toInt32.toInt8.toInt32 = x.toInt8.toInt32 := by rw [Int8.toInt8_toInt32]
theorem own_st1 (x : Int32) : nar .byte (x.toInt8.toInt32) = own_lo x := own_lo2 x
theorem own_st0 (x : Int32) : nar .byte ((x >>> ((0 : Int32) &&& 31)).toInt8.toInt32) = own_lo x := by rw [own_shr0]; exact own_lo2 x
theorem own_st8 (x : Int32) : nar .byte ((x >>> ((8 : Int32) &&& 31)).toInt8.toInt32) = own_hi x := own_lo2 _
theorem own_cdb {cd : Int32} (h : cd = (0 : Int32) ∨ cd = (1 : Int32)) : nar .byte cd = cd := by rcases h with rfl | rfl <;> decide
theorem own_cdn {cd : Int32} (h : cd = (0 : Int32) ∨ cd = (1 : Int32)) : narrow .byte (.int cd) = .int cd := by rcases h with rfl | rfl <;> decide
theorem own_cdf {cd : Int32} (h : cd = (0 : Int32) ∨ cd = (1 : Int32)) : fits .byte (.int cd) = true := by rcases h with rfl | rfl <;> decide
theorem own_zl {x : Int32} {k : Int32} {n : Int} (hk : k.toInt = n) : ¬ x < 0 ∧ ¬ k < x ↔ 0 ≤ x.toInt ∧ x.toInt ≤ n := by
  have e : (0 : Int32).toInt = 0 := rfl
  rw [own_lt32, own_lt32, e, hk]; omega
theorem own_getch {c : Int32} (h : own_chr c) : nar .char ((((own_lo c &&& (255 : Int32)) <<< ((0 : Int32) &&& 31)) ||| ((own_hi c &&& (255 : Int32)) <<< ((8 : Int32) &&& 31))).toUInt32.toUInt16.toUInt32.toInt32) = c := by
  have q := (own_zl (x := c) (k := (65535 : Int32)) (n := 65535) rfl).mpr h
  have e : (((own_lo c &&& (255 : Int32)) <<< ((0 : Int32) &&& 31)) ||| ((own_hi c &&& (255 : Int32)) <<< ((8 : Int32) &&& 31))).toUInt32.toUInt16.toUInt32.toInt32 = c := StrChars.pair_says q.1 q.2
  rw [e]; exact own_narch h
theorem own_latch {c : Int32} (h : own_lat c) : nar .char ((own_lo c &&& (255 : Int32)).toUInt32.toUInt16.toUInt32.toInt32) = c := by
  have q := (own_zl (x := c) (k := (255 : Int32)) (n := 255) rfl).mpr h
  have e : (own_lo c &&& (255 : Int32)).toUInt32.toUInt16.toUInt32.toInt32 = c := StrChars.chr8_lo8 q.1 q.2
  rw [e]; exact own_narch ⟨h.1, by have := h.2; omega⟩
theorem own_shl1 {i : Nat} {j : Int32} (hj : j = Int32.ofNat i) (hi : i ≤ 4000) : (j <<< ((1 : Int32) &&& 31)).toInt = 2 * (i : Int) := by
  have e := c_ishl j (1 : Int32) 1 (by decide)
  have r := rng32 (j <<< ((1 : Int32) &&& 31))
  rw [own_jI hj (by omega)] at e
  omega
theorem own_sh1 {i : Nat} {j : Int32} (hj : j = Int32.ofNat i) (hi : i ≤ 4000) : (j <<< ((1 : Int32) &&& 31)).toNatClampNeg = 2 * i := by
  show (j <<< ((1 : Int32) &&& 31)).toInt.toNat = _
  rw [own_shl1 hj hi]; omega
theorem own_shl2 {i : Nat} {j : Int32} (hj : j = Int32.ofNat i) (hi : i ≤ 4000) : ((j <<< ((1 : Int32) &&& 31)) + (1 : Int32)).toInt = 2 * (i : Int) + 1 := own_addI (own_shl1 hj hi) rfl (by omega) (by omega)
theorem own_sh2 {i : Nat} {j : Int32} (hj : j = Int32.ofNat i) (hi : i ≤ 4000) : ((j <<< ((1 : Int32) &&& 31)) + (1 : Int32)).toNatClampNeg = 2 * i + 1 := by
  show ((j <<< ((1 : Int32) &&& 31)) + (1 : Int32)).toInt.toNat = _
  rw [own_shl2 hj hi]; omega
theorem own_shin {i n : Nat} {j N2 : Int32} (hj : j = Int32.ofNat i) (hN : N2 = Int32.ofNat (2 * n)) (hi : i < n) (hn : n ≤ 4000) : ¬ (j <<< ((1 : Int32) &&& 31)) < 0 ∧ (j <<< ((1 : Int32) &&& 31)) < N2 := by
  have e0 : (0 : Int32).toInt = 0 := rfl
  rw [own_lt32, own_lt32, own_shl1 hj (by omega), own_jI hN (by omega), e0]; omega
theorem own_shin2 {i n : Nat} {j N2 : Int32} (hj : j = Int32.ofNat i) (hN : N2 = Int32.ofNat (2 * n)) (hi : i < n) (hn : n ≤ 4000) : ¬ ((j <<< ((1 : Int32) &&& 31)) + (1 : Int32)) < 0 ∧ ((j <<< ((1 : Int32) &&& 31)) + (1 : Int32)) < N2 := by
  have e0 : (0 : Int32).toInt = 0 := rfl
  rw [own_lt32, own_lt32, own_shl2 hj (by omega), own_jI hN (by omega), e0]; omega
theorem own_dbl2 {n : Nat} {j : Int32} (hj : j = Int32.ofNat n) (hn : n ≤ 4000) : j <<< ((1 : Int32) &&& 31) = Int32.ofNat (2 * n) := Int32.toInt_inj.mp (by rw [own_shl1 hj hn, own_toI (by omega)]; omega)
theorem own_half {n : Nat} {N2 : Int32} (hN : N2 = Int32.ofNat (2 * n)) (hn : n ≤ 4000) : N2 >>> ((1 : Int32) &&& 31) = Int32.ofNat n := by rw [hN]; exact StrChars.shr1 (by omega)
def own_wide (cs : List Int32) (ws : List Value) : Prop := ∀ q, q < cs.length → ws.getD (2 * q) (.int 0) = .int (own_lo (cs.getD q 0)) ∧ ws.getD (2 * q + 1) (.int 0) = .int (own_hi (cs.getD q 0))
def own_thin (cs : List Int32) (ws : List Value) : Prop := ∀ q, q < cs.length → ws.getD q (.int 0) = .int (own_lo (cs.getD q 0)) ∧ ¬ (255 : Int32) < cs.getD q 0
/-- the bytes vs, with the coder cd, spell cs -/
def own_cod (cs : List Int32) (cd N2 : Int32) (vs : List Value) : Prop := (cd = (0 : Int32) ∧ N2 = Int32.ofNat cs.length ∧ own_thin cs vs) ∨ (cd = (1 : Int32) ∧ N2 = Int32.ofNat (2 * cs.length) ∧ own_wide cs vs ∧ ∃ q, q < cs.length ∧ (255 : Int32) < cs.getD q 0)
def own_cmpd (cs : List Int32) (N r : Int32) (ws : List Value) : Prop := (r = N ∧ own_thin cs ws) ∨ ∃ i, i < cs.length ∧ r = Int32.ofNat i ∧ (255 : Int32) < cs.getD i 0
section
variable {cs : List Int32} {cd N2 N : Int32} {vs ws : List Value}
theorem own_cod_cd (h : own_cod cs cd N2 vs) : cd = (0 : Int32) ∨ cd = (1 : Int32) := h.imp (fun q => q.1) fun q => q.1
theorem own_cod_l (h : own_cod cs cd N2 vs) (hd : cd = (0 : Int32)) : N2 = Int32.ofNat cs.length ∧ own_thin cs vs := (h.resolve_right fun q => absurd (hd.symm.trans q.1) (by decide)).2
theorem own_cod_u (h : own_cod cs cd N2 vs) (hd : ¬ cd = (0 : Int32)) : N2 = Int32.ofNat (2 * cs.length) ∧ own_wide cs vs ∧ ∃ q, q < cs.length ∧ (255 : Int32) < cs.getD q 0 := (h.resolve_left fun q => hd q.1).2
theorem own_cod_len (h : own_cod cs cd N2 vs) (hlen : cs.length ≤ 4000) : N2 >>> (cd &&& 31) = Int32.ofNat cs.length := by
  rcases h with ⟨rfl, h, -⟩ | ⟨rfl, h, -⟩
  · rw [own_shr0]; exact h
  · exact own_half h hlen
theorem own_cfl (h : own_cod cs cd N2 vs) (hN : N = Int32.ofNat cs.length) (hn : cs.length ≤ 4000) (hp : 0 < cs.length) : nar .byte (((N - N2).toUInt32 >>> ((31 : Int32) &&& 31).toUInt32).toInt32.toInt8.toInt32) = cd := by
  rcases h with ⟨rfl, h, -⟩ | ⟨rfl, h, -⟩
  · have e : N - N2 = 0 := by rw [h, hN]; exact Int32.sub_self _
    rw [e]; decide
  · have e := own_subI (own_jI hN (by omega)) (own_jI h (by omega)) (by omega) (by omega)
    have q : ((N - N2).toUInt32 >>> ((31 : Int32) &&& 31).toUInt32).toInt32 = 1 := own_neg31 (by omega)
    rw [q]; decide
theorem own_setn {i : Nat} (hh : ∀ q, q < i → ws.getD q (.int 0) = .int (own_lo (cs.getD q 0)) ∧ ¬ (255 : Int32) < cs.getD q 0) (hi : i < ws.length) (he : ¬ (255 : Int32) < cs.getD i 0) : ∀ q, q < i + 1 → (ws.set i (.int (own_lo (cs.getD i 0)))).getD q (.int 0) = .int (own_lo (cs.getD q 0)) ∧ ¬ (255 : Int32) < cs.getD q 0 := fun q hq => by
  rcases Nat.lt_succ_iff_lt_or_eq.mp hq with z | rfl
  · rw [own_gset_ne (by omega)]; exact hh q z
  · rw [own_gset hi]; exact ⟨rfl, he⟩
theorem own_set2 {i : Nat} (hh : ∀ q, q < i → ws.getD (2 * q) (.int 0) = .int (own_lo (cs.getD q 0)) ∧ ws.getD (2 * q + 1) (.int 0) = .int (own_hi (cs.getD q 0))) (hi : 2 * i + 1 < ws.length) : ∀ q, q < i + 1 → ((ws.set (2 * i) (.int (own_lo (cs.getD i 0)))).set (2 * i + 1) (.int (own_hi (cs.getD i 0)))).getD (2 * q) (.int 0) = .int (own_lo (cs.getD q 0)) ∧ ((ws.set (2 * i) (.int (own_lo (cs.getD i 0)))).set (2 * i + 1) (.int (own_hi (cs.getD i 0)))).getD (2 * q + 1) (.int 0) = .int (own_hi (cs.getD q 0)) := fun q hq => by
  rcases Nat.lt_succ_iff_lt_or_eq.mp hq with z | rfl
  · rw [own_gset_ne (by omega), own_gset_ne (by omega), own_gset_ne (by omega), own_gset_ne (by omega)]; exact hh q z
  · rw [own_gset_ne (by omega), own_gset (by omega), own_gset (by rw [List.length_set]; exact hi)]; exact ⟨rfl, rfl⟩
end
theorem own_eqi {Z : State} {args : Array Value} {t : Term} {k : Int32} (h : (Cond.eq t (.int k)).value args Z none Z [] = some true) : t.eval args Z none [] Z = some (.int k) := eqv_i (Term.int_eval k) h
def own_EL : List (String × Nat) := [("java/lang/String", 7)]
theorem own_ew {Z : State} {a0 : Array Value} (hw : ∀ d ∈ tables_1, d.before a0 Z = true) : EW Z a0 own_EL := (EW.cons (own_w hw 22 rfl) (by decide) EW.nil)
theorem own_atoms {Z : State} {a0 : Array Value} (hw : ∀ d ∈ tables_1, d.before a0 Z = true) : ∀ a ∈ Bundle.stringAtoms, a.before a0 Z = true := fun d hd => hw d ((by decide +kernel : ∀ d ∈ Bundle.stringAtoms, d ∈ tables_1) d hd)

def own_chl (cs : List Int32) (ws : List Value) : Prop := ∀ q, q < cs.length → ws.getD q (.int 0) = .int (cs.getD q 0)
theorem own_setc {cs : List Int32} {ws : List Value} {i : Nat} (hh : ∀ q, q < i → ws.getD q (.int 0) = .int (cs.getD q 0)) (hi : i < ws.length) : ∀ q, q < i + 1 → (ws.set i (.int (cs.getD i 0))).getD q (.int 0) = .int (cs.getD q 0) := fun q hq => by
  rcases Nat.lt_succ_iff_lt_or_eq.mp hq with z | rfl
  · rw [own_gset_ne (by omega)]; exact hh q z
  · rw [own_gset hi]
theorem own_latI {c : Int32} (h : own_lat c) : own_lo c &&& (255 : Int32) = c := by
  have q := (own_zl (x := c) (k := (255 : Int32)) (n := 255) rfl).mpr h
  exact StrChars.lo8_mask q.1 q.2
theorem own_orneg {k nn : Int32} {i n : Nat} (hk : k = Int32.ofNat i) (hm : nn = Int32.ofNat n) (hi : i ≤ n) (hn : n ≤ 4000) : ¬ ((nn ||| (0 : Int32)) ||| k) < (0 : Int32) := by
  have e0 : (0 : Int32).toInt = 0 := rfl
  have a := own_jI hk (by omega)
  have b := own_jI hm (by omega)
  have q1 := (c_orS nn (0 : Int32)).1 (by omega) (by omega)
  have q2 := (c_orS (nn ||| (0 : Int32)) k).1 q1 (by omega)
  rw [own_lt32, e0]; omega
theorem own_sub0 {N : Int32} {n : Nat} (h : N = Int32.ofNat n) : N - (0 : Int32) = Int32.ofNat n := by rw [h]; exact Int32.sub_zero _
theorem own_subn {k nn : Int32} {i n : Nat} (hk : k = Int32.ofNat i) (hm : nn = Int32.ofNat n) (hi : i ≤ n) (hn : n ≤ 4000) : ¬ (nn - (0 : Int32)) < k := by
  rw [own_lt32, own_jI (own_sub0 hm) (by omega), own_jI hk (by omega)]; omega
theorem own_posN {N : Int32} {n : Nat} (h : N = Int32.ofNat n) (hp : 0 < n) (hn : n ≤ 4000) : (0 : Int32) < N := by
  have e0 : (0 : Int32).toInt = 0 := rfl
  rw [own_lt32, own_jI h (by omega), e0]; omega
/-- a builder of room n that holds the first i of ds -/
def own_sbp (ds : List Int32) (i n : Nat) (cd N2 : Int32) (vs : List Value) : Prop := (cd = (0 : Int32) ∧ N2 = Int32.ofNat n ∧ vs.length = n ∧ ∀ q, q < i → vs.getD q (.int 0) = .int (own_lo (ds.getD q 0)) ∧ ¬ (255 : Int32) < ds.getD q 0) ∨ (cd = (1 : Int32) ∧ N2 = Int32.ofNat (2 * n) ∧ vs.length = 2 * n ∧ (∀ q, q < i → vs.getD (2 * q) (.int 0) = .int (own_lo (ds.getD q 0)) ∧ vs.getD (2 * q + 1) (.int 0) = .int (own_hi (ds.getD q 0))) ∧ ∃ q, q < i ∧ (255 : Int32) < ds.getD q 0)
section
variable {ds : List Int32} {i n : Nat} {cd N2 j c : Int32} {vs ws : List Value}
theorem own_sb_l (h : own_sbp ds i n cd N2 vs) (hd : cd = (0 : Int32)) : N2 = Int32.ofNat n ∧ vs.length = n ∧ ∀ q, q < i → vs.getD q (.int 0) = .int (own_lo (ds.getD q 0)) ∧ ¬ (255 : Int32) < ds.getD q 0 := (h.resolve_right fun q => absurd (hd.symm.trans q.1) (by decide)).2
theorem own_sb_u (h : own_sbp ds i n cd N2 vs) (hd : ¬ cd = (0 : Int32)) : N2 = Int32.ofNat (2 * n) ∧ vs.length = 2 * n ∧ (∀ q, q < i → vs.getD (2 * q) (.int 0) = .int (own_lo (ds.getD q 0)) ∧ vs.getD (2 * q + 1) (.int 0) = .int (own_hi (ds.getD q 0))) ∧ ∃ q, q < i ∧ (255 : Int32) < ds.getD q 0 := (h.resolve_left fun q => hd q.1).2
theorem own_sb_cap (h : own_sbp ds i n cd N2 vs) (hj : j = Int32.ofNat i) (hi : i < n) (hn : n ≤ 4) : ¬ (0 : Int32) < ((j + (1 : Int32)) - (N2 >>> (cd &&& 31))) := by
  have e : N2 >>> (cd &&& 31) = Int32.ofNat n := by
    rcases h with ⟨rfl, h, -⟩ | ⟨rfl, h, -⟩
    · rw [own_shr0]; exact h
    · exact own_half h (by omega)
  rw [e, own_lt32, own_subI (own_jI (own_succ hj) (by omega)) (own_jI rfl (by omega)) (by omega) (by omega)]
  have e0 : (0 : Int32).toInt = 0 := rfl
  omega
theorem own_sb_put (h : own_sbp ds i n cd N2 vs) (hd : cd = (0 : Int32)) (hi : i < n) (hdc : ds.getD i 0 = c) (hc : ¬ (255 : Int32) < c) : own_sbp ds (i + 1) n cd N2 (vs.set i (.int (own_lo c))) := by
  obtain ⟨h1, h2, h3⟩ := own_sb_l h hd
  subst hdc
  exact Or.inl ⟨hd, h1, by rw [List.length_set]; exact h2, own_setn h3 (by omega) hc⟩
theorem own_sb_putw (h : own_sbp ds i n cd N2 vs) (hd : ¬ cd = (0 : Int32)) (hi : i < n) (hdc : ds.getD i 0 = c) : own_sbp ds (i + 1) n cd N2 ((vs.set (2 * i) (.int (own_lo c))).set (2 * i + 1) (.int (own_hi c))) := by
  obtain ⟨h1, h2, h3, q, h4, h5⟩ := own_sb_u h hd
  subst hdc
  exact Or.inr ⟨(h.resolve_left fun q => hd q.1).1, h1, by rw [List.length_set, List.length_set]; exact h2, own_set2 h3 (by omega), q, by omega, h5⟩
theorem own_sb_infl (h2 : ws.length = 2 * n) (h3 : ∀ q, q < i → ws.getD (2 * q) (.int 0) = .int (own_lo (ds.getD q 0)) ∧ ws.getD (2 * q + 1) (.int 0) = .int (own_hi (ds.getD q 0))) (hi : i < n) (hdc : ds.getD i 0 = c) (hc : (255 : Int32) < c) : own_sbp ds (i + 1) n (1 : Int32) (Int32.ofNat (2 * n)) ((ws.set (2 * i) (.int (own_lo c))).set (2 * i + 1) (.int (own_hi c))) := by
  subst hdc
  exact Or.inr ⟨rfl, rfl, by rw [List.length_set, List.length_set]; exact h2, own_set2 h3 (by omega), i, by omega, hc⟩
theorem own_sb_new : own_sbp ds 0 n (0 : Int32) (Int32.ofNat n) (List.replicate n (.int 0)) := Or.inl ⟨rfl, rfl, List.length_replicate, fun q hq => absurd hq (Nat.not_lt_zero q)⟩
end
def own_fc (c : Int32) : Int32 := if c < (65 : Int32) then c else if (90 : Int32) < c then c else c + (32 : Int32)
theorem own_k65 : (65 : Int32).toInt = 65 := rfl
theorem own_k90 : (90 : Int32).toInt = 90 := rfl
theorem own_up {c : Int32} (h1 : ¬ c < (65 : Int32)) (h2 : ¬ (90 : Int32) < c) : (c + (32 : Int32)).toInt = c.toInt + 32 ∧ 65 ≤ c.toInt ∧ c.toInt ≤ 90 := by
  rw [own_lt32, own_k65] at h1
  rw [own_lt32, own_k90] at h2
  exact ⟨own_addI rfl rfl (by omega) (by omega), by omega, by omega⟩
theorem own_fc_chr {c : Int32} (h : own_chr c) : own_chr (own_fc c) := by
  unfold own_fc
  split
  · exact h
  · split
    · exact h
    · rename_i h1 h2
      obtain ⟨e, a, b⟩ := own_up h1 h2
      exact ⟨by omega, by omega⟩
theorem own_fc_a {c : Int32} (h : c < (65 : Int32)) : c = own_fc c := (if_pos h).symm
theorem own_fc_b0 {c : Int32} (h : (90 : Int32) < c) : own_fc c = c := by
  have h1 : ¬ c < (65 : Int32) := by
    rw [own_lt32, own_k90] at h
    rw [own_lt32, own_k65]; omega
  exact (if_neg h1).trans (if_pos h)
theorem own_fc_b {c : Int32} (h : (90 : Int32) < c) : c = own_fc c := (own_fc_b0 h).symm
theorem own_fc_c0 {c : Int32} (h1 : ¬ c < (65 : Int32)) (h2 : ¬ (90 : Int32) < c) : own_fc c = c + (32 : Int32) := (if_neg h1).trans (if_neg h2)
theorem own_fc_c {c : Int32} (h1 : ¬ c < (65 : Int32)) (h2 : ¬ (90 : Int32) < c) : ((c - (65 : Int32)) + (97 : Int32)).toUInt32.toUInt16.toUInt32.toInt32 = own_fc c := by
  obtain ⟨e, a, b⟩ := own_up h1 h2
  rw [own_fc_c0 h1 h2]
  have q1 := own_subI (x := c) (y := (65 : Int32)) rfl own_k65 (by omega) (by omega)
  have q2 := own_addI q1 (show (97 : Int32).toInt = 97 from rfl) (by omega) (by omega)
  rw [own_i2c (by omega) (by omega)]
  apply Int32.toInt_inj.mp
  omega
theorem own_fl_a {c : Int32} (h : own_chr c) (h1 : c < (65 : Int32)) : nar .char c = own_fc c := (own_narch h).trans (own_fc_a h1)
theorem own_fl_b {c : Int32} (h : own_chr c) (h1 : (90 : Int32) < c) : nar .char c = own_fc c := (own_narch h).trans (own_fc_b h1)
theorem own_fl_c {c : Int32} (h : own_chr c) (h1 : ¬ c < (65 : Int32)) (h2 : ¬ (90 : Int32) < c) : nar .char ((c + (32 : Int32)).toUInt32.toUInt16.toUInt32.toInt32) = own_fc c := by
  obtain ⟨e, a, b⟩ := own_up h1 h2
  have q := own_i2c (x := c + (32 : Int32)) (by omega) (by omega)
  show ((c + (32 : Int32)).toUInt32.toUInt16.toUInt32.toInt32).toUInt32.toUInt16.toUInt32.toInt32 = _
  rw [q, q, own_fc_c0 h1 h2]
theorem own_i2c_chr (x : Int32) : own_chr (x.toUInt32.toUInt16.toUInt32.toInt32) := by
  have q := c_i2c x
  exact ⟨by omega, by omega⟩
theorem own_chs_nil : own_chs ([] : List Int32) := own_chs_of (by intro c hc; cases hc)
theorem own_cod_nil : own_cod ([] : List Int32) (0 : Int32) (0 : Int32) [] := Or.inl ⟨rfl, rfl, fun q hq => absurd hq (Nat.not_lt_zero q)⟩
theorem own_ch1 {a : Int32} (ha : own_chr a) : own_chs [a] := own_chs_of (by intro c hc; simp only [List.mem_cons, List.not_mem_nil, or_false] at hc; rw [hc]; exact ha)
theorem own_ch2 {a b : Int32} (ha : own_chr a) (hb : own_chr b) : own_chs [a, b] := own_chs_of (by intro c hc; simp only [List.mem_cons, List.not_mem_nil, or_false] at hc; rcases hc with q | q <;> rw [q] <;> assumption)
theorem own_ch3 {a b d : Int32} (ha : own_chr a) (hb : own_chr b) (hd : own_chr d) : own_chs [a, b, d] := own_chs_of (by intro c hc; simp only [List.mem_cons, List.not_mem_nil, or_false] at hc; rcases hc with q | q | q <;> rw [q] <;> assumption)
theorem own_ch4 {a b d f : Int32} (ha : own_chr a) (hb : own_chr b) (hd : own_chr d) (hf : own_chr f) : own_chs [a, b, d, f] := own_chs_of (by intro c hc; simp only [List.mem_cons, List.not_mem_nil, or_false] at hc; rcases hc with q | q | q | q <;> rw [q] <;> assumption)
theorem own_fcs0 (h : own_chs ([] : List Int32)) : own_chs ([] : List Int32) := h
theorem own_fcs1 {a : Int32} (h : own_chs [a]) : own_chs [own_fc a] := own_ch1 (own_fc_chr (h 0))
theorem own_fcs2 {a b : Int32} (h : own_chs [a, b]) : own_chs [own_fc a, own_fc b] := own_ch2 (own_fc_chr (h 0)) (own_fc_chr (h 1))
theorem own_fcs3 {a b c : Int32} (h : own_chs [a, b, c]) : own_chs [own_fc a, own_fc b, own_fc c] := own_ch3 (own_fc_chr (h 0)) (own_fc_chr (h 1)) (own_fc_chr (h 2))
theorem own_fcs4 {a b c d : Int32} (h : own_chs [a, b, c, d]) : own_chs [own_fc a, own_fc b, own_fc c, own_fc d] := own_ch4 (own_fc_chr (h 0)) (own_fc_chr (h 1)) (own_fc_chr (h 2)) (own_fc_chr (h 3))
def own_05 (x : Int32) : Prop := x = (0 : Int32) ∨ x = (1 : Int32) ∨ x = (2 : Int32) ∨ x = (3 : Int32) ∨ x = (4 : Int32)
theorem own_n05 (p1 : Int32) : own_05 ((p1 &&& (2147483647 : Int32)) % (5 : Int32)) := by
  have r := c_and p1 (2147483647 : Int32) (by decide)
  have e := (c_irem (p1 &&& (2147483647 : Int32)) (5 : Int32) 5 rfl).1 r.1
  generalize (p1 &&& (2147483647 : Int32)) % (5 : Int32) = w at *
  have b1 : 0 ≤ w.toInt := by omega
  have b2 : w.toInt < 5 := by omega
  rcases (show w.toInt = 0 ∨ w.toInt = 1 ∨ w.toInt = 2 ∨ w.toInt = 3 ∨ w.toInt = 4 by omega) with q | q | q | q | q
  · exact Or.inl (Int32.toInt_inj.mp q)
  · exact Or.inr (Or.inl (Int32.toInt_inj.mp q))
  · exact Or.inr (Or.inr (Or.inl (Int32.toInt_inj.mp q)))
  · exact Or.inr (Or.inr (Or.inr (Or.inl (Int32.toInt_inj.mp q))))
  · exact Or.inr (Or.inr (Or.inr (Or.inr (Int32.toInt_inj.mp q))))
theorem own_d0 : decode jdk_42_method_152_code 0 = .ok (.getstatic 38, 3) := by decide +kernel
theorem own_d1 : decode jdk_42_method_152_code 3 = .ok (.ifCond .eq 10, 3) := by decide +kernel
theorem own_d2 : decode jdk_42_method_152_code 6 = .ok (.aload_n 0, 1) := by decide +kernel
theorem own_d3 : decode jdk_42_method_152_code 7 = .ok (.getfield 15, 3) := by decide +kernel
theorem own_d4 : decode jdk_42_method_152_code 10 = .ok (.goto 4, 3) := by decide +kernel
theorem own_d5 : decode jdk_42_method_152_code 14 = .ok (.ireturn, 1) := by decide +kernel
theorem own_pn0 : plainName "java/lang/String" = true := by first | (simp [plainName, overriddenIn]; done) | decide +kernel
theorem own_ef_coder (m : MethodId) (a1 : Addr) : entryFrame m #[(.ref a1)] 1 = mkF m 0 #[.val (.ref a1)] [] := by (first | (simp [entryFrame, mkF, argsToLocals, Value.category]; done) | rfl)
def own_Q_coder (Z : State) (a1 : Addr) (cz : Int32) (cd : Int32) (h0 : Heap) (n0 : Nat) (vq : Option Value) (h : Heap) (Lq : List Loc) : Prop := (vq = some (.int cd)) ∧ (Fr n0 Lq) ∧ (h = h0)
abbrev own_R_coder : Room := { frames := 0, cells := 0, slots := 0, locals := 0 }
set_option maxRecDepth 65536 in
set_option maxHeartbeats 40000000 in
theorem own_rm_coder (l : Launch) (Z : State) (a0 : Array Value) (hw : ∀ d ∈ tables_1, d.before a0 Z = true) (wsq : List Jvm.Cond) (a1 : Addr) (cz : Int32) (cd : Int32) (h0 : Heap) (n0 : Nat) (Z0 : n0 ≤ h0.size) (O0 : Old Z n0 h0) (S1 : Sta Z Z.heap "java/lang/String" "COMPACT_STRINGS" "Z" (.int cz)) (P5 : ¬ cz = (0 : Int32)) (F1 : Fld Z h0 a1 "java/lang/String" "coder" "B" (.int cd)) (hcd : cd = (0 : Int32) ∨ cd = (1 : Int32)) :
    MetFree l (⟨"java/lang/String", "coder", "()B"⟩ : MethodName) (head1 (Jvm.Cond.code (⟨"java/lang/String", "coder", "()B"⟩ : MethodName) jdk_42_method_152_code 1 (some .byte) :: wsq) own_R_coder) (fun aq Uq => aq = #[(.ref a1)] ∧ Z.Warmed39 Uq.vm ∧ Uq.heap = h0) (fun _ _ _ _ _ => True) (fun _ Uq oq Uq' => ∃ vq Lq, oq = .returned vq ∧ own_Q_coder Z a1 cz cd h0 n0 vq Uq'.heap Lq ∧ FrameEnd Uq oq Uq' Lq own_R_coder.cells own_R_coder.slots) := by
  refine MetFree.of_bodySF (plainFor_of_name own_pn0) hisR ?_
  intro p e s m args below meth cde s₁ Bd hml0 hP hK
  obtain ⟨rfl, hZ, hh⟩ := hP
  have hx := Bd.exec
  have hby := Bd.bytes
  have hml : cde.maxLocals = 1 := hml0
  have hown : s.vm.findClass "java/lang/String" = some m.cls := findClass_of_methodNamed Bd.named
  have hnm := (name_of_methodNamed Bd.named Bd.method).1
  have X0 : Stand p l e own_R_coder s m #[(.ref a1)] below meth cde s₁ [] 0 0 := Stand.of_body Bd
  have e0 : s₁.heap = h0 := by rw [← hh, Bd.state]; rfl
  have N0 := Fr.nil n0
  show own_Fin p e s below (own_Q_coder Z a1 cz cd h0 n0) own_R_coder.cells own_R_coder.slots s₁ (entryFrame m #[(.ref a1)] 1)
  rw [own_ef_coder m a1]
  obtain ⟨T1_, X1_, e1_, st1_⟩ := getS2 X0 hx hZ hown (host := "") (Or.inl (own_w hw 47 rfl)) Via.refl e0 (S1.ext O0.2) (g := (mkF m 0 #[.val (.ref a1)] [])) rfl (hb hby own_d0)
  refine own_via (fun _ kq => st1_ _ kq) ?_
  show own_Fin _ _ _ _ _ _ _ T1_ (mkF m 3 #[.val (.ref a1)] [(.int cz)])
  refine own_via (fun _ kq => XS.ifNo X1_.here hx rfl (hb hby own_d1) rfl ((if0 _ _).trans (feq P5).1) kq) ?_
  show own_Fin _ _ _ _ _ _ _ T1_ (mkF m 6 #[.val (.ref a1)] [])
  refine own_via (fun _ kq => XS.aloadN X1_.here hx rfl (hb hby own_d2) rfl rfl kq) ?_
  show own_Fin _ _ _ _ _ _ _ T1_ (mkF m 7 #[.val (.ref a1)] [(.ref a1)])
  obtain ⟨T2_, X2_, e2_, st2_⟩ := getF X1_ hx hZ hown (host := "") (Or.inl (own_w hw 29 rfl)) Via.refl e1_ F1 (g := (mkF m 7 #[.val (.ref a1)] [(.ref a1)])) rfl rfl (hb hby own_d3)
  refine own_via (fun _ kq => st2_ _ kq) ?_
  show own_Fin _ _ _ _ _ _ _ T2_ (mkF m 10 #[.val (.ref a1)] [(.int cd)])
  refine own_via (fun _ kq => XS.goto X2_.here hx rfl (pc0 := 10) (pc' := 14) rfl (hb hby own_d4) (by decide) (by decide) kq) ?_
  show own_Fin _ _ _ _ _ _ _ T2_ (mkF m 14 #[.val (.ref a1)] [(.int cd)])
  exact own_retN X2_ hx (t := .byte) Bd.returns Bd.notSynchronized (by simp) (hb hby own_d5) e2_ (own_cdb hcd) ⟨rfl, N0, rfl⟩ (by decide) (by decide)
theorem own_d6 : decode jdk_42_method_154_code 0 = .ok (.getstatic 38, 3) := by decide +kernel
theorem own_d7 : decode jdk_42_method_154_code 3 = .ok (.ifCond .eq 14, 3) := by decide +kernel
theorem own_d8 : decode jdk_42_method_154_code 6 = .ok (.aload_n 0, 1) := by decide +kernel
theorem own_d9 : decode jdk_42_method_154_code 7 = .ok (.getfield 15, 3) := by decide +kernel
theorem own_d10 : decode jdk_42_method_154_code 10 = .ok (.ifCond .ne 7, 3) := by decide +kernel
theorem own_d11 : decode jdk_42_method_154_code 17 = .ok (.iconst 0, 1) := by decide +kernel
theorem own_d12 : decode jdk_42_method_154_code 18 = .ok (.ireturn, 1) := by decide +kernel
theorem own_d13 : decode jdk_42_method_154_code 13 = .ok (.iconst 1, 1) := by decide +kernel
theorem own_d14 : decode jdk_42_method_154_code 14 = .ok (.goto 4, 3) := by decide +kernel
theorem own_ef_isLat (m : MethodId) (a1 : Addr) : entryFrame m #[(.ref a1)] 1 = mkF m 0 #[.val (.ref a1)] [] := by (first | (simp [entryFrame, mkF, argsToLocals, Value.category]; done) | rfl)
def own_Q_isLat (Z : State) (a1 : Addr) (cz : Int32) (cd : Int32) (h0 : Heap) (n0 : Nat) (vq : Option Value) (h : Heap) (Lq : List Loc) : Prop := ∃ (r : Int32), (vq = some (.int r)) ∧ (Fr n0 Lq) ∧ (h = h0) ∧ ((r = (1 : Int32) ∧ cd = (0 : Int32)) ∨ (r = (0 : Int32) ∧ ¬ cd = (0 : Int32)))
abbrev own_R_isLat : Room := { frames := 0, cells := 0, slots := 0, locals := 0 }
set_option maxRecDepth 65536 in
set_option maxHeartbeats 40000000 in
theorem own_rm_isLat (l : Launch) (Z : State) (a0 : Array Value) (hw : ∀ d ∈ tables_1, d.before a0 Z = true) (wsq : List Jvm.Cond) (a1 : Addr) (cz : Int32) (cd : Int32) (h0 : Heap) (n0 : Nat) (Z0 : n0 ≤ h0.size) (O0 : Old Z n0 h0) (S1 : Sta Z Z.heap "java/lang/String" "COMPACT_STRINGS" "Z" (.int cz)) (P5 : ¬ cz = (0 : Int32)) (F1 : Fld Z h0 a1 "java/lang/String" "coder" "B" (.int cd)) :
    MetFree l (⟨"java/lang/String", "isLatin1", "()Z"⟩ : MethodName) (head1 (Jvm.Cond.code (⟨"java/lang/String", "isLatin1", "()Z"⟩ : MethodName) jdk_42_method_154_code 1 (some .boolean) :: wsq) own_R_isLat) (fun aq Uq => aq = #[(.ref a1)] ∧ Z.Warmed39 Uq.vm ∧ Uq.heap = h0) (fun _ _ _ _ _ => True) (fun _ Uq oq Uq' => ∃ vq Lq, oq = .returned vq ∧ own_Q_isLat Z a1 cz cd h0 n0 vq Uq'.heap Lq ∧ FrameEnd Uq oq Uq' Lq own_R_isLat.cells own_R_isLat.slots) := by
  refine MetFree.of_bodySF (plainFor_of_name own_pn0) hisR ?_
  intro p e s m args below meth cde s₁ Bd hml0 hP hK
  obtain ⟨rfl, hZ, hh⟩ := hP
  have hx := Bd.exec
  have hby := Bd.bytes
  have hml : cde.maxLocals = 1 := hml0
  have hown : s.vm.findClass "java/lang/String" = some m.cls := findClass_of_methodNamed Bd.named
  have hnm := (name_of_methodNamed Bd.named Bd.method).1
  have X0 : Stand p l e own_R_isLat s m #[(.ref a1)] below meth cde s₁ [] 0 0 := Stand.of_body Bd
  have e0 : s₁.heap = h0 := by rw [← hh, Bd.state]; rfl
  have N0 := Fr.nil n0
  show own_Fin p e s below (own_Q_isLat Z a1 cz cd h0 n0) own_R_isLat.cells own_R_isLat.slots s₁ (entryFrame m #[(.ref a1)] 1)
  rw [own_ef_isLat m a1]
  obtain ⟨T1_, X1_, e1_, st1_⟩ := getS2 X0 hx hZ hown (host := "") (Or.inl (own_w hw 47 rfl)) Via.refl e0 (S1.ext O0.2) (g := (mkF m 0 #[.val (.ref a1)] [])) rfl (hb hby own_d6)
  refine own_via (fun _ kq => st1_ _ kq) ?_
  show own_Fin _ _ _ _ _ _ _ T1_ (mkF m 3 #[.val (.ref a1)] [(.int cz)])
  refine own_via (fun _ kq => XS.ifNo X1_.here hx rfl (hb hby own_d7) rfl ((if0 _ _).trans (feq P5).1) kq) ?_
  show own_Fin _ _ _ _ _ _ _ T1_ (mkF m 6 #[.val (.ref a1)] [])
  refine own_via (fun _ kq => XS.aloadN X1_.here hx rfl (hb hby own_d8) rfl rfl kq) ?_
  show own_Fin _ _ _ _ _ _ _ T1_ (mkF m 7 #[.val (.ref a1)] [(.ref a1)])
  obtain ⟨T2_, X2_, e2_, st2_⟩ := getF X1_ hx hZ hown (host := "") (Or.inl (own_w hw 29 rfl)) Via.refl e1_ F1 (g := (mkF m 7 #[.val (.ref a1)] [(.ref a1)])) rfl rfl (hb hby own_d9)
  refine own_via (fun _ kq => st2_ _ kq) ?_
  show own_Fin _ _ _ _ _ _ _ T2_ (mkF m 10 #[.val (.ref a1)] [(.int cd)])
  rcases Classical.em (cd = (0 : Int32)) with hz | hz
  · refine own_via (fun _ kq => XS.ifNo X2_.here hx rfl (hb hby own_d10) rfl ((if0 _ _).trans (teq hz).2) kq) ?_
    show own_Fin _ _ _ _ _ _ _ T2_ (mkF m 13 #[.val (.ref a1)] [])
    refine own_via (fun _ kq => XS.iconst X2_.here hx rfl (hb hby own_d13) kq) ?_
    refine own_via (fun _ kq => XS.goto X2_.here hx rfl (pc0 := 14) (pc' := 18) rfl (hb hby own_d14) (by decide) (by decide) kq) ?_
    show own_Fin _ _ _ _ _ _ _ T2_ (mkF m 18 #[.val (.ref a1)] [(.int (1 : Int32))])
    exact own_retN X2_ hx (t := .boolean) Bd.returns Bd.notSynchronized (by simp) (hb hby own_d12) e2_ rfl ⟨(1 : Int32), rfl, N0, rfl, (Or.inl ⟨rfl, hz⟩)⟩ (by decide) (by decide)
  · refine own_via (fun _ kq => XS.ifYes X2_.here hx rfl (pc0 := 10) (pc' := 17) rfl (hb hby own_d10) rfl ((if0 _ _).trans (feq hz).2) (by decide) (by decide) kq) ?_
    show own_Fin _ _ _ _ _ _ _ T2_ (mkF m 17 #[.val (.ref a1)] [])
    refine own_via (fun _ kq => XS.iconst X2_.here hx rfl (hb hby own_d11) kq) ?_
    show own_Fin _ _ _ _ _ _ _ T2_ (mkF m 18 #[.val (.ref a1)] [(.int (0 : Int32))])
    exact own_retN X2_ hx (t := .boolean) Bd.returns Bd.notSynchronized (by simp) (hb hby own_d12) e2_ rfl ⟨(0 : Int32), rfl, N0, rfl, (Or.inr ⟨rfl, hz⟩)⟩ (by decide) (by decide)
theorem own_d15 : decode jdk_42_method_54_code 0 = .ok (.aload_n 0, 1) := by decide +kernel
theorem own_d16 : decode jdk_42_method_54_code 1 = .ok (.getfield 9, 3) := by decide +kernel
theorem own_d17 : decode jdk_42_method_54_code 4 = .ok (.arraylength, 1) := by decide +kernel
theorem own_d18 : decode jdk_42_method_54_code 5 = .ok (.aload_n 0, 1) := by decide +kernel
theorem own_d19 : decode jdk_42_method_54_code 6 = .ok (.invokevirtual 335, 3) := by decide +kernel
theorem own_pd0 : parseMethodDescriptor "()B" = some ⟨[], some .byte⟩ := by decide +kernel
theorem own_d20 : decode jdk_42_method_54_code 9 = .ok (.ishr, 1) := by decide +kernel
theorem own_d21 : decode jdk_42_method_54_code 10 = .ok (.ireturn, 1) := by decide +kernel
theorem own_ef_len (m : MethodId) (a1 : Addr) : entryFrame m #[(.ref a1)] 1 = mkF m 0 #[.val (.ref a1)] [] := by (first | (simp [entryFrame, mkF, argsToLocals, Value.category]; done) | rfl)
def own_Q_len (Z : State) (a1 : Addr) (cz : Int32) (t : Addr) (kt : ClassId) (cd : Int32) (N2 : Int32) (vs : List Value) (cs : List Int32) (h0 : Heap) (n0 : Nat) (vq : Option Value) (h : Heap) (Lq : List Loc) : Prop := (vq = some (.int (Int32.ofNat cs.length))) ∧ (Fr n0 Lq) ∧ (h = h0)
abbrev own_R_len : Room := { frames := 1, cells := 0, slots := 0, locals := 13 }
set_option maxRecDepth 65536 in
set_option maxHeartbeats 40000000 in
theorem own_rm_len (l : Launch) (Z : State) (a0 : Array Value) (hw : ∀ d ∈ tables_1, d.before a0 Z = true) (wsq : List Jvm.Cond) (a1 : Addr) (cz : Int32) (t : Addr) (kt : ClassId) (cd : Int32) (N2 : Int32) (vs : List Value) (cs : List Int32) (h0 : Heap) (n0 : Nat) (Z0 : n0 ≤ h0.size) (O0 : Old Z n0 h0) (S1 : Sta Z Z.heap "java/lang/String" "COMPACT_STRINGS" "Z" (.int cz)) (P5 : ¬ cz = (0 : Int32)) (E1 : Exa Z h0 a1 "java/lang/String") (F1 : Fld Z h0 a1 "java/lang/String" "coder" "B" (.int cd)) (F2 : Fld Z h0 a1 "java/lang/String" "value" "[B" (.ref t)) (Va : Arv Z h0 t kt .byte N2 vs (.int 0)) (hc : own_cod cs cd N2 vs) (hlen : cs.length ≤ 4000) (hr : own_chs cs) :
    MetFree l (⟨"java/lang/String", "length", "()I"⟩ : MethodName) (head1 (Jvm.Cond.code (⟨"java/lang/String", "length", "()I"⟩ : MethodName) jdk_42_method_54_code 1 (some .int) :: wsq) own_R_len) (fun aq Uq => aq = #[(.ref a1)] ∧ Z.Warmed39 Uq.vm ∧ Uq.heap = h0) (fun _ _ _ _ _ => True) (fun _ Uq oq Uq' => ∃ vq Lq, oq = .returned vq ∧ own_Q_len Z a1 cz t kt cd N2 vs cs h0 n0 vq Uq'.heap Lq ∧ FrameEnd Uq oq Uq' Lq own_R_len.cells own_R_len.slots) := by
  refine MetFree.of_bodySF (plainFor_of_name own_pn0) hisR ?_
  intro p e s m args below meth cde s₁ Bd hml0 hP hK
  obtain ⟨rfl, hZ, hh⟩ := hP
  have hx := Bd.exec
  have hby := Bd.bytes
  have hml : cde.maxLocals = 1 := hml0
  have hown : s.vm.findClass "java/lang/String" = some m.cls := findClass_of_methodNamed Bd.named
  have hnm := (name_of_methodNamed Bd.named Bd.method).1
  have X0 : Stand p l e own_R_len s m #[(.ref a1)] below meth cde s₁ [] 0 0 := Stand.of_body Bd
  have e0 : s₁.heap = h0 := by rw [← hh, Bd.state]; rfl
  have N0 := Fr.nil n0
  show own_Fin p e s below (own_Q_len Z a1 cz t kt cd N2 vs cs h0 n0) own_R_len.cells own_R_len.slots s₁ (entryFrame m #[(.ref a1)] 1)
  rw [own_ef_len m a1]
  refine own_via (fun _ kq => XS.aloadN X0.here hx rfl (hb hby own_d15) rfl rfl kq) ?_
  show own_Fin _ _ _ _ _ _ _ s₁ (mkF m 1 #[.val (.ref a1)] [(.ref a1)])
  obtain ⟨T1_, X1_, e1_, st1_⟩ := getF X0 hx hZ hown (host := "") (Or.inl (own_w hw 28 rfl)) Via.refl e0 F2 (g := (mkF m 1 #[.val (.ref a1)] [(.ref a1)])) rfl rfl (hb hby own_d16)
  refine own_via (fun _ kq => st1_ _ kq) ?_
  show own_Fin _ _ _ _ _ _ _ T1_ (mkF m 4 #[.val (.ref a1)] [(.ref t)])
  obtain ⟨c2_, Ar2_, -, S2_, M2_, -, -⟩ := (id Va)
  refine own_via (fun _ kq => X1_.arraylength hx (own_eq e1_ Ar2_.1) (State.isArrayOf_alike hZ.alike Ar2_.2.1) (g := (mkF m 4 #[.val (.ref a1)] [(.ref t)])) rfl rfl (hb hby own_d17) _ (by rw [len_of S2_ M2_]; exact kq)) ?_
  show own_Fin _ _ _ _ _ _ _ T1_ (mkF m 5 #[.val (.ref a1)] [(.int N2)])
  refine own_via (fun _ kq => XS.aloadN X1_.here hx rfl (hb hby own_d18) rfl rfl kq) ?_
  show own_Fin _ _ _ _ _ _ _ T1_ (mkF m 6 #[.val (.ref a1)] [(.ref a1), (.int N2)])
  obtain ⟨cq3_, kq3_, q3_a, q3_b, q3_c⟩ := isOf hZ e1_ E1
  obtain ⟨_, _, ⟨T3_, L3_, k3_, n3_⟩, -, X3_, ⟨Lc3_, hQ3_, l3_, y3_, z3_⟩, st3_⟩ := X1_.virtualBack hx (y := (⟨"java/lang/String", "coder", "()B"⟩ : MethodName)) (z := (⟨"java/lang/String", "coder", "()B"⟩ : MethodName)) hown (mvT hZ (own_w hw 42 rfl)) (mvT hZ (own_w hw 43 rfl)) (notFace_of_selects (args := #[]) (mvT hZ (own_w hw 45 rfl))) (mvT hZ (own_w hw 45 rfl)) (mvT hZ (own_w hw 44 rfl)) (by decide) (backOf (W := 1) (own_rm_coder l Z a0 hw [] a1 cz cd h0 n0 Z0 O0 S1 (by first | assumption | decide) F1 (own_cod_cd hc)) hZ (own_w hw 46 rfl) (own_w hw 10 rfl) (by decide) (by decide)) q3_a q3_c (g := (mkF m 6 #[.val (.ref a1)] [(.ref a1), (.int N2)])) rfl (by rw [hml]; rfl) (Steps.refl _) (argsL := []) (rest := [(.int N2)]) (lenOf own_pd0 rfl) rfl (by show 2 * 0 + _ ≤ _; exact Nat.le_of_eq rfl) (hb hby own_d19) (fun _ _ => ⟨rfl, e1_, (by decide : 0 + 0 ≤ _), (by decide : 0 + 0 ≤ _)⟩)
  dsimp only [Pt.U, Pt.locs, Pt.cells, Pt.slots] at X3_ l3_ y3_ z3_ st3_ hQ3_
  subst l3_ y3_ z3_
  obtain ⟨rfl, Nq3_, hh3_⟩ := hQ3_
  have N3_ := Fr.app N0 Nq3_
  refine own_via (fun _ kq => st3_.trans kq) ?_
  show own_Fin _ _ _ _ _ _ _ T3_ (mkF m 9 #[.val (.ref a1)] [(.int cd), (.int N2)])
  refine own_via (fun _ kq => XS.ishr X3_.here hx rfl (hb hby own_d20) rfl kq) ?_
  show own_Fin _ _ _ _ _ _ _ T3_ (mkF m 10 #[.val (.ref a1)] [(.int (N2 >>> (cd &&& 31)))])
  exact own_retI X3_ hx Bd.returns Bd.notSynchronized (hb hby own_d21) hh3_ (own_cod_len hc hlen) ⟨rfl, N3_, rfl⟩ (by decide) (by decide)
theorem own_d22 : decode jdk_41_method_11_code 0 = .ok (.iload_n 0, 1) := by decide +kernel
theorem own_d23 : decode jdk_41_method_11_code 1 = .ok (.ifCond .lt 8, 3) := by decide +kernel
theorem own_d24 : decode jdk_41_method_11_code 4 = .ok (.iload_n 0, 1) := by decide +kernel
theorem own_d25 : decode jdk_41_method_11_code 5 = .ok (.iload_n 1, 1) := by decide +kernel
theorem own_d26 : decode jdk_41_method_11_code 6 = .ok (.if_icmp .lt 10, 3) := by decide +kernel
theorem own_d27 : decode jdk_41_method_11_code 16 = .ok (.iload_n 0, 1) := by decide +kernel
theorem own_d28 : decode jdk_41_method_11_code 17 = .ok (.ireturn, 1) := by decide +kernel
theorem own_pn1 : plainName "jdk/internal/util/Preconditions" = true := by first | (simp [plainName, overriddenIn]; done) | decide +kernel
theorem own_ef_chkP (m : MethodId) (i : Int32) (n : Int32) (fm : Value) (r_fm : fm.isRef = true) : entryFrame m #[(.int i), (.int n), fm] 3 = mkF m 0 #[.val (.int i), .val (.int n), .val fm] [] := by cases fm <;> first | (cases r_fm; done) | (first | (simp [entryFrame, mkF, argsToLocals, Value.category]; done) | rfl)
def own_Q_chkP (Z : State) (i : Int32) (n : Int32) (fm : Value) (h0 : Heap) (n0 : Nat) (vq : Option Value) (h : Heap) (Lq : List Loc) : Prop := (vq = some (.int i)) ∧ (Fr n0 Lq) ∧ (h = h0)
abbrev own_R_chkP : Room := { frames := 0, cells := 0, slots := 0, locals := 0 }
set_option maxRecDepth 65536 in
set_option maxHeartbeats 40000000 in
theorem own_rm_chkP (l : Launch) (Z : State) (a0 : Array Value) (hw : ∀ d ∈ tables_1, d.before a0 Z = true) (wsq : List Jvm.Cond) (i : Int32) (n : Int32) (fm : Value) (h0 : Heap) (n0 : Nat) (Z0 : n0 ≤ h0.size) (h1 : ¬ i < (0 : Int32)) (h2 : i < n) (r_fm : fm.isRef = true) :
    MetFree l (⟨"jdk/internal/util/Preconditions", "checkIndex", "(IILjava/util/function/BiFunction;)I"⟩ : MethodName) (head1 (Jvm.Cond.code (⟨"jdk/internal/util/Preconditions", "checkIndex", "(IILjava/util/function/BiFunction;)I"⟩ : MethodName) jdk_41_method_11_code 3 (some .int) :: wsq) own_R_chkP) (fun aq Uq => aq = #[(.int i), (.int n), fm] ∧ Z.Warmed39 Uq.vm ∧ Uq.heap = h0) (fun _ _ _ _ _ => True) (fun _ Uq oq Uq' => ∃ vq Lq, oq = .returned vq ∧ own_Q_chkP Z i n fm h0 n0 vq Uq'.heap Lq ∧ FrameEnd Uq oq Uq' Lq own_R_chkP.cells own_R_chkP.slots) := by
  refine MetFree.of_bodySF (plainFor_of_name own_pn1) hisR ?_
  intro p e s m args below meth cde s₁ Bd hml0 hP hK
  obtain ⟨rfl, hZ, hh⟩ := hP
  have hx := Bd.exec
  have hby := Bd.bytes
  have hml : cde.maxLocals = 3 := hml0
  have hown : s.vm.findClass "jdk/internal/util/Preconditions" = some m.cls := findClass_of_methodNamed Bd.named
  have hnm := (name_of_methodNamed Bd.named Bd.method).1
  have X0 : Stand p l e own_R_chkP s m #[(.int i), (.int n), fm] below meth cde s₁ [] 0 0 := Stand.of_body Bd
  have e0 : s₁.heap = h0 := by rw [← hh, Bd.state]; rfl
  have N0 := Fr.nil n0
  show own_Fin p e s below (own_Q_chkP Z i n fm h0 n0) own_R_chkP.cells own_R_chkP.slots s₁ (entryFrame m #[(.int i), (.int n), fm] 3)
  rw [own_ef_chkP m i n fm r_fm]
  refine own_via (fun _ kq => XS.iloadN X0.here hx rfl (hb hby own_d22) rfl kq) ?_
  refine own_via (fun _ kq => XS.ifNo X0.here hx rfl (hb hby own_d23) rfl ((if0 _ _).trans (flt h1).1) kq) ?_
  show own_Fin _ _ _ _ _ _ _ s₁ (mkF m 4 #[.val (.int i), .val (.int n), .val fm] [])
  refine own_via (fun _ kq => XS.iloadN X0.here hx rfl (hb hby own_d24) rfl kq) ?_
  refine own_via (fun _ kq => XS.iloadN X0.here hx rfl (hb hby own_d25) rfl kq) ?_
  refine own_via (fun _ kq => XS.icmpYes X0.here hx rfl (pc0 := 6) (pc' := 16) rfl (hb hby own_d26) rfl (tlt h2).1 (by decide) (by decide) kq) ?_
  show own_Fin _ _ _ _ _ _ _ s₁ (mkF m 16 #[.val (.int i), .val (.int n), .val fm] [])
  refine own_via (fun _ kq => XS.iloadN X0.here hx rfl (hb hby own_d27) rfl kq) ?_
  show own_Fin _ _ _ _ _ _ _ s₁ (mkF m 17 #[.val (.int i), .val (.int n), .val fm] [(.int i)])
  exact own_retI X0 hx Bd.returns Bd.notSynchronized (hb hby own_d28) e0 rfl ⟨rfl, N0, rfl⟩ (by decide) (by decide)
theorem own_d29 : decode jdk_42_method_155_code 0 = .ok (.iload_n 0, 1) := by decide +kernel
theorem own_d30 : decode jdk_42_method_155_code 1 = .ok (.iload_n 1, 1) := by decide +kernel
theorem own_d31 : decode jdk_42_method_155_code 2 = .ok (.getstatic 1053, 3) := by decide +kernel
theorem own_d32 : decode jdk_42_method_155_code 5 = .ok (.invokestatic 1059, 3) := by decide +kernel
theorem own_pd1 : parseMethodDescriptor "(IILjava/util/function/BiFunction;)I" = some ⟨[.int, .int, (.object "java/util/function/BiFunction")], some .int⟩ := by decide +kernel
theorem own_d33 : decode jdk_42_method_155_code 8 = .ok (.pop, 1) := by decide +kernel
theorem own_d34 : decode jdk_42_method_155_code 9 = .ok (.return_, 1) := by decide +kernel
theorem own_ef_chk (m : MethodId) (i : Int32) (n : Int32) : entryFrame m #[(.int i), (.int n)] 2 = mkF m 0 #[.val (.int i), .val (.int n)] [] := by (first | (simp [entryFrame, mkF, argsToLocals, Value.category]; done) | rfl)
def own_Q_chk (Z : State) (i : Int32) (n : Int32) (fm : Value) (h0 : Heap) (n0 : Nat) (vq : Option Value) (h : Heap) (Lq : List Loc) : Prop := (vq = none) ∧ (Fr n0 Lq) ∧ (h = h0)
abbrev own_R_chk : Room := { frames := 1, cells := 0, slots := 0, locals := 14 }
set_option maxRecDepth 65536 in
set_option maxHeartbeats 40000000 in
theorem own_rm_chk (l : Launch) (Z : State) (a0 : Array Value) (hw : ∀ d ∈ tables_1, d.before a0 Z = true) (wsq : List Jvm.Cond) (i : Int32) (n : Int32) (fm : Value) (h0 : Heap) (n0 : Nat) (Z0 : n0 ≤ h0.size) (O0 : Old Z n0 h0) (S2 : Sta Z Z.heap "jdk/internal/util/Preconditions" "SIOOBE_FORMATTER" "Ljava/util/function/BiFunction;" fm) (r_fm : fm.isRef = true) (h1 : ¬ i < (0 : Int32)) (h2 : i < n) :
    MetFree l (⟨"java/lang/String", "checkIndex", "(II)V"⟩ : MethodName) (head1 (Jvm.Cond.code (⟨"java/lang/String", "checkIndex", "(II)V"⟩ : MethodName) jdk_42_method_155_code 2 none :: wsq) own_R_chk) (fun aq Uq => aq = #[(.int i), (.int n)] ∧ Z.Warmed39 Uq.vm ∧ Uq.heap = h0) (fun _ _ _ _ _ => True) (fun _ Uq oq Uq' => ∃ vq Lq, oq = .returned vq ∧ own_Q_chk Z i n fm h0 n0 vq Uq'.heap Lq ∧ FrameEnd Uq oq Uq' Lq own_R_chk.cells own_R_chk.slots) := by
  refine MetFree.of_bodySF (plainFor_of_name own_pn0) hisR ?_
  intro p e s m args below meth cde s₁ Bd hml0 hP hK
  obtain ⟨rfl, hZ, hh⟩ := hP
  have hx := Bd.exec
  have hby := Bd.bytes
  have hml : cde.maxLocals = 2 := hml0
  have hown : s.vm.findClass "java/lang/String" = some m.cls := findClass_of_methodNamed Bd.named
  have hnm := (name_of_methodNamed Bd.named Bd.method).1
  have X0 : Stand p l e own_R_chk s m #[(.int i), (.int n)] below meth cde s₁ [] 0 0 := Stand.of_body Bd
  have e0 : s₁.heap = h0 := by rw [← hh, Bd.state]; rfl
  have N0 := Fr.nil n0
  show own_Fin p e s below (own_Q_chk Z i n fm h0 n0) own_R_chk.cells own_R_chk.slots s₁ (entryFrame m #[(.int i), (.int n)] 2)
  rw [own_ef_chk m i n]
  refine own_via (fun _ kq => XS.iloadN X0.here hx rfl (hb hby own_d29) rfl kq) ?_
  refine own_via (fun _ kq => XS.iloadN X0.here hx rfl (hb hby own_d30) rfl kq) ?_
  show own_Fin _ _ _ _ _ _ _ s₁ (mkF m 2 #[.val (.int i), .val (.int n)] [(.int n), (.int i)])
  obtain ⟨T1_, X1_, e1_, st1_⟩ := getS2 X0 hx hZ hown (host := "") (Or.inl (own_w hw 166 rfl)) Via.refl e0 (S2.ext O0.2) (g := (mkF m 2 #[.val (.int i), .val (.int n)] [(.int n), (.int i)])) rfl (hb hby own_d31)
  refine own_via (fun _ kq => st1_ _ kq) ?_
  show own_Fin _ _ _ _ _ _ _ T1_ (mkF m 5 #[.val (.int i), .val (.int n)] [fm, (.int n), (.int i)])
  obtain ⟨_, _, ⟨T2_, L2_, k2_, n2_⟩, -, X2_, ⟨Lc2_, hQ2_, l2_, y2_, z2_⟩, st2_⟩ := Jvm.LawKit.callS X1_ hx (y := (⟨"jdk/internal/util/Preconditions", "checkIndex", "(IILjava/util/function/BiFunction;)I"⟩ : MethodName)) hown (mvT hZ (own_w hw 168 rfl)) (mvT hZ (own_w hw 169 rfl)) (mvT hZ (own_w hw 167 rfl)) (mvT hZ (own_w hw 170 rfl)) (by decide) (backOf (W := 0) (own_rm_chkP l Z a0 hw [] i n fm h0 n0 Z0 h1 h2 r_fm) hZ (own_w hw 170 rfl) (own_w hw 167 rfl) (by decide) (by decide)) (g := (mkF m 5 #[.val (.int i), .val (.int n)] [fm, (.int n), (.int i)])) rfl (by rw [hml]; rfl) (argsL := [(.int i), (.int n), fm]) (rest := []) (lenOf own_pd1 rfl) rfl (by show 2 * 0 + _ ≤ _; exact Nat.le_of_eq rfl) (hb hby own_d32) (fun _ _ => ⟨rfl, e1_, (by decide : 0 + 0 ≤ _), (by decide : 0 + 0 ≤ _)⟩)
  dsimp only [Pt.U, Pt.locs, Pt.cells, Pt.slots] at X2_ l2_ y2_ z2_ st2_ hQ2_
  subst l2_ y2_ z2_
  obtain ⟨rfl, Nq2_, hh2_⟩ := hQ2_
  have N2_ := Fr.app N0 Nq2_
  refine own_via (fun _ kq => st2_ _ kq) ?_
  show own_Fin _ _ _ _ _ _ _ T2_ (mkF m 8 #[.val (.int i), .val (.int n)] [(.int i)])
  refine own_via (fun _ kq => XS.pop X2_.here hx rfl (hb hby own_d33) rfl rfl kq) ?_
  show own_Fin _ _ _ _ _ _ _ T2_ (mkF m 9 #[.val (.int i), .val (.int n)] [])
  exact own_ret0 X2_ hx Bd.returns Bd.notSynchronized (hb hby own_d34) hh2_ ⟨rfl, N2_, rfl⟩ (by decide) (by decide)
theorem own_d35 : decode jdk_43_method_2_code 0 = .ok (.iload_n 1, 1) := by decide +kernel
theorem own_d36 : decode jdk_43_method_2_code 1 = .ok (.aload_n 0, 1) := by decide +kernel
theorem own_d37 : decode jdk_43_method_2_code 2 = .ok (.arraylength, 1) := by decide +kernel
theorem own_d38 : decode jdk_43_method_2_code 3 = .ok (.invokestatic 9, 3) := by decide +kernel
theorem own_pd2 : parseMethodDescriptor "(II)V" = some ⟨[.int, .int], none⟩ := by decide +kernel
theorem own_d39 : decode jdk_43_method_2_code 6 = .ok (.aload_n 0, 1) := by decide +kernel
theorem own_d40 : decode jdk_43_method_2_code 7 = .ok (.iload_n 1, 1) := by decide +kernel
theorem own_d41 : decode jdk_43_method_2_code 8 = .ok (.baload, 1) := by decide +kernel
theorem own_d42 : decode jdk_43_method_2_code 9 = .ok (.sipush 255, 3) := by decide +kernel
theorem own_d43 : decode jdk_43_method_2_code 12 = .ok (.iand, 1) := by decide +kernel
theorem own_d44 : decode jdk_43_method_2_code 13 = .ok (.i2c, 1) := by decide +kernel
theorem own_d45 : decode jdk_43_method_2_code 14 = .ok (.ireturn, 1) := by decide +kernel
theorem own_pn2 : plainName "java/lang/StringLatin1" = true := by first | (simp [plainName, overriddenIn]; done) | decide +kernel
theorem own_ef_latCh (m : MethodId) (t : Addr) (j : Int32) : entryFrame m #[(.ref t), (.int j)] 2 = mkF m 0 #[.val (.ref t), .val (.int j)] [] := by (first | (simp [entryFrame, mkF, argsToLocals, Value.category]; done) | rfl)
def own_Q_latCh (Z : State) (t : Addr) (kt : ClassId) (N2 : Int32) (vs : List Value) (fm : Value) (c : Int32) (j : Int32) (i : Nat) (n : Nat) (h0 : Heap) (n0 : Nat) (vq : Option Value) (h : Heap) (Lq : List Loc) : Prop := (vq = some (.int c)) ∧ (Fr n0 Lq) ∧ (h = h0)
abbrev own_R_latCh : Room := { frames := 2, cells := 0, slots := 0, locals := 27 }
set_option maxRecDepth 65536 in
set_option maxHeartbeats 40000000 in
theorem own_rm_latCh (l : Launch) (Z : State) (a0 : Array Value) (hw : ∀ d ∈ tables_1, d.before a0 Z = true) (wsq : List Jvm.Cond) (t : Addr) (kt : ClassId) (N2 : Int32) (vs : List Value) (fm : Value) (c : Int32) (j : Int32) (i : Nat) (n : Nat) (h0 : Heap) (n0 : Nat) (Z0 : n0 ≤ h0.size) (O0 : Old Z n0 h0) (S2 : Sta Z Z.heap "jdk/internal/util/Preconditions" "SIOOBE_FORMATTER" "Ljava/util/function/BiFunction;" fm) (r_fm : fm.isRef = true) (Va : Arv Z h0 t kt .byte N2 vs (.int 0)) (hj : j = Int32.ofNat i) (hi : i < n) (hn : n ≤ 4000) (hN : N2 = Int32.ofNat n) (he : vs.getD i (.int 0) = .int (own_lo c)) (hcr : own_lat c) :
    MetFree l (⟨"java/lang/StringLatin1", "charAt", "([BI)C"⟩ : MethodName) (head1 (Jvm.Cond.code (⟨"java/lang/StringLatin1", "charAt", "([BI)C"⟩ : MethodName) jdk_43_method_2_code 2 (some .char) :: wsq) own_R_latCh) (fun aq Uq => aq = #[(.ref t), (.int j)] ∧ Z.Warmed39 Uq.vm ∧ Uq.heap = h0) (fun _ _ _ _ _ => True) (fun _ Uq oq Uq' => ∃ vq Lq, oq = .returned vq ∧ own_Q_latCh Z t kt N2 vs fm c j i n h0 n0 vq Uq'.heap Lq ∧ FrameEnd Uq oq Uq' Lq own_R_latCh.cells own_R_latCh.slots) := by
  refine MetFree.of_bodySF (plainFor_of_name own_pn2) hisR ?_
  intro p e s m args below meth cde s₁ Bd hml0 hP hK
  obtain ⟨rfl, hZ, hh⟩ := hP
  have hx := Bd.exec
  have hby := Bd.bytes
  have hml : cde.maxLocals = 2 := hml0
  have hown : s.vm.findClass "java/lang/StringLatin1" = some m.cls := findClass_of_methodNamed Bd.named
  have hnm := (name_of_methodNamed Bd.named Bd.method).1
  have X0 : Stand p l e own_R_latCh s m #[(.ref t), (.int j)] below meth cde s₁ [] 0 0 := Stand.of_body Bd
  have e0 : s₁.heap = h0 := by rw [← hh, Bd.state]; rfl
  have N0 := Fr.nil n0
  show own_Fin p e s below (own_Q_latCh Z t kt N2 vs fm c j i n h0 n0) own_R_latCh.cells own_R_latCh.slots s₁ (entryFrame m #[(.ref t), (.int j)] 2)
  rw [own_ef_latCh m t j]
  refine own_via (fun _ kq => XS.iloadN X0.here hx rfl (hb hby own_d35) rfl kq) ?_
  refine own_via (fun _ kq => XS.aloadN X0.here hx rfl (hb hby own_d36) rfl rfl kq) ?_
  show own_Fin _ _ _ _ _ _ _ s₁ (mkF m 2 #[.val (.ref t), .val (.int j)] [(.ref t), (.int j)])
  obtain ⟨c1_, Ar1_, -, S1_, M1_, -, -⟩ := (id Va)
  refine own_via (fun _ kq => X0.arraylength hx (own_eq e0 Ar1_.1) (State.isArrayOf_alike hZ.alike Ar1_.2.1) (g := (mkF m 2 #[.val (.ref t), .val (.int j)] [(.ref t), (.int j)])) rfl rfl (hb hby own_d37) _ (by rw [len_of S1_ M1_]; exact kq)) ?_
  show own_Fin _ _ _ _ _ _ _ s₁ (mkF m 3 #[.val (.ref t), .val (.int j)] [(.int N2), (.int j)])
  obtain ⟨_, _, ⟨T2_, L2_, k2_, n2_⟩, -, X2_, ⟨Lc2_, hQ2_, l2_, y2_, z2_⟩, st2_⟩ := Jvm.LawKit.callS X0 hx (y := (⟨"java/lang/String", "checkIndex", "(II)V"⟩ : MethodName)) hown (mvT hZ (own_w hw 163 rfl)) (mvT hZ (own_w hw 164 rfl)) (mvT hZ (own_w hw 10 rfl)) (mvT hZ (own_w hw 165 rfl)) (by decide) (backOf (W := 0) (own_rm_chk l Z a0 hw [] j N2 fm h0 n0 Z0 O0 S2 r_fm (own_inb hj hN hi (by omega)).1 (own_inb hj hN hi (by omega)).2) hZ (own_w hw 165 rfl) (own_w hw 10 rfl) (by decide) (by decide)) (g := (mkF m 3 #[.val (.ref t), .val (.int j)] [(.int N2), (.int j)])) rfl (by rw [hml]; rfl) (argsL := [(.int j), (.int N2)]) (rest := []) (lenOf own_pd2 rfl) rfl (by show 2 * 0 + _ ≤ _; exact Nat.le_of_eq rfl) (hb hby own_d38) (fun _ _ => ⟨rfl, e0, (by decide : 0 + 0 ≤ _), (by decide : 0 + 0 ≤ _)⟩)
  dsimp only [Pt.U, Pt.locs, Pt.cells, Pt.slots] at X2_ l2_ y2_ z2_ st2_ hQ2_
  subst l2_ y2_ z2_
  obtain ⟨rfl, Nq2_, hh2_⟩ := hQ2_
  have N2_ := Fr.app N0 Nq2_
  refine own_via (fun _ kq => st2_ _ kq) ?_
  show own_Fin _ _ _ _ _ _ _ T2_ (mkF m 6 #[.val (.ref t), .val (.int j)] [])
  refine own_via (fun _ kq => XS.aloadN X2_.here hx rfl (hb hby own_d39) rfl rfl kq) ?_
  refine own_via (fun _ kq => XS.iloadN X2_.here hx rfl (hb hby own_d40) rfl kq) ?_
  show own_Fin _ _ _ _ _ _ _ T2_ (mkF m 8 #[.val (.ref t), .val (.int j)] [(.int j), (.ref t)])
  obtain ⟨c3_, Ar3_, q3_, S3_, M3_, H3_, G3_⟩ := (id Va)
  have hin3_ : ¬ (j < 0 ∨ c3_.slots.size ≤ (j).toNatClampNeg) := inb_of S3_ (own_inb hj hN hi (by omega))
  have hat3_ : c3_.slots[(j).toNatClampNeg]? = some (.int (own_lo c)) := H3_.at hin3_ (by rw [own_clamp hj (by omega)]; exact he)
  refine own_via (fun _ kq => X2_.baloadBytes hx (j := j) (v := (.int (own_lo c))) (own_eq hh2_ Ar3_.1) (State.isArrayOf_alike hZ.alike Ar3_.2.1) Ar3_.2.2 hin3_ hat3_ (g := (mkF m 8 #[.val (.ref t), .val (.int j)] [(.int j), (.ref t)])) rfl rfl (hb hby own_d41) _ kq) ?_
  show own_Fin _ _ _ _ _ _ _ T2_ (mkF m 9 #[.val (.ref t), .val (.int j)] [(.int (own_lo c))])
  refine own_via (fun _ kq => XS.sipush X2_.here hx rfl (hb hby own_d42) kq) ?_
  refine own_via (fun _ kq => XS.iand X2_.here hx rfl (hb hby own_d43) rfl kq) ?_
  refine own_via (fun _ kq => XS.i2c X2_.here hx rfl (hb hby own_d44) rfl kq) ?_
  show own_Fin _ _ _ _ _ _ _ T2_ (mkF m 14 #[.val (.ref t), .val (.int j)] [(.int (((own_lo c) &&& (255 : Int32)).toUInt32.toUInt16.toUInt32.toInt32))])
  exact own_retN X2_ hx (t := .char) Bd.returns Bd.notSynchronized (by simp) (hb hby own_d45) hh2_ (own_latch hcr) ⟨rfl, N2_, rfl⟩ (by decide) (by decide)
theorem own_d46 : decode jdk_52_method_5_code 0 = .ok (.getstatic 44, 3) := by decide +kernel
theorem own_d47 : decode jdk_52_method_5_code 3 = .ok (.ifCond .ne 25, 3) := by decide +kernel
theorem own_d48 : decode jdk_52_method_5_code 28 = .ok (.iload_n 1, 1) := by decide +kernel
theorem own_d49 : decode jdk_52_method_5_code 29 = .ok (.iconst 1, 1) := by decide +kernel
theorem own_d50 : decode jdk_52_method_5_code 30 = .ok (.ishl, 1) := by decide +kernel
theorem own_d51 : decode jdk_52_method_5_code 31 = .ok (.istore_n 1, 1) := by decide +kernel
theorem own_d52 : decode jdk_52_method_5_code 32 = .ok (.aload_n 0, 1) := by decide +kernel
theorem own_d53 : decode jdk_52_method_5_code 33 = .ok (.iload_n 1, 1) := by decide +kernel
theorem own_d54 : decode jdk_52_method_5_code 34 = .ok (.iinc 1 1, 3) := by decide +kernel
theorem own_d55 : decode jdk_52_method_5_code 37 = .ok (.baload, 1) := by decide +kernel
theorem own_d56 : decode jdk_52_method_5_code 38 = .ok (.sipush 255, 3) := by decide +kernel
theorem own_d57 : decode jdk_52_method_5_code 41 = .ok (.iand, 1) := by decide +kernel
theorem own_d58 : decode jdk_52_method_5_code 42 = .ok (.getstatic 59, 3) := by decide +kernel
theorem own_d59 : decode jdk_52_method_5_code 45 = .ok (.ishl, 1) := by decide +kernel
theorem own_d60 : decode jdk_52_method_5_code 46 = .ok (.aload_n 0, 1) := by decide +kernel
theorem own_d61 : decode jdk_52_method_5_code 47 = .ok (.iload_n 1, 1) := by decide +kernel
theorem own_d62 : decode jdk_52_method_5_code 48 = .ok (.baload, 1) := by decide +kernel
theorem own_d63 : decode jdk_52_method_5_code 49 = .ok (.sipush 255, 3) := by decide +kernel
theorem own_d64 : decode jdk_52_method_5_code 52 = .ok (.iand, 1) := by decide +kernel
theorem own_d65 : decode jdk_52_method_5_code 53 = .ok (.getstatic 63, 3) := by decide +kernel
theorem own_d66 : decode jdk_52_method_5_code 56 = .ok (.ishl, 1) := by decide +kernel
theorem own_d67 : decode jdk_52_method_5_code 57 = .ok (.ior, 1) := by decide +kernel
theorem own_d68 : decode jdk_52_method_5_code 58 = .ok (.i2c, 1) := by decide +kernel
theorem own_d69 : decode jdk_52_method_5_code 59 = .ok (.ireturn, 1) := by decide +kernel
theorem own_pn3 : plainName "java/lang/StringUTF16" = true := by first | (simp [plainName, overriddenIn]; done) | decide +kernel
theorem own_ef_getCh (m : MethodId) (t : Addr) (j : Int32) : entryFrame m #[(.ref t), (.int j)] 2 = mkF m 0 #[.val (.ref t), .val (.int j)] [] := by (first | (simp [entryFrame, mkF, argsToLocals, Value.category]; done) | rfl)
def own_Q_getCh (Z : State) (t : Addr) (kt : ClassId) (N2 : Int32) (vs : List Value) (c : Int32) (j : Int32) (i : Nat) (n : Nat) (h0 : Heap) (n0 : Nat) (vq : Option Value) (h : Heap) (Lq : List Loc) : Prop := (vq = some (.int c)) ∧ (Fr n0 Lq) ∧ (h = h0)
abbrev own_R_getCh : Room := { frames := 0, cells := 0, slots := 0, locals := 0 }
set_option maxRecDepth 65536 in
set_option maxHeartbeats 40000000 in
theorem own_rm_getCh (l : Launch) (Z : State) (a0 : Array Value) (hw : ∀ d ∈ tables_1, d.before a0 Z = true) (wsq : List Jvm.Cond) (t : Addr) (kt : ClassId) (N2 : Int32) (vs : List Value) (c : Int32) (j : Int32) (i : Nat) (n : Nat) (h0 : Heap) (n0 : Nat) (Z0 : n0 ≤ h0.size) (O0 : Old Z n0 h0) (S3 : Sta Z Z.heap "java/lang/StringUTF16" "$assertionsDisabled" "Z" (.int (1 : Int32))) (S4 : Sta Z Z.heap "java/lang/StringUTF16" "HI_BYTE_SHIFT" "I" (.int (0 : Int32))) (S5 : Sta Z Z.heap "java/lang/StringUTF16" "LO_BYTE_SHIFT" "I" (.int (8 : Int32))) (Va : Arv Z h0 t kt .byte N2 vs (.int 0)) (hj : j = Int32.ofNat i) (hi : i < n) (hn : n ≤ 4000) (hN : N2 = Int32.ofNat (2 * n)) (he1 : vs.getD (2 * i) (.int 0) = .int (own_lo c)) (he2 : vs.getD (2 * i + 1) (.int 0) = .int (own_hi c)) (hcr : own_chr c) :
    MetFree l (⟨"java/lang/StringUTF16", "getChar", "([BI)C"⟩ : MethodName) (head1 (Jvm.Cond.code (⟨"java/lang/StringUTF16", "getChar", "([BI)C"⟩ : MethodName) jdk_52_method_5_code 2 (some .char) :: wsq) own_R_getCh) (fun aq Uq => aq = #[(.ref t), (.int j)] ∧ Z.Warmed39 Uq.vm ∧ Uq.heap = h0) (fun _ _ _ _ _ => True) (fun _ Uq oq Uq' => ∃ vq Lq, oq = .returned vq ∧ own_Q_getCh Z t kt N2 vs c j i n h0 n0 vq Uq'.heap Lq ∧ FrameEnd Uq oq Uq' Lq own_R_getCh.cells own_R_getCh.slots) := by
  refine MetFree.of_bodySF (plainFor_of_name own_pn3) hisR ?_
  intro p e s m args below meth cde s₁ Bd hml0 hP hK
  obtain ⟨rfl, hZ, hh⟩ := hP
  have hx := Bd.exec
  have hby := Bd.bytes
  have hml : cde.maxLocals = 2 := hml0
  have hown : s.vm.findClass "java/lang/StringUTF16" = some m.cls := findClass_of_methodNamed Bd.named
  have hnm := (name_of_methodNamed Bd.named Bd.method).1
  have X0 : Stand p l e own_R_getCh s m #[(.ref t), (.int j)] below meth cde s₁ [] 0 0 := Stand.of_body Bd
  have e0 : s₁.heap = h0 := by rw [← hh, Bd.state]; rfl
  have N0 := Fr.nil n0
  show own_Fin p e s below (own_Q_getCh Z t kt N2 vs c j i n h0 n0) own_R_getCh.cells own_R_getCh.slots s₁ (entryFrame m #[(.ref t), (.int j)] 2)
  rw [own_ef_getCh m t j]
  obtain ⟨T1_, X1_, e1_, st1_⟩ := getS2 X0 hx hZ hown (host := "") (Or.inl (own_w hw 187 rfl)) Via.refl e0 (S3.ext O0.2) (g := (mkF m 0 #[.val (.ref t), .val (.int j)] [])) rfl (hb hby own_d46)
  refine own_via (fun _ kq => st1_ _ kq) ?_
  show own_Fin _ _ _ _ _ _ _ T1_ (mkF m 3 #[.val (.ref t), .val (.int j)] [(.int (1 : Int32))])
  refine own_via (fun _ kq => XS.ifYes X1_.here hx rfl (pc0 := 3) (pc' := 28) rfl (hb hby own_d47) rfl ((if0 _ _).trans (feq (by decide)).2) (by decide) (by decide) kq) ?_
  show own_Fin _ _ _ _ _ _ _ T1_ (mkF m 28 #[.val (.ref t), .val (.int j)] [])
  refine own_via (fun _ kq => XS.iloadN X1_.here hx rfl (hb hby own_d48) rfl kq) ?_
  refine own_via (fun _ kq => XS.iconst X1_.here hx rfl (hb hby own_d49) kq) ?_
  refine own_via (fun _ kq => XS.ishl X1_.here hx rfl (hb hby own_d50) rfl kq) ?_
  refine own_via (fun _ kq => XS.istoreN X1_.here hx rfl (hb hby own_d51) rfl (l' := #[.val (.ref t), .val (.int (j <<< ((1 : Int32) &&& 31)))]) rfl kq) ?_
  refine own_via (fun _ kq => XS.aloadN X1_.here hx rfl (hb hby own_d52) rfl rfl kq) ?_
  refine own_via (fun _ kq => XS.iloadN X1_.here hx rfl (hb hby own_d53) rfl kq) ?_
  refine own_via (fun _ kq => XS.iinc X1_.here hx rfl (hb hby own_d54) rfl (l' := #[.val (.ref t), .val (.int ((j <<< ((1 : Int32) &&& 31)) + (1 : Int32)))]) rfl kq) ?_
  show own_Fin _ _ _ _ _ _ _ T1_ (mkF m 37 #[.val (.ref t), .val (.int ((j <<< ((1 : Int32) &&& 31)) + (1 : Int32)))] [(.int (j <<< ((1 : Int32) &&& 31))), (.ref t)])
  obtain ⟨c2_, Ar2_, q2_, S2_, M2_, H2_, G2_⟩ := (id Va)
  have hin2_ : ¬ ((j <<< ((1 : Int32) &&& 31)) < 0 ∨ c2_.slots.size ≤ ((j <<< ((1 : Int32) &&& 31))).toNatClampNeg) := inb_of S2_ (own_shin hj hN hi hn)
  have hat2_ : c2_.slots[((j <<< ((1 : Int32) &&& 31))).toNatClampNeg]? = some (.int (own_lo c)) := H2_.at hin2_ (by rw [own_sh1 hj (by omega)]; exact he1)
  refine own_via (fun _ kq => X1_.baloadBytes hx (j := (j <<< ((1 : Int32) &&& 31))) (v := (.int (own_lo c))) (own_eq e1_ Ar2_.1) (State.isArrayOf_alike hZ.alike Ar2_.2.1) Ar2_.2.2 hin2_ hat2_ (g := (mkF m 37 #[.val (.ref t), .val (.int ((j <<< ((1 : Int32) &&& 31)) + (1 : Int32)))] [(.int (j <<< ((1 : Int32) &&& 31))), (.ref t)])) rfl rfl (hb hby own_d55) _ kq) ?_
  show own_Fin _ _ _ _ _ _ _ T1_ (mkF m 38 #[.val (.ref t), .val (.int ((j <<< ((1 : Int32) &&& 31)) + (1 : Int32)))] [(.int (own_lo c))])
  refine own_via (fun _ kq => XS.sipush X1_.here hx rfl (hb hby own_d56) kq) ?_
  refine own_via (fun _ kq => XS.iand X1_.here hx rfl (hb hby own_d57) rfl kq) ?_
  show own_Fin _ _ _ _ _ _ _ T1_ (mkF m 42 #[.val (.ref t), .val (.int ((j <<< ((1 : Int32) &&& 31)) + (1 : Int32)))] [(.int ((own_lo c) &&& (255 : Int32)))])
  obtain ⟨T3_, X3_, e3_, st3_⟩ := getS2 X1_ hx hZ hown (host := "") (Or.inl (own_w hw 188 rfl)) Via.refl e1_ (S4.ext O0.2) (g := (mkF m 42 #[.val (.ref t), .val (.int ((j <<< ((1 : Int32) &&& 31)) + (1 : Int32)))] [(.int ((own_lo c) &&& (255 : Int32)))])) rfl (hb hby own_d58)
  refine own_via (fun _ kq => st3_ _ kq) ?_
  show own_Fin _ _ _ _ _ _ _ T3_ (mkF m 45 #[.val (.ref t), .val (.int ((j <<< ((1 : Int32) &&& 31)) + (1 : Int32)))] [(.int (0 : Int32)), (.int ((own_lo c) &&& (255 : Int32)))])
  refine own_via (fun _ kq => XS.ishl X3_.here hx rfl (hb hby own_d59) rfl kq) ?_
  refine own_via (fun _ kq => XS.aloadN X3_.here hx rfl (hb hby own_d60) rfl rfl kq) ?_
  refine own_via (fun _ kq => XS.iloadN X3_.here hx rfl (hb hby own_d61) rfl kq) ?_
  show own_Fin _ _ _ _ _ _ _ T3_ (mkF m 48 #[.val (.ref t), .val (.int ((j <<< ((1 : Int32) &&& 31)) + (1 : Int32)))] [(.int ((j <<< ((1 : Int32) &&& 31)) + (1 : Int32))), (.ref t), (.int (((own_lo c) &&& (255 : Int32)) <<< ((0 : Int32) &&& 31)))])
  obtain ⟨c4_, Ar4_, q4_, S4_, M4_, H4_, G4_⟩ := (id Va)
  have hin4_ : ¬ (((j <<< ((1 : Int32) &&& 31)) + (1 : Int32)) < 0 ∨ c4_.slots.size ≤ (((j <<< ((1 : Int32) &&& 31)) + (1 : Int32))).toNatClampNeg) := inb_of S4_ (own_shin2 hj hN hi hn)
  have hat4_ : c4_.slots[(((j <<< ((1 : Int32) &&& 31)) + (1 : Int32))).toNatClampNeg]? = some (.int (own_hi c)) := H4_.at hin4_ (by rw [own_sh2 hj (by omega)]; exact he2)
  refine own_via (fun _ kq => X3_.baloadBytes hx (j := ((j <<< ((1 : Int32) &&& 31)) + (1 : Int32))) (v := (.int (own_hi c))) (own_eq e3_ Ar4_.1) (State.isArrayOf_alike hZ.alike Ar4_.2.1) Ar4_.2.2 hin4_ hat4_ (g := (mkF m 48 #[.val (.ref t), .val (.int ((j <<< ((1 : Int32) &&& 31)) + (1 : Int32)))] [(.int ((j <<< ((1 : Int32) &&& 31)) + (1 : Int32))), (.ref t), (.int (((own_lo c) &&& (255 : Int32)) <<< ((0 : Int32) &&& 31)))])) rfl rfl (hb hby own_d62) _ kq) ?_
  show own_Fin _ _ _ _ _ _ _ T3_ (mkF m 49 #[.val (.ref t), .val (.int ((j <<< ((1 : Int32) &&& 31)) + (1 : Int32)))] [(.int (own_hi c)), (.int (((own_lo c) &&& (255 : Int32)) <<< ((0 : Int32) &&& 31)))])
  refine own_via (fun _ kq => XS.sipush X3_.here hx rfl (hb hby own_d63) kq) ?_
  refine own_via (fun _ kq => XS.iand X3_.here hx rfl (hb hby own_d64) rfl kq) ?_
  show own_Fin _ _ _ _ _ _ _ T3_ (mkF m 53 #[.val (.ref t), .val (.int ((j <<< ((1 : Int32) &&& 31)) + (1 : Int32)))] [(.int ((own_hi c) &&& (255 : Int32))), (.int (((own_lo c) &&& (255 : Int32)) <<< ((0 : Int32) &&& 31)))])
  obtain ⟨T5_, X5_, e5_, st5_⟩ := getS2 X3_ hx hZ hown (host := "") (Or.inl (own_w hw 189 rfl)) Via.refl e3_ (S5.ext O0.2) (g := (mkF m 53 #[.val (.ref t), .val (.int ((j <<< ((1 : Int32) &&& 31)) + (1 : Int32)))] [(.int ((own_hi c) &&& (255 : Int32))), (.int (((own_lo c) &&& (255 : Int32)) <<< ((0 : Int32) &&& 31)))])) rfl (hb hby own_d65)
  refine own_via (fun _ kq => st5_ _ kq) ?_
  show own_Fin _ _ _ _ _ _ _ T5_ (mkF m 56 #[.val (.ref t), .val (.int ((j <<< ((1 : Int32) &&& 31)) + (1 : Int32)))] [(.int (8 : Int32)), (.int ((own_hi c) &&& (255 : Int32))), (.int (((own_lo c) &&& (255 : Int32)) <<< ((0 : Int32) &&& 31)))])
  refine own_via (fun _ kq => XS.ishl X5_.here hx rfl (hb hby own_d66) rfl kq) ?_
  refine own_via (fun _ kq => XS.ior X5_.here hx rfl (hb hby own_d67) rfl kq) ?_
  refine own_via (fun _ kq => XS.i2c X5_.here hx rfl (hb hby own_d68) rfl kq) ?_
  show own_Fin _ _ _ _ _ _ _ T5_ (mkF m 59 #[.val (.ref t), .val (.int ((j <<< ((1 : Int32) &&& 31)) + (1 : Int32)))] [(.int (((((own_lo c) &&& (255 : Int32)) <<< ((0 : Int32) &&& 31)) ||| (((own_hi c) &&& (255 : Int32)) <<< ((8 : Int32) &&& 31))).toUInt32.toUInt16.toUInt32.toInt32))])
  exact own_retN X5_ hx (t := .char) Bd.returns Bd.notSynchronized (by simp) (hb hby own_d69) e5_ (own_getch hcr) ⟨rfl, N0, rfl⟩ (by decide) (by decide)
theorem own_d70 : decode jdk_52_method_6_code 0 = .ok (.aload_n 0, 1) := by decide +kernel
theorem own_d71 : decode jdk_52_method_6_code 1 = .ok (.arraylength, 1) := by decide +kernel
theorem own_d72 : decode jdk_52_method_6_code 2 = .ok (.iconst 1, 1) := by decide +kernel
theorem own_d73 : decode jdk_52_method_6_code 3 = .ok (.ishr, 1) := by decide +kernel
theorem own_d74 : decode jdk_52_method_6_code 4 = .ok (.ireturn, 1) := by decide +kernel
theorem own_ef_u16len (m : MethodId) (t : Addr) : entryFrame m #[(.ref t)] 1 = mkF m 0 #[.val (.ref t)] [] := by (first | (simp [entryFrame, mkF, argsToLocals, Value.category]; done) | rfl)
def own_Q_u16len (Z : State) (t : Addr) (kt : ClassId) (N2 : Int32) (vs : List Value) (n : Nat) (h0 : Heap) (n0 : Nat) (vq : Option Value) (h : Heap) (Lq : List Loc) : Prop := (vq = some (.int (Int32.ofNat n))) ∧ (Fr n0 Lq) ∧ (h = h0)
abbrev own_R_u16len : Room := { frames := 0, cells := 0, slots := 0, locals := 0 }
set_option maxRecDepth 65536 in
set_option maxHeartbeats 40000000 in
theorem own_rm_u16len (l : Launch) (Z : State) (a0 : Array Value) (hw : ∀ d ∈ tables_1, d.before a0 Z = true) (wsq : List Jvm.Cond) (t : Addr) (kt : ClassId) (N2 : Int32) (vs : List Value) (n : Nat) (h0 : Heap) (n0 : Nat) (Z0 : n0 ≤ h0.size) (Va : Arv Z h0 t kt .byte N2 vs (.int 0)) (hN : N2 = Int32.ofNat (2 * n)) (hn : n ≤ 4000) :
    MetFree l (⟨"java/lang/StringUTF16", "length", "([B)I"⟩ : MethodName) (head1 (Jvm.Cond.code (⟨"java/lang/StringUTF16", "length", "([B)I"⟩ : MethodName) jdk_52_method_6_code 1 (some .int) :: wsq) own_R_u16len) (fun aq Uq => aq = #[(.ref t)] ∧ Z.Warmed39 Uq.vm ∧ Uq.heap = h0) (fun _ _ _ _ _ => True) (fun _ Uq oq Uq' => ∃ vq Lq, oq = .returned vq ∧ own_Q_u16len Z t kt N2 vs n h0 n0 vq Uq'.heap Lq ∧ FrameEnd Uq oq Uq' Lq own_R_u16len.cells own_R_u16len.slots) := by
  refine MetFree.of_bodySF (plainFor_of_name own_pn3) hisR ?_
  intro p e s m args below meth cde s₁ Bd hml0 hP hK
  obtain ⟨rfl, hZ, hh⟩ := hP
  have hx := Bd.exec
  have hby := Bd.bytes
  have hml : cde.maxLocals = 1 := hml0
  have hown : s.vm.findClass "java/lang/StringUTF16" = some m.cls := findClass_of_methodNamed Bd.named
  have hnm := (name_of_methodNamed Bd.named Bd.method).1
  have X0 : Stand p l e own_R_u16len s m #[(.ref t)] below meth cde s₁ [] 0 0 := Stand.of_body Bd
  have e0 : s₁.heap = h0 := by rw [← hh, Bd.state]; rfl
  have N0 := Fr.nil n0
  show own_Fin p e s below (own_Q_u16len Z t kt N2 vs n h0 n0) own_R_u16len.cells own_R_u16len.slots s₁ (entryFrame m #[(.ref t)] 1)
  rw [own_ef_u16len m t]
  refine own_via (fun _ kq => XS.aloadN X0.here hx rfl (hb hby own_d70) rfl rfl kq) ?_
  show own_Fin _ _ _ _ _ _ _ s₁ (mkF m 1 #[.val (.ref t)] [(.ref t)])
  obtain ⟨c1_, Ar1_, -, S1_, M1_, -, -⟩ := (id Va)
  refine own_via (fun _ kq => X0.arraylength hx (own_eq e0 Ar1_.1) (State.isArrayOf_alike hZ.alike Ar1_.2.1) (g := (mkF m 1 #[.val (.ref t)] [(.ref t)])) rfl rfl (hb hby own_d71) _ (by rw [len_of S1_ M1_]; exact kq)) ?_
  show own_Fin _ _ _ _ _ _ _ s₁ (mkF m 2 #[.val (.ref t)] [(.int N2)])
  refine own_via (fun _ kq => XS.iconst X0.here hx rfl (hb hby own_d72) kq) ?_
  refine own_via (fun _ kq => XS.ishr X0.here hx rfl (hb hby own_d73) rfl kq) ?_
  show own_Fin _ _ _ _ _ _ _ s₁ (mkF m 4 #[.val (.ref t)] [(.int (N2 >>> ((1 : Int32) &&& 31)))])
  exact own_retI X0 hx Bd.returns Bd.notSynchronized (hb hby own_d74) e0 (own_half hN hn) ⟨rfl, N0, rfl⟩ (by decide) (by decide)
theorem own_d75 : decode jdk_52_method_91_code 0 = .ok (.iload_n 0, 1) := by decide +kernel
theorem own_d76 : decode jdk_52_method_91_code 1 = .ok (.aload_n 1, 1) := by decide +kernel
theorem own_d77 : decode jdk_52_method_91_code 2 = .ok (.invokestatic 48, 3) := by decide +kernel
theorem own_pd3 : parseMethodDescriptor "([B)I" = some ⟨[(.array .byte)], some .int⟩ := by decide +kernel
theorem own_d78 : decode jdk_52_method_91_code 5 = .ok (.invokestatic 414, 3) := by decide +kernel
theorem own_d79 : decode jdk_52_method_91_code 8 = .ok (.return_, 1) := by decide +kernel
theorem own_ef_u16chk (m : MethodId) (j : Int32) (t : Addr) : entryFrame m #[(.int j), (.ref t)] 2 = mkF m 0 #[.val (.int j), .val (.ref t)] [] := by (first | (simp [entryFrame, mkF, argsToLocals, Value.category]; done) | rfl)
def own_Q_u16chk (Z : State) (t : Addr) (kt : ClassId) (N2 : Int32) (vs : List Value) (fm : Value) (j : Int32) (i : Nat) (n : Nat) (h0 : Heap) (n0 : Nat) (vq : Option Value) (h : Heap) (Lq : List Loc) : Prop := (vq = none) ∧ (Fr n0 Lq) ∧ (h = h0)
abbrev own_R_u16chk : Room := { frames := 2, cells := 0, slots := 0, locals := 27 }
set_option maxRecDepth 65536 in
set_option maxHeartbeats 40000000 in
theorem own_rm_u16chk (l : Launch) (Z : State) (a0 : Array Value) (hw : ∀ d ∈ tables_1, d.before a0 Z = true) (wsq : List Jvm.Cond) (t : Addr) (kt : ClassId) (N2 : Int32) (vs : List Value) (fm : Value) (j : Int32) (i : Nat) (n : Nat) (h0 : Heap) (n0 : Nat) (Z0 : n0 ≤ h0.size) (O0 : Old Z n0 h0) (S2 : Sta Z Z.heap "jdk/internal/util/Preconditions" "SIOOBE_FORMATTER" "Ljava/util/function/BiFunction;" fm) (r_fm : fm.isRef = true) (Va : Arv Z h0 t kt .byte N2 vs (.int 0)) (hj : j = Int32.ofNat i) (hi : i < n) (hn : n ≤ 4000) (hN : N2 = Int32.ofNat (2 * n)) :
    MetFree l (⟨"java/lang/StringUTF16", "checkIndex", "(I[B)V"⟩ : MethodName) (head1 (Jvm.Cond.code (⟨"java/lang/StringUTF16", "checkIndex", "(I[B)V"⟩ : MethodName) jdk_52_method_91_code 2 none :: wsq) own_R_u16chk) (fun aq Uq => aq = #[(.int j), (.ref t)] ∧ Z.Warmed39 Uq.vm ∧ Uq.heap = h0) (fun _ _ _ _ _ => True) (fun _ Uq oq Uq' => ∃ vq Lq, oq = .returned vq ∧ own_Q_u16chk Z t kt N2 vs fm j i n h0 n0 vq Uq'.heap Lq ∧ FrameEnd Uq oq Uq' Lq own_R_u16chk.cells own_R_u16chk.slots) := by
  refine MetFree.of_bodySF (plainFor_of_name own_pn3) hisR ?_
  intro p e s m args below meth cde s₁ Bd hml0 hP hK
  obtain ⟨rfl, hZ, hh⟩ := hP
  have hx := Bd.exec
  have hby := Bd.bytes
  have hml : cde.maxLocals = 2 := hml0
  have hown : s.vm.findClass "java/lang/StringUTF16" = some m.cls := findClass_of_methodNamed Bd.named
  have hnm := (name_of_methodNamed Bd.named Bd.method).1
  have X0 : Stand p l e own_R_u16chk s m #[(.int j), (.ref t)] below meth cde s₁ [] 0 0 := Stand.of_body Bd
  have e0 : s₁.heap = h0 := by rw [← hh, Bd.state]; rfl
  have N0 := Fr.nil n0
  show own_Fin p e s below (own_Q_u16chk Z t kt N2 vs fm j i n h0 n0) own_R_u16chk.cells own_R_u16chk.slots s₁ (entryFrame m #[(.int j), (.ref t)] 2)
  rw [own_ef_u16chk m j t]
  refine own_via (fun _ kq => XS.iloadN X0.here hx rfl (hb hby own_d75) rfl kq) ?_
  refine own_via (fun _ kq => XS.aloadN X0.here hx rfl (hb hby own_d76) rfl rfl kq) ?_
  show own_Fin _ _ _ _ _ _ _ s₁ (mkF m 2 #[.val (.int j), .val (.ref t)] [(.ref t), (.int j)])
  obtain ⟨_, _, ⟨T1_, L1_, k1_, n1_⟩, -, X1_, ⟨Lc1_, hQ1_, l1_, y1_, z1_⟩, st1_⟩ := Jvm.LawKit.callS X0 hx (y := (⟨"java/lang/StringUTF16", "length", "([B)I"⟩ : MethodName)) hown (mvT hZ (own_w hw 202 rfl)) (mvT hZ (own_w hw 203 rfl)) (mvT hZ (own_w hw 129 rfl)) (mvT hZ (own_w hw 204 rfl)) (by decide) (backOf (W := 1) (own_rm_u16len l Z a0 hw [] t kt N2 vs n h0 n0 Z0 Va hN hn) hZ (own_w hw 204 rfl) (own_w hw 129 rfl) (by decide) (by decide)) (g := (mkF m 2 #[.val (.int j), .val (.ref t)] [(.ref t), (.int j)])) rfl (by rw [hml]; rfl) (argsL := [(.ref t)]) (rest := [(.int j)]) (lenOf own_pd3 rfl) rfl (by show 2 * 0 + _ ≤ _; exact Nat.le_of_eq rfl) (hb hby own_d77) (fun _ _ => ⟨rfl, e0, (by decide : 0 + 0 ≤ _), (by decide : 0 + 0 ≤ _)⟩)
  dsimp only [Pt.U, Pt.locs, Pt.cells, Pt.slots] at X1_ l1_ y1_ z1_ st1_ hQ1_
  subst l1_ y1_ z1_
  obtain ⟨rfl, Nq1_, hh1_⟩ := hQ1_
  have N1_ := Fr.app N0 Nq1_
  refine own_via (fun _ kq => st1_ _ kq) ?_
  show own_Fin _ _ _ _ _ _ _ T1_ (mkF m 5 #[.val (.int j), .val (.ref t)] [(.int (Int32.ofNat n)), (.int j)])
  obtain ⟨_, _, ⟨T2_, L2_, k2_, n2_⟩, -, X2_, ⟨Lc2_, hQ2_, l2_, y2_, z2_⟩, st2_⟩ := Jvm.LawKit.callS X1_ hx (y := (⟨"java/lang/String", "checkIndex", "(II)V"⟩ : MethodName)) hown (mvT hZ (own_w hw 229 rfl)) (mvT hZ (own_w hw 164 rfl)) (mvT hZ (own_w hw 10 rfl)) (mvT hZ (own_w hw 165 rfl)) (by decide) (backOf (W := 0) (own_rm_chk l Z a0 hw [] j (Int32.ofNat n) fm h0 n0 Z0 O0 S2 r_fm (own_inb hj rfl hi (by omega)).1 (own_inb hj rfl hi (by omega)).2) hZ (own_w hw 165 rfl) (own_w hw 10 rfl) (by decide) (by decide)) (g := (mkF m 5 #[.val (.int j), .val (.ref t)] [(.int (Int32.ofNat n)), (.int j)])) rfl (by rw [hml]; rfl) (argsL := [(.int j), (.int (Int32.ofNat n))]) (rest := []) (lenOf own_pd2 rfl) rfl (by show 2 * 0 + _ ≤ _; exact Nat.le_of_eq rfl) (hb hby own_d78) (fun _ _ => ⟨rfl, hh1_, (by decide : 0 + 0 + 0 ≤ _), (by decide : 0 + 0 + 0 ≤ _)⟩)
  dsimp only [Pt.U, Pt.locs, Pt.cells, Pt.slots] at X2_ l2_ y2_ z2_ st2_ hQ2_
  subst l2_ y2_ z2_
  obtain ⟨rfl, Nq2_, hh2_⟩ := hQ2_
  have N2_ := Fr.app N1_ Nq2_
  refine own_via (fun _ kq => st2_ _ kq) ?_
  show own_Fin _ _ _ _ _ _ _ T2_ (mkF m 8 #[.val (.int j), .val (.ref t)] [])
  exact own_ret0 X2_ hx Bd.returns Bd.notSynchronized (hb hby own_d79) hh2_ ⟨rfl, N2_, rfl⟩ (by decide) (by decide)
theorem own_d80 : decode jdk_52_method_83_code 0 = .ok (.iload_n 1, 1) := by decide +kernel
theorem own_d81 : decode jdk_52_method_83_code 1 = .ok (.aload_n 0, 1) := by decide +kernel
theorem own_d82 : decode jdk_52_method_83_code 2 = .ok (.invokestatic 67, 3) := by decide +kernel
theorem own_pd4 : parseMethodDescriptor "(I[B)V" = some ⟨[.int, (.array .byte)], none⟩ := by decide +kernel
theorem own_d83 : decode jdk_52_method_83_code 5 = .ok (.aload_n 0, 1) := by decide +kernel
theorem own_d84 : decode jdk_52_method_83_code 6 = .ok (.iload_n 1, 1) := by decide +kernel
theorem own_d85 : decode jdk_52_method_83_code 7 = .ok (.invokestatic 71, 3) := by decide +kernel
theorem own_pd5 : parseMethodDescriptor "([BI)C" = some ⟨[(.array .byte), .int], some .char⟩ := by decide +kernel
theorem own_d86 : decode jdk_52_method_83_code 10 = .ok (.ireturn, 1) := by decide +kernel
theorem own_ef_u16ch (m : MethodId) (t : Addr) (j : Int32) : entryFrame m #[(.ref t), (.int j)] 2 = mkF m 0 #[.val (.ref t), .val (.int j)] [] := by (first | (simp [entryFrame, mkF, argsToLocals, Value.category]; done) | rfl)
def own_Q_u16ch (Z : State) (t : Addr) (kt : ClassId) (N2 : Int32) (vs : List Value) (fm : Value) (c : Int32) (j : Int32) (i : Nat) (n : Nat) (h0 : Heap) (n0 : Nat) (vq : Option Value) (h : Heap) (Lq : List Loc) : Prop := (vq = some (.int c)) ∧ (Fr n0 Lq) ∧ (h = h0)
abbrev own_R_u16ch : Room := { frames := 3, cells := 0, slots := 0, locals := 40 }
set_option maxRecDepth 65536 in
set_option maxHeartbeats 40000000 in
theorem own_rm_u16ch (l : Launch) (Z : State) (a0 : Array Value) (hw : ∀ d ∈ tables_1, d.before a0 Z = true) (wsq : List Jvm.Cond) (t : Addr) (kt : ClassId) (N2 : Int32) (vs : List Value) (fm : Value) (c : Int32) (j : Int32) (i : Nat) (n : Nat) (h0 : Heap) (n0 : Nat) (Z0 : n0 ≤ h0.size) (O0 : Old Z n0 h0) (S2 : Sta Z Z.heap "jdk/internal/util/Preconditions" "SIOOBE_FORMATTER" "Ljava/util/function/BiFunction;" fm) (r_fm : fm.isRef = true) (S3 : Sta Z Z.heap "java/lang/StringUTF16" "$assertionsDisabled" "Z" (.int (1 : Int32))) (S4 : Sta Z Z.heap "java/lang/StringUTF16" "HI_BYTE_SHIFT" "I" (.int (0 : Int32))) (S5 : Sta Z Z.heap "java/lang/StringUTF16" "LO_BYTE_SHIFT" "I" (.int (8 : Int32))) (Va : Arv Z h0 t kt .byte N2 vs (.int 0)) (hj : j = Int32.ofNat i) (hi : i < n) (hn : n ≤ 4000) (hN : N2 = Int32.ofNat (2 * n)) (he1 : vs.getD (2 * i) (.int 0) = .int (own_lo c)) (he2 : vs.getD (2 * i + 1) (.int 0) = .int (own_hi c)) (hcr : own_chr c) :
    MetFree l (⟨"java/lang/StringUTF16", "charAt", "([BI)C"⟩ : MethodName) (head1 (Jvm.Cond.code (⟨"java/lang/StringUTF16", "charAt", "([BI)C"⟩ : MethodName) jdk_52_method_83_code 2 (some .char) :: wsq) own_R_u16ch) (fun aq Uq => aq = #[(.ref t), (.int j)] ∧ Z.Warmed39 Uq.vm ∧ Uq.heap = h0) (fun _ _ _ _ _ => True) (fun _ Uq oq Uq' => ∃ vq Lq, oq = .returned vq ∧ own_Q_u16ch Z t kt N2 vs fm c j i n h0 n0 vq Uq'.heap Lq ∧ FrameEnd Uq oq Uq' Lq own_R_u16ch.cells own_R_u16ch.slots) := by
  refine MetFree.of_bodySF (plainFor_of_name own_pn3) hisR ?_
  intro p e s m args below meth cde s₁ Bd hml0 hP hK
  obtain ⟨rfl, hZ, hh⟩ := hP
  have hx := Bd.exec
  have hby := Bd.bytes
  have hml : cde.maxLocals = 2 := hml0
  have hown : s.vm.findClass "java/lang/StringUTF16" = some m.cls := findClass_of_methodNamed Bd.named
  have hnm := (name_of_methodNamed Bd.named Bd.method).1
  have X0 : Stand p l e own_R_u16ch s m #[(.ref t), (.int j)] below meth cde s₁ [] 0 0 := Stand.of_body Bd
  have e0 : s₁.heap = h0 := by rw [← hh, Bd.state]; rfl
  have N0 := Fr.nil n0
  show own_Fin p e s below (own_Q_u16ch Z t kt N2 vs fm c j i n h0 n0) own_R_u16ch.cells own_R_u16ch.slots s₁ (entryFrame m #[(.ref t), (.int j)] 2)
  rw [own_ef_u16ch m t j]
  refine own_via (fun _ kq => XS.iloadN X0.here hx rfl (hb hby own_d80) rfl kq) ?_
  refine own_via (fun _ kq => XS.aloadN X0.here hx rfl (hb hby own_d81) rfl rfl kq) ?_
  show own_Fin _ _ _ _ _ _ _ s₁ (mkF m 2 #[.val (.ref t), .val (.int j)] [(.ref t), (.int j)])
  obtain ⟨_, _, ⟨T1_, L1_, k1_, n1_⟩, -, X1_, ⟨Lc1_, hQ1_, l1_, y1_, z1_⟩, st1_⟩ := Jvm.LawKit.callS X0 hx (y := (⟨"java/lang/StringUTF16", "checkIndex", "(I[B)V"⟩ : MethodName)) hown (mvT hZ (own_w hw 226 rfl)) (mvT hZ (own_w hw 227 rfl)) (mvT hZ (own_w hw 129 rfl)) (mvT hZ (own_w hw 228 rfl)) (by decide) (backOf (W := 0) (own_rm_u16chk l Z a0 hw [] t kt N2 vs fm j i n h0 n0 Z0 O0 S2 r_fm Va hj hi hn hN) hZ (own_w hw 228 rfl) (own_w hw 129 rfl) (by decide) (by decide)) (g := (mkF m 2 #[.val (.ref t), .val (.int j)] [(.ref t), (.int j)])) rfl (by rw [hml]; rfl) (argsL := [(.int j), (.ref t)]) (rest := []) (lenOf own_pd4 rfl) rfl (by show 2 * 0 + _ ≤ _; exact Nat.le_of_eq rfl) (hb hby own_d82) (fun _ _ => ⟨rfl, e0, (by decide : 0 + 0 ≤ _), (by decide : 0 + 0 ≤ _)⟩)
  dsimp only [Pt.U, Pt.locs, Pt.cells, Pt.slots] at X1_ l1_ y1_ z1_ st1_ hQ1_
  subst l1_ y1_ z1_
  obtain ⟨rfl, Nq1_, hh1_⟩ := hQ1_
  have N1_ := Fr.app N0 Nq1_
  refine own_via (fun _ kq => st1_ _ kq) ?_
  show own_Fin _ _ _ _ _ _ _ T1_ (mkF m 5 #[.val (.ref t), .val (.int j)] [])
  refine own_via (fun _ kq => XS.aloadN X1_.here hx rfl (hb hby own_d83) rfl rfl kq) ?_
  refine own_via (fun _ kq => XS.iloadN X1_.here hx rfl (hb hby own_d84) rfl kq) ?_
  show own_Fin _ _ _ _ _ _ _ T1_ (mkF m 7 #[.val (.ref t), .val (.int j)] [(.int j), (.ref t)])
  obtain ⟨_, _, ⟨T2_, L2_, k2_, n2_⟩, -, X2_, ⟨Lc2_, hQ2_, l2_, y2_, z2_⟩, st2_⟩ := Jvm.LawKit.callS X1_ hx (y := (⟨"java/lang/StringUTF16", "getChar", "([BI)C"⟩ : MethodName)) hown (mvT hZ (own_w hw 190 rfl)) (mvT hZ (own_w hw 191 rfl)) (mvT hZ (own_w hw 129 rfl)) (mvT hZ (own_w hw 192 rfl)) (by decide) (backOf (W := 0) (own_rm_getCh l Z a0 hw [] t kt N2 vs c j i n h0 n0 Z0 O0 S3 S4 S5 Va hj hi hn hN he1 he2 hcr) hZ (own_w hw 192 rfl) (own_w hw 129 rfl) (by decide) (by decide)) (g := (mkF m 7 #[.val (.ref t), .val (.int j)] [(.int j), (.ref t)])) rfl (by rw [hml]; rfl) (argsL := [(.ref t), (.int j)]) (rest := []) (lenOf own_pd5 rfl) rfl (by show 2 * 0 + _ ≤ _; exact Nat.le_of_eq rfl) (hb hby own_d85) (fun _ _ => ⟨rfl, hh1_, (by decide : 0 + 0 + 0 ≤ _), (by decide : 0 + 0 + 0 ≤ _)⟩)
  dsimp only [Pt.U, Pt.locs, Pt.cells, Pt.slots] at X2_ l2_ y2_ z2_ st2_ hQ2_
  subst l2_ y2_ z2_
  obtain ⟨rfl, Nq2_, hh2_⟩ := hQ2_
  have N2_ := Fr.app N1_ Nq2_
  refine own_via (fun _ kq => st2_ _ kq) ?_
  show own_Fin _ _ _ _ _ _ _ T2_ (mkF m 10 #[.val (.ref t), .val (.int j)] [(.int c)])
  exact own_retN X2_ hx (t := .char) Bd.returns Bd.notSynchronized (by simp) (hb hby own_d86) hh2_ (own_narch hcr) ⟨rfl, N2_, rfl⟩ (by decide) (by decide)
theorem own_d87 : decode jdk_42_method_56_code 0 = .ok (.aload_n 0, 1) := by decide +kernel
theorem own_d88 : decode jdk_42_method_56_code 1 = .ok (.invokevirtual 492, 3) := by decide +kernel
theorem own_pd6 : parseMethodDescriptor "()Z" = some ⟨[], some .boolean⟩ := by decide +kernel
theorem own_d89 : decode jdk_42_method_56_code 4 = .ok (.ifCond .eq 12, 3) := by decide +kernel
theorem own_d90 : decode jdk_42_method_56_code 7 = .ok (.aload_n 0, 1) := by decide +kernel
theorem own_d91 : decode jdk_42_method_56_code 8 = .ok (.getfield 9, 3) := by decide +kernel
theorem own_d92 : decode jdk_42_method_56_code 11 = .ok (.iload_n 1, 1) := by decide +kernel
theorem own_d93 : decode jdk_42_method_56_code 12 = .ok (.invokestatic 495, 3) := by decide +kernel
theorem own_d94 : decode jdk_42_method_56_code 15 = .ok (.ireturn, 1) := by decide +kernel
theorem own_d95 : decode jdk_42_method_56_code 16 = .ok (.aload_n 0, 1) := by decide +kernel
theorem own_d96 : decode jdk_42_method_56_code 17 = .ok (.getfield 9, 3) := by decide +kernel
theorem own_d97 : decode jdk_42_method_56_code 20 = .ok (.iload_n 1, 1) := by decide +kernel
theorem own_d98 : decode jdk_42_method_56_code 21 = .ok (.invokestatic 498, 3) := by decide +kernel
theorem own_d99 : decode jdk_42_method_56_code 24 = .ok (.ireturn, 1) := by decide +kernel
theorem own_ef_chAt (m : MethodId) (a1 : Addr) (j : Int32) : entryFrame m #[(.ref a1), (.int j)] 2 = mkF m 0 #[.val (.ref a1), .val (.int j)] [] := by (first | (simp [entryFrame, mkF, argsToLocals, Value.category]; done) | rfl)
def own_Q_chAt (Z : State) (a1 : Addr) (cz : Int32) (t : Addr) (kt : ClassId) (cd : Int32) (N2 : Int32) (vs : List Value) (cs : List Int32) (fm : Value) (j : Int32) (i : Nat) (h0 : Heap) (n0 : Nat) (vq : Option Value) (h : Heap) (Lq : List Loc) : Prop := (vq = some (.int (cs.getD i 0))) ∧ (Fr n0 Lq) ∧ (h = h0)
abbrev own_R_chAt : Room := { frames := 4, cells := 0, slots := 0, locals := 53 }
set_option maxRecDepth 65536 in
set_option maxHeartbeats 40000000 in
theorem own_rm_chAt (l : Launch) (Z : State) (a0 : Array Value) (hw : ∀ d ∈ tables_1, d.before a0 Z = true) (wsq : List Jvm.Cond) (a1 : Addr) (cz : Int32) (t : Addr) (kt : ClassId) (cd : Int32) (N2 : Int32) (vs : List Value) (cs : List Int32) (fm : Value) (j : Int32) (i : Nat) (h0 : Heap) (n0 : Nat) (Z0 : n0 ≤ h0.size) (O0 : Old Z n0 h0) (S1 : Sta Z Z.heap "java/lang/String" "COMPACT_STRINGS" "Z" (.int cz)) (P5 : ¬ cz = (0 : Int32)) (S2 : Sta Z Z.heap "jdk/internal/util/Preconditions" "SIOOBE_FORMATTER" "Ljava/util/function/BiFunction;" fm) (r_fm : fm.isRef = true) (S3 : Sta Z Z.heap "java/lang/StringUTF16" "$assertionsDisabled" "Z" (.int (1 : Int32))) (S4 : Sta Z Z.heap "java/lang/StringUTF16" "HI_BYTE_SHIFT" "I" (.int (0 : Int32))) (S5 : Sta Z Z.heap "java/lang/StringUTF16" "LO_BYTE_SHIFT" "I" (.int (8 : Int32))) (E1 : Exa Z h0 a1 "java/lang/String") (F1 : Fld Z h0 a1 "java/lang/String" "coder" "B" (.int cd)) (F2 : Fld Z h0 a1 "java/lang/String" "value" "[B" (.ref t)) (Va : Arv Z h0 t kt .byte N2 vs (.int 0)) (hc : own_cod cs cd N2 vs) (hlen : cs.length ≤ 4000) (hr : own_chs cs) (hj : j = Int32.ofNat i) (hi : i < cs.length) :
    MetFree l (⟨"java/lang/String", "charAt", "(I)C"⟩ : MethodName) (head1 (Jvm.Cond.code (⟨"java/lang/String", "charAt", "(I)C"⟩ : MethodName) jdk_42_method_56_code 2 (some .char) :: wsq) own_R_chAt) (fun aq Uq => aq = #[(.ref a1), (.int j)] ∧ Z.Warmed39 Uq.vm ∧ Uq.heap = h0) (fun _ _ _ _ _ => True) (fun _ Uq oq Uq' => ∃ vq Lq, oq = .returned vq ∧ own_Q_chAt Z a1 cz t kt cd N2 vs cs fm j i h0 n0 vq Uq'.heap Lq ∧ FrameEnd Uq oq Uq' Lq own_R_chAt.cells own_R_chAt.slots) := by
  refine MetFree.of_bodySF (plainFor_of_name own_pn0) hisR ?_
  intro p e s m args below meth cde s₁ Bd hml0 hP hK
  obtain ⟨rfl, hZ, hh⟩ := hP
  have hx := Bd.exec
  have hby := Bd.bytes
  have hml : cde.maxLocals = 2 := hml0
  have hown : s.vm.findClass "java/lang/String" = some m.cls := findClass_of_methodNamed Bd.named
  have hnm := (name_of_methodNamed Bd.named Bd.method).1
  have X0 : Stand p l e own_R_chAt s m #[(.ref a1), (.int j)] below meth cde s₁ [] 0 0 := Stand.of_body Bd
  have e0 : s₁.heap = h0 := by rw [← hh, Bd.state]; rfl
  have N0 := Fr.nil n0
  show own_Fin p e s below (own_Q_chAt Z a1 cz t kt cd N2 vs cs fm j i h0 n0) own_R_chAt.cells own_R_chAt.slots s₁ (entryFrame m #[(.ref a1), (.int j)] 2)
  rw [own_ef_chAt m a1 j]
  refine own_via (fun _ kq => XS.aloadN X0.here hx rfl (hb hby own_d87) rfl rfl kq) ?_
  show own_Fin _ _ _ _ _ _ _ s₁ (mkF m 1 #[.val (.ref a1), .val (.int j)] [(.ref a1)])
  obtain ⟨cq1_, kq1_, q1_a, q1_b, q1_c⟩ := isOf hZ e0 E1
  obtain ⟨_, _, ⟨T1_, L1_, k1_, n1_⟩, -, X1_, ⟨Lc1_, hQ1_, l1_, y1_, z1_⟩, st1_⟩ := X0.virtualBack hx (y := (⟨"java/lang/String", "isLatin1", "()Z"⟩ : MethodName)) (z := (⟨"java/lang/String", "isLatin1", "()Z"⟩ : MethodName)) hown (mvT hZ (own_w hw 68 rfl)) (mvT hZ (own_w hw 69 rfl)) (notFace_of_selects (args := #[]) (mvT hZ (own_w hw 71 rfl))) (mvT hZ (own_w hw 71 rfl)) (mvT hZ (own_w hw 70 rfl)) (by decide) (backOf (W := 0) (own_rm_isLat l Z a0 hw [] a1 cz cd h0 n0 Z0 O0 S1 (by first | assumption | decide) F1) hZ (own_w hw 72 rfl) (own_w hw 10 rfl) (by decide) (by decide)) q1_a q1_c (g := (mkF m 1 #[.val (.ref a1), .val (.int j)] [(.ref a1)])) rfl (by rw [hml]; rfl) (Steps.refl _) (argsL := []) (rest := []) (lenOf own_pd6 rfl) rfl (by show 2 * 0 + _ ≤ _; exact Nat.le_of_eq rfl) (hb hby own_d88) (fun _ _ => ⟨rfl, e0, (by decide : 0 + 0 ≤ _), (by decide : 0 + 0 ≤ _)⟩)
  dsimp only [Pt.U, Pt.locs, Pt.cells, Pt.slots] at X1_ l1_ y1_ z1_ st1_ hQ1_
  subst l1_ y1_ z1_
  obtain ⟨r, rfl, Nq1_, hh1_, hq⟩ := hQ1_
  have N1_ := Fr.app N0 Nq1_
  refine own_via (fun _ kq => st1_.trans kq) ?_
  show own_Fin _ _ _ _ _ _ _ T1_ (mkF m 4 #[.val (.ref a1), .val (.int j)] [(.int r)])
  rcases Classical.em (r = (0 : Int32)) with hz | hz
  · refine own_via (fun _ kq => XS.ifYes X1_.here hx rfl (pc0 := 4) (pc' := 16) rfl (hb hby own_d89) rfl ((if0 _ _).trans (teq hz).1) (by decide) (by decide) kq) ?_
    show own_Fin _ _ _ _ _ _ _ T1_ (mkF m 16 #[.val (.ref a1), .val (.int j)] [])
    have hd : ¬ cd = (0 : Int32) := (hq.resolve_left fun z => absurd (z.1.symm.trans hz) (by decide)).2
    have hA := own_cod_u hc hd
    refine own_via (fun _ kq => XS.aloadN X1_.here hx rfl (hb hby own_d95) rfl rfl kq) ?_
    show own_Fin _ _ _ _ _ _ _ T1_ (mkF m 17 #[.val (.ref a1), .val (.int j)] [(.ref a1)])
    obtain ⟨T4_, X4_, e4_, st4_⟩ := getF X1_ hx hZ hown (host := "") (Or.inl (own_w hw 28 rfl)) Via.refl hh1_ F2 (g := (mkF m 17 #[.val (.ref a1), .val (.int j)] [(.ref a1)])) rfl rfl (hb hby own_d96)
    refine own_via (fun _ kq => st4_ _ kq) ?_
    show own_Fin _ _ _ _ _ _ _ T4_ (mkF m 20 #[.val (.ref a1), .val (.int j)] [(.ref t)])
    refine own_via (fun _ kq => XS.iloadN X4_.here hx rfl (hb hby own_d97) rfl kq) ?_
    show own_Fin _ _ _ _ _ _ _ T4_ (mkF m 21 #[.val (.ref a1), .val (.int j)] [(.int j), (.ref t)])
    obtain ⟨_, _, ⟨T5_, L5_, k5_, n5_⟩, -, X5_, ⟨Lc5_, hQ5_, l5_, y5_, z5_⟩, st5_⟩ := Jvm.LawKit.callS X4_ hx (y := (⟨"java/lang/StringUTF16", "charAt", "([BI)C"⟩ : MethodName)) hown (mvT hZ (own_w hw 232 rfl)) (mvT hZ (own_w hw 233 rfl)) (mvT hZ (own_w hw 129 rfl)) (mvT hZ (own_w hw 234 rfl)) (by decide) (backOf (W := 0) (own_rm_u16ch l Z a0 hw [] t kt N2 vs fm (cs.getD i 0) j i cs.length h0 n0 Z0 O0 S2 r_fm S3 S4 S5 Va hj hi hlen hA.1 (hA.2.1 i hi).1 (hA.2.1 i hi).2 (hr i)) hZ (own_w hw 234 rfl) (own_w hw 129 rfl) (by decide) (by decide)) (g := (mkF m 21 #[.val (.ref a1), .val (.int j)] [(.int j), (.ref t)])) rfl (by rw [hml]; rfl) (argsL := [(.ref t), (.int j)]) (rest := []) (lenOf own_pd5 rfl) rfl (by show 2 * 0 + _ ≤ _; exact Nat.le_of_eq rfl) (hb hby own_d98) (fun _ _ => ⟨rfl, e4_, (by decide : 0 + 0 + 0 ≤ _), (by decide : 0 + 0 + 0 ≤ _)⟩)
    dsimp only [Pt.U, Pt.locs, Pt.cells, Pt.slots] at X5_ l5_ y5_ z5_ st5_ hQ5_
    subst l5_ y5_ z5_
    obtain ⟨rfl, Nq5_, hh5_⟩ := hQ5_
    have N5_ := Fr.app N1_ Nq5_
    refine own_via (fun _ kq => st5_ _ kq) ?_
    show own_Fin _ _ _ _ _ _ _ T5_ (mkF m 24 #[.val (.ref a1), .val (.int j)] [(.int (cs.getD i 0))])
    exact own_retN X5_ hx (t := .char) Bd.returns Bd.notSynchronized (by simp) (hb hby own_d99) hh5_ (own_narch (hr i)) ⟨rfl, N5_, rfl⟩ (by decide) (by decide)
  · refine own_via (fun _ kq => XS.ifNo X1_.here hx rfl (hb hby own_d89) rfl ((if0 _ _).trans (feq hz).1) kq) ?_
    show own_Fin _ _ _ _ _ _ _ T1_ (mkF m 7 #[.val (.ref a1), .val (.int j)] [])
    have hd : cd = (0 : Int32) := (hq.resolve_right fun z => hz z.1).2
    have hA := own_cod_l hc hd
    refine own_via (fun _ kq => XS.aloadN X1_.here hx rfl (hb hby own_d90) rfl rfl kq) ?_
    show own_Fin _ _ _ _ _ _ _ T1_ (mkF m 8 #[.val (.ref a1), .val (.int j)] [(.ref a1)])
    obtain ⟨T2_, X2_, e2_, st2_⟩ := getF X1_ hx hZ hown (host := "") (Or.inl (own_w hw 28 rfl)) Via.refl hh1_ F2 (g := (mkF m 8 #[.val (.ref a1), .val (.int j)] [(.ref a1)])) rfl rfl (hb hby own_d91)
    refine own_via (fun _ kq => st2_ _ kq) ?_
    show own_Fin _ _ _ _ _ _ _ T2_ (mkF m 11 #[.val (.ref a1), .val (.int j)] [(.ref t)])
    refine own_via (fun _ kq => XS.iloadN X2_.here hx rfl (hb hby own_d92) rfl kq) ?_
    show own_Fin _ _ _ _ _ _ _ T2_ (mkF m 12 #[.val (.ref a1), .val (.int j)] [(.int j), (.ref t)])
    obtain ⟨_, _, ⟨T3_, L3_, k3_, n3_⟩, -, X3_, ⟨Lc3_, hQ3_, l3_, y3_, z3_⟩, st3_⟩ := Jvm.LawKit.callS X2_ hx (y := (⟨"java/lang/StringLatin1", "charAt", "([BI)C"⟩ : MethodName)) hown (mvT hZ (own_w hw 160 rfl)) (mvT hZ (own_w hw 161 rfl)) (mvT hZ (own_w hw 75 rfl)) (mvT hZ (own_w hw 162 rfl)) (by decide) (backOf (W := 0) (own_rm_latCh l Z a0 hw [] t kt N2 vs fm (cs.getD i 0) j i cs.length h0 n0 Z0 O0 S2 r_fm Va hj hi hlen hA.1 (hA.2 i hi).1 (own_lat_of (hr i) (hA.2 i hi).2)) hZ (own_w hw 162 rfl) (own_w hw 75 rfl) (by decide) (by decide)) (g := (mkF m 12 #[.val (.ref a1), .val (.int j)] [(.int j), (.ref t)])) rfl (by rw [hml]; rfl) (argsL := [(.ref t), (.int j)]) (rest := []) (lenOf own_pd5 rfl) rfl (by show 2 * 0 + _ ≤ _; exact Nat.le_of_eq rfl) (hb hby own_d93) (fun _ _ => ⟨rfl, e2_, (by decide : 0 + 0 + 0 ≤ _), (by decide : 0 + 0 + 0 ≤ _)⟩)
    dsimp only [Pt.U, Pt.locs, Pt.cells, Pt.slots] at X3_ l3_ y3_ z3_ st3_ hQ3_
    subst l3_ y3_ z3_
    obtain ⟨rfl, Nq3_, hh3_⟩ := hQ3_
    have N3_ := Fr.app N1_ Nq3_
    refine own_via (fun _ kq => st3_ _ kq) ?_
    show own_Fin _ _ _ _ _ _ _ T3_ (mkF m 15 #[.val (.ref a1), .val (.int j)] [(.int (cs.getD i 0))])
    exact own_retN X3_ hx (t := .char) Bd.returns Bd.notSynchronized (by simp) (hb hby own_d94) hh3_ (own_narch (hr i)) ⟨rfl, N3_, rfl⟩ (by decide) (by decide)
theorem own_d100 : decode jdk_52_method_21_code 0 = .ok (.iconst 0, 1) := by decide +kernel
theorem own_d101 : decode jdk_52_method_21_code 1 = .ok (.istore 5, 2) := by decide +kernel
theorem own_d102 : decode jdk_52_method_21_code 3 = .ok (.iload 5, 2) := by decide +kernel
theorem own_d103 : decode jdk_52_method_21_code 5 = .ok (.iload 4, 2) := by decide +kernel
theorem own_d104 : decode jdk_52_method_21_code 7 = .ok (.if_icmp .ge 37, 3) := by decide +kernel
theorem own_d105 : decode jdk_52_method_21_code 44 = .ok (.iload 4, 2) := by decide +kernel
theorem own_d106 : decode jdk_52_method_21_code 46 = .ok (.ireturn, 1) := by decide +kernel
theorem own_d107 : decode jdk_52_method_21_code 10 = .ok (.aload_n 0, 1) := by decide +kernel
theorem own_d108 : decode jdk_52_method_21_code 11 = .ok (.iload_n 1, 1) := by decide +kernel
theorem own_d109 : decode jdk_52_method_21_code 12 = .ok (.caload, 1) := by decide +kernel
theorem own_d110 : decode jdk_52_method_21_code 13 = .ok (.istore 6, 2) := by decide +kernel
theorem own_os_cmp5_13 {z0 : Value} {z1 : Value} {z2 : Value} {z3 : Value} {z4 : Value} {z5 : Value} {s6 : Slot} {v : Int32} (h : One s6) : storeLocals #[.val z0, .val z1, .val z2, .val z3, .val z4, .val z5, s6] 6 (.int v) = some #[.val z0, .val z1, .val z2, .val z3, .val z4, .val z5, .val (.int v)] := by
  rcases h with rfl | ⟨w, rfl, hw⟩
  · rfl
  · cases w <;> first | rfl | (simp [Value.category] at hw)
theorem own_d112 : decode jdk_52_method_21_code 15 = .ok (.iload 6, 2) := by decide +kernel
theorem own_d113 : decode jdk_52_method_21_code 17 = .ok (.sipush 255, 3) := by decide +kernel
theorem own_d114 : decode jdk_52_method_21_code 20 = .ok (.if_icmp .le 6, 3) := by decide +kernel
theorem own_d115 : decode jdk_52_method_21_code 23 = .ok (.iload 5, 2) := by decide +kernel
theorem own_d116 : decode jdk_52_method_21_code 25 = .ok (.ireturn, 1) := by decide +kernel
theorem own_d117 : decode jdk_52_method_21_code 26 = .ok (.aload_n 2, 1) := by decide +kernel
theorem own_d118 : decode jdk_52_method_21_code 27 = .ok (.iload_n 3, 1) := by decide +kernel
theorem own_d119 : decode jdk_52_method_21_code 28 = .ok (.iload 6, 2) := by decide +kernel
theorem own_d120 : decode jdk_52_method_21_code 30 = .ok (.i2b, 1) := by decide +kernel
theorem own_d121 : decode jdk_52_method_21_code 31 = .ok (.bastore, 1) := by decide +kernel
theorem own_d122 : decode jdk_52_method_21_code 32 = .ok (.iinc 1 1, 3) := by decide +kernel
theorem own_d123 : decode jdk_52_method_21_code 35 = .ok (.iinc 3 1, 3) := by decide +kernel
theorem own_d124 : decode jdk_52_method_21_code 38 = .ok (.iinc 5 1, 3) := by decide +kernel
theorem own_d125 : decode jdk_52_method_21_code 41 = .ok (.goto (-38), 3) := by decide +kernel
theorem own_ef_cmp5 (m : MethodId) (a : Addr) (b : Addr) (N : Int32) : entryFrame m #[(.ref a), (.int (0 : Int32)), (.ref b), (.int (0 : Int32)), (.int N)] 7 = mkF m 0 #[.val (.ref a), .val (.int (0 : Int32)), .val (.ref b), .val (.int (0 : Int32)), .val (.int N), .unset, .unset] [] := by (first | (simp [entryFrame, mkF, argsToLocals, Value.category]; done) | rfl)
def own_Q_cmp5 (Z : State) (a : Addr) (ka : ClassId) (N : Int32) (cs : List Int32) (b : Addr) (kb : ClassId) (bs : List Value) (h0 : Heap) (n0 : Nat) (vq : Option Value) (h : Heap) (Lq : List Loc) : Prop := ∃ (r : Int32) (ws : List Value), (vq = some (.int r)) ∧ (Fr n0 Lq) ∧ (Keep h0 h [b]) ∧ (Arv Z h b kb .byte N ws (.int 0)) ∧ (own_cmpd cs N r ws)
abbrev own_R_cmp5 : Room := { frames := 0, cells := 0, slots := 0, locals := 0 }
set_option maxRecDepth 65536 in
set_option maxHeartbeats 40000000 in
theorem own_rm_cmp5 (l : Launch) (Z : State) (a0 : Array Value) (hw : ∀ d ∈ tables_1, d.before a0 Z = true) (wsq : List Jvm.Cond) (a : Addr) (ka : ClassId) (N : Int32) (cs : List Int32) (b : Addr) (kb : ClassId) (bs : List Value) (h0 : Heap) (n0 : Nat) (Z0 : n0 ≤ h0.size) (Vc : Arv Z h0 a ka .char N (cs.map Value.int) (.int 0)) (Vb : Arv Z h0 b kb .byte N bs (.int 0)) (gb : n0 ≤ b) (hne : a ≠ b) (hbl : bs.length = cs.length) (hN : N = Int32.ofNat cs.length) (hn : cs.length ≤ 4) (hp : 0 < cs.length) (hr : own_chs cs) :
    MetFree l (⟨"java/lang/StringUTF16", "compress", "([CI[BII)I"⟩ : MethodName) (head1 (Jvm.Cond.code (⟨"java/lang/StringUTF16", "compress", "([CI[BII)I"⟩ : MethodName) jdk_52_method_21_code 7 (some .int) :: wsq) own_R_cmp5) (fun aq Uq => aq = #[(.ref a), (.int (0 : Int32)), (.ref b), (.int (0 : Int32)), (.int N)] ∧ Z.Warmed39 Uq.vm ∧ Uq.heap = h0) (fun _ _ _ _ _ => True) (fun _ Uq oq Uq' => ∃ vq Lq, oq = .returned vq ∧ own_Q_cmp5 Z a ka N cs b kb bs h0 n0 vq Uq'.heap Lq ∧ FrameEnd Uq oq Uq' Lq own_R_cmp5.cells own_R_cmp5.slots) := by
  refine MetFree.of_bodySF (plainFor_of_name own_pn3) hisR ?_
  intro p e s m args below meth cde s₁ Bd hml0 hP hK
  obtain ⟨rfl, hZ, hh⟩ := hP
  have hx := Bd.exec
  have hby := Bd.bytes
  have hml : cde.maxLocals = 7 := hml0
  have hown : s.vm.findClass "java/lang/StringUTF16" = some m.cls := findClass_of_methodNamed Bd.named
  have hnm := (name_of_methodNamed Bd.named Bd.method).1
  have X0 : Stand p l e own_R_cmp5 s m #[(.ref a), (.int (0 : Int32)), (.ref b), (.int (0 : Int32)), (.int N)] below meth cde s₁ [] 0 0 := Stand.of_body Bd
  have e0 : s₁.heap = h0 := by rw [← hh, Bd.state]; rfl
  have N0 := Fr.nil n0
  show own_Fin p e s below (own_Q_cmp5 Z a ka N cs b kb bs h0 n0) own_R_cmp5.cells own_R_cmp5.slots s₁ (entryFrame m #[(.ref a), (.int (0 : Int32)), (.ref b), (.int (0 : Int32)), (.int N)] 7)
  rw [own_ef_cmp5 m a b N]
  refine own_via (fun _ kq => XS.iconst X0.here hx rfl (hb hby own_d100) kq) ?_
  refine own_via (fun _ kq => XS.istore X0.here hx rfl (hb hby own_d101) rfl (l' := #[.val (.ref a), .val (.int (0 : Int32)), .val (.ref b), .val (.int (0 : Int32)), .val (.int N), .val (.int (0 : Int32)), .unset]) rfl kq) ?_
  have lp : ∀ (k : Nat) (i : Nat) (j : Int32) (ws : List Value) (s6 : Slot) (Tl : State) (locl : List Loc) (Xl : Stand p l e own_R_cmp5 s m #[(.ref a), (.int (0 : Int32)), (.ref b), (.int (0 : Int32)), (.int N)] below meth cde Tl locl (0) (0)) (Nl : Fr n0 locl) (hl : Heap) (el : Tl.heap = hl) (Kl : Keep h0 hl [b]) (Vl : Arv Z hl a ka .char N (cs.map Value.int) (.int 0)) (Vm : Arv Z hl b kb .byte N ws (.int 0)) (hs6 : One s6) (hj : j = Int32.ofNat i) (hi : i ≤ cs.length) (hk : cs.length ≤ i + k) (hwl : ws.length = cs.length) (hh_ : ∀ q, q < i → ws.getD q (.int 0) = .int (own_lo (cs.getD q 0)) ∧ ¬ (255 : Int32) < cs.getD q 0), own_Fin p e s below (own_Q_cmp5 Z a ka N cs b kb bs h0 n0) own_R_cmp5.cells own_R_cmp5.slots Tl (mkF m 3 #[.val (.ref a), .val (.int j), .val (.ref b), .val (.int j), .val (.int N), .val (.int j), s6] []) := by
    intro k
    induction k with
    | zero =>
      intro i j ws s6 Tl locl Xl Nl hl el Kl Vl Vm hs6 hj hi hk hwl hh_
      have Zl : n0 ≤ hl.size := Nat.le_trans Z0 Kl.1
      refine own_via (fun _ kq => XS.iload Xl.here hx rfl (hb hby own_d102) rfl kq) ?_
      refine own_via (fun _ kq => XS.iload Xl.here hx rfl (hb hby own_d103) rfl kq) ?_
      refine own_via (fun _ kq => XS.icmpYes Xl.here hx rfl (pc0 := 7) (pc' := 44) rfl (hb hby own_d104) rfl (flt (fun q => absurd ((own_ltN hj hN (by omega) (by omega)).mp q) (by omega))).2.1 (by decide) (by decide) kq) ?_
      show own_Fin _ _ _ _ _ _ _ Tl (mkF m 44 #[.val (.ref a), .val (.int j), .val (.ref b), .val (.int j), .val (.int N), .val (.int j), s6] [])
      refine own_via (fun _ kq => XS.iload Xl.here hx rfl (hb hby own_d105) rfl kq) ?_
      show own_Fin _ _ _ _ _ _ _ Tl (mkF m 46 #[.val (.ref a), .val (.int j), .val (.ref b), .val (.int j), .val (.int N), .val (.int j), s6] [(.int N)])
      exact own_retI Xl hx Bd.returns Bd.notSynchronized (hb hby own_d106) el rfl ⟨N, ws, rfl, Nl, Kl, Vm, (Or.inl ⟨rfl, fun q hq => hh_ q (by omega)⟩)⟩ (by decide) (by decide)
    | succ k ih =>
      intro i j ws s6 Tl locl Xl Nl hl el Kl Vl Vm hs6 hj hi hk hwl hh_
      have Zl : n0 ≤ hl.size := Nat.le_trans Z0 Kl.1
      refine own_via (fun _ kq => XS.iload Xl.here hx rfl (hb hby own_d102) rfl kq) ?_
      refine own_via (fun _ kq => XS.iload Xl.here hx rfl (hb hby own_d103) rfl kq) ?_
      rcases Classical.em (j < N) with hg | hg
      · refine own_via (fun _ kq => XS.icmpNo Xl.here hx rfl (hb hby own_d104) rfl (tlt hg).2.1 kq) ?_
        show own_Fin _ _ _ _ _ _ _ Tl (mkF m 10 #[.val (.ref a), .val (.int j), .val (.ref b), .val (.int j), .val (.int N), .val (.int j), s6] [])
        have hlt : i < cs.length := (own_ltN hj hN (by omega) (by omega)).mp hg
        refine own_via (fun _ kq => XS.aloadN Xl.here hx rfl (hb hby own_d107) rfl rfl kq) ?_
        refine own_via (fun _ kq => XS.iloadN Xl.here hx rfl (hb hby own_d108) rfl kq) ?_
        show own_Fin _ _ _ _ _ _ _ Tl (mkF m 12 #[.val (.ref a), .val (.int j), .val (.ref b), .val (.int j), .val (.int N), .val (.int j), s6] [(.int j), (.ref a)])
        obtain ⟨c1_, Ar1_, q1_, S1_, M1_, H1_, G1_⟩ := (id Vl)
        have hin1_ : ¬ (j < 0 ∨ c1_.slots.size ≤ (j).toNatClampNeg) := inb_of S1_ (own_inb hj hN hlt (by omega))
        have hat1_ : c1_.slots[(j).toNatClampNeg]? = some (.int (cs.getD i 0)) := H1_.at hin1_ (own_el hj (by omega))
        refine own_via (fun _ kq => Xl.caload hx (j := j) (v := (.int (cs.getD i 0))) (own_eq el Ar1_.1) (State.isArrayOf_alike hZ.alike Ar1_.2.1) Ar1_.2.2 hin1_ hat1_ (g := (mkF m 12 #[.val (.ref a), .val (.int j), .val (.ref b), .val (.int j), .val (.int N), .val (.int j), s6] [(.int j), (.ref a)])) rfl rfl (hb hby own_d109) _ kq) ?_
        show own_Fin _ _ _ _ _ _ _ Tl (mkF m 13 #[.val (.ref a), .val (.int j), .val (.ref b), .val (.int j), .val (.int N), .val (.int j), s6] [(.int (cs.getD i 0))])
        refine own_via (fun _ kq => XS.istore Xl.here hx rfl (hb hby own_d110) rfl (l' := #[.val (.ref a), .val (.int j), .val (.ref b), .val (.int j), .val (.int N), .val (.int j), .val (.int (cs.getD i 0))]) (own_os_cmp5_13 hs6) kq) ?_
        refine own_via (fun _ kq => XS.iload Xl.here hx rfl (hb hby own_d112) rfl kq) ?_
        refine own_via (fun _ kq => XS.sipush Xl.here hx rfl (hb hby own_d113) kq) ?_
        rcases Classical.em ((255 : Int32) < (cs.getD i 0)) with he | he
        · refine own_via (fun _ kq => XS.icmpNo Xl.here hx rfl (hb hby own_d114) rfl (tlt he).2.2.2 kq) ?_
          show own_Fin _ _ _ _ _ _ _ Tl (mkF m 23 #[.val (.ref a), .val (.int j), .val (.ref b), .val (.int j), .val (.int N), .val (.int j), .val (.int (cs.getD i 0))] [])
          refine own_via (fun _ kq => XS.iload Xl.here hx rfl (hb hby own_d115) rfl kq) ?_
          show own_Fin _ _ _ _ _ _ _ Tl (mkF m 25 #[.val (.ref a), .val (.int j), .val (.ref b), .val (.int j), .val (.int N), .val (.int j), .val (.int (cs.getD i 0))] [(.int j)])
          exact own_retI Xl hx Bd.returns Bd.notSynchronized (hb hby own_d116) el rfl ⟨j, ws, rfl, Nl, Kl, Vm, (Or.inr ⟨i, hlt, hj, he⟩)⟩ (by decide) (by decide)
        · refine own_via (fun _ kq => XS.icmpYes Xl.here hx rfl (pc0 := 20) (pc' := 26) rfl (hb hby own_d114) rfl (flt he).2.2.2 (by decide) (by decide) kq) ?_
          show own_Fin _ _ _ _ _ _ _ Tl (mkF m 26 #[.val (.ref a), .val (.int j), .val (.ref b), .val (.int j), .val (.int N), .val (.int j), .val (.int (cs.getD i 0))] [])
          refine own_via (fun _ kq => XS.aloadN Xl.here hx rfl (hb hby own_d117) rfl rfl kq) ?_
          refine own_via (fun _ kq => XS.iloadN Xl.here hx rfl (hb hby own_d118) rfl kq) ?_
          refine own_via (fun _ kq => XS.iload Xl.here hx rfl (hb hby own_d119) rfl kq) ?_
          refine own_via (fun _ kq => XS.i2b Xl.here hx rfl (hb hby own_d120) rfl kq) ?_
          show own_Fin _ _ _ _ _ _ _ Tl (mkF m 31 #[.val (.ref a), .val (.int j), .val (.ref b), .val (.int j), .val (.int N), .val (.int j), .val (.int (cs.getD i 0))] [(.int ((cs.getD i 0).toInt8.toInt32)), (.int j), (.ref b)])
          obtain ⟨c2_, Ar2_, q2_, S2_, M2_, H2_, G2_⟩ := (id Vm)
          have hin2_ : ¬ (j < 0 ∨ c2_.slots.size ≤ (j).toNatClampNeg) := inb_of S2_ (own_inb hj hN hlt (by omega))
          obtain ⟨T2_, h2_, X2_, e2_, W2_, st2_⟩ := stB Xl hx hZ el Ar2_ (j := j) hin2_ (g := (mkF m 31 #[.val (.ref a), .val (.int j), .val (.ref b), .val (.int j), .val (.int N), .val (.int j), .val (.int (cs.getD i 0))] [(.int ((cs.getD i 0).toInt8.toInt32)), (.int j), (.ref b)])) rfl rfl (hb hby own_d121)
          have V2_ := Arv.set Ar2_ q2_ S2_ M2_ H2_ G2_ (fits_nar_byte _) W2_ i (own_clamp hj (by omega)) (by omega)
          have U2_ : Arv Z h2_ b kb .byte N ((ws).set i (.int (own_lo (cs.getD i 0)))) (.int 0) := by
            have hq := V2_
            rw [show ((cs.getD i 0).toInt8.toInt32).toInt8.toInt32 = (own_lo (cs.getD i 0)) from (own_st1 _)] at hq
            exact hq
          have N2_ := Fr.snoc X2_ Nl gb
          refine own_via (fun _ kq => st2_ _ kq) ?_
          show own_Fin _ _ _ _ _ _ _ T2_ (mkF m 32 #[.val (.ref a), .val (.int j), .val (.ref b), .val (.int j), .val (.int N), .val (.int j), .val (.int (cs.getD i 0))] [])
          refine own_via (fun _ kq => XS.iinc X2_.here hx rfl (hb hby own_d122) rfl (l' := #[.val (.ref a), .val (.int (j + (1 : Int32))), .val (.ref b), .val (.int j), .val (.int N), .val (.int j), .val (.int (cs.getD i 0))]) rfl kq) ?_
          refine own_via (fun _ kq => XS.iinc X2_.here hx rfl (hb hby own_d123) rfl (l' := #[.val (.ref a), .val (.int (j + (1 : Int32))), .val (.ref b), .val (.int (j + (1 : Int32))), .val (.int N), .val (.int j), .val (.int (cs.getD i 0))]) rfl kq) ?_
          refine own_via (fun _ kq => XS.iinc X2_.here hx rfl (hb hby own_d124) rfl (l' := #[.val (.ref a), .val (.int (j + (1 : Int32))), .val (.ref b), .val (.int (j + (1 : Int32))), .val (.int N), .val (.int (j + (1 : Int32))), .val (.int (cs.getD i 0))]) rfl kq) ?_
          refine own_via (fun _ kq => XS.goto X2_.here hx rfl (pc0 := 41) (pc' := 3) rfl (hb hby own_d125) (by decide) (by decide) kq) ?_
          exact ih (i + 1) (j + (1 : Int32)) ((ws).set i (.int (own_lo (cs.getD i 0)))) _ T2_ _ X2_ N2_ _ e2_ (Kl.wr W2_ (Or.inl (List.mem_of_getElem? (i := 0) rfl))) (Vl.other W2_ hne) U2_ own_one (own_succ hj) (by omega) (by omega) (by rw [List.length_set]; exact hwl) (own_setn hh_ (by omega) he)
      · refine own_via (fun _ kq => XS.icmpYes Xl.here hx rfl (pc0 := 7) (pc' := 44) rfl (hb hby own_d104) rfl (flt hg).2.1 (by decide) (by decide) kq) ?_
        show own_Fin _ _ _ _ _ _ _ Tl (mkF m 44 #[.val (.ref a), .val (.int j), .val (.ref b), .val (.int j), .val (.int N), .val (.int j), s6] [])
        have hge : cs.length ≤ i := Nat.le_of_not_lt fun q => hg ((own_ltN hj hN (by omega) (by omega)).mpr q)
        refine own_via (fun _ kq => XS.iload Xl.here hx rfl (hb hby own_d105) rfl kq) ?_
        show own_Fin _ _ _ _ _ _ _ Tl (mkF m 46 #[.val (.ref a), .val (.int j), .val (.ref b), .val (.int j), .val (.int N), .val (.int j), s6] [(.int N)])
        exact own_retI Xl hx Bd.returns Bd.notSynchronized (hb hby own_d106) el rfl ⟨N, ws, rfl, Nl, Kl, Vm, (Or.inl ⟨rfl, fun q hq => hh_ q (by omega)⟩)⟩ (by decide) (by decide)
  exact lp cs.length 0 (0 : Int32) bs .unset s₁ _ X0 N0 _ e0 (Keep.refl h0 [b]) Vc Vb (Or.inl rfl) rfl (by omega) (by omega) hbl (fun q hq => absurd hq (Nat.not_lt_zero q))
theorem own_d126 : decode jdk_52_method_3_code 0 = .ok (.iload_n 0, 1) := by decide +kernel
theorem own_d127 : decode jdk_52_method_3_code 1 = .ok (.ifCond .ge 11, 3) := by decide +kernel
theorem own_d128 : decode jdk_52_method_3_code 12 = .ok (.iload_n 0, 1) := by decide +kernel
theorem own_d129 : decode jdk_52_method_3_code 13 = .ok (.ldc 20, 2) := by decide +kernel
theorem own_d130 : decode jdk_52_method_3_code 15 = .ok (.if_icmp .lt 40, 3) := by decide +kernel
theorem own_d131 : decode jdk_52_method_3_code 55 = .ok (.iload_n 0, 1) := by decide +kernel
theorem own_d132 : decode jdk_52_method_3_code 56 = .ok (.iconst 1, 1) := by decide +kernel
theorem own_d133 : decode jdk_52_method_3_code 57 = .ok (.ishl, 1) := by decide +kernel
theorem own_d134 : decode jdk_52_method_3_code 58 = .ok (.ireturn, 1) := by decide +kernel
theorem own_ef_nbl (m : MethodId) (j : Int32) : entryFrame m #[(.int j)] 1 = mkF m 0 #[.val (.int j)] [] := by (first | (simp [entryFrame, mkF, argsToLocals, Value.category]; done) | rfl)
def own_Q_nbl (Z : State) (j : Int32) (n : Nat) (h0 : Heap) (n0 : Nat) (vq : Option Value) (h : Heap) (Lq : List Loc) : Prop := (vq = some (.int (Int32.ofNat (2 * n)))) ∧ (Fr n0 Lq) ∧ (h = h0)
abbrev own_R_nbl : Room := { frames := 0, cells := 0, slots := 0, locals := 0 }
set_option maxRecDepth 65536 in
set_option maxHeartbeats 40000000 in
theorem own_rm_nbl (l : Launch) (Z : State) (a0 : Array Value) (hw : ∀ d ∈ tables_1, d.before a0 Z = true) (wsq : List Jvm.Cond) (j : Int32) (n : Nat) (h0 : Heap) (n0 : Nat) (Z0 : n0 ≤ h0.size) (hj : j = Int32.ofNat n) (hn : n ≤ 4) :
    MetFree l (⟨"java/lang/StringUTF16", "newBytesLength", "(I)I"⟩ : MethodName) (head1 (Jvm.Cond.code (⟨"java/lang/StringUTF16", "newBytesLength", "(I)I"⟩ : MethodName) jdk_52_method_3_code 1 (some .int) :: wsq) own_R_nbl) (fun aq Uq => aq = #[(.int j)] ∧ Z.Warmed39 Uq.vm ∧ Uq.heap = h0) (fun _ _ _ _ _ => True) (fun _ Uq oq Uq' => ∃ vq Lq, oq = .returned vq ∧ own_Q_nbl Z j n h0 n0 vq Uq'.heap Lq ∧ FrameEnd Uq oq Uq' Lq own_R_nbl.cells own_R_nbl.slots) := by
  refine MetFree.of_bodySF (plainFor_of_name own_pn3) hisR ?_
  intro p e s m args below meth cde s₁ Bd hml0 hP hK
  obtain ⟨rfl, hZ, hh⟩ := hP
  have hx := Bd.exec
  have hby := Bd.bytes
  have hml : cde.maxLocals = 1 := hml0
  have hown : s.vm.findClass "java/lang/StringUTF16" = some m.cls := findClass_of_methodNamed Bd.named
  have hnm := (name_of_methodNamed Bd.named Bd.method).1
  have X0 : Stand p l e own_R_nbl s m #[(.int j)] below meth cde s₁ [] 0 0 := Stand.of_body Bd
  have e0 : s₁.heap = h0 := by rw [← hh, Bd.state]; rfl
  have N0 := Fr.nil n0
  show own_Fin p e s below (own_Q_nbl Z j n h0 n0) own_R_nbl.cells own_R_nbl.slots s₁ (entryFrame m #[(.int j)] 1)
  rw [own_ef_nbl m j]
  refine own_via (fun _ kq => XS.iloadN X0.here hx rfl (hb hby own_d126) rfl kq) ?_
  refine own_via (fun _ kq => XS.ifYes X0.here hx rfl (pc0 := 1) (pc' := 12) rfl (hb hby own_d127) rfl ((if0 _ _).trans (flt (own_nneg hj (by omega))).2.1) (by decide) (by decide) kq) ?_
  show own_Fin _ _ _ _ _ _ _ s₁ (mkF m 12 #[.val (.int j)] [])
  refine own_via (fun _ kq => XS.iloadN X0.here hx rfl (hb hby own_d128) rfl kq) ?_
  show own_Fin _ _ _ _ _ _ _ s₁ (mkF m 13 #[.val (.int j)] [(.int j)])
  refine own_via (fun _ kq => X0.ldcInt hx hown (mvT hZ (own_w hw 183 rfl)) (g := (mkF m 13 #[.val (.int j)] [(.int j)])) rfl (hb hby own_d129) _ kq) ?_
  show own_Fin _ _ _ _ _ _ _ s₁ (mkF m 15 #[.val (.int j)] [(.int (1073741823 : Int32)), (.int j)])
  refine own_via (fun _ kq => XS.icmpYes X0.here hx rfl (pc0 := 15) (pc' := 55) rfl (hb hby own_d130) rfl (tlt (own_small hj (by omega))).1 (by decide) (by decide) kq) ?_
  show own_Fin _ _ _ _ _ _ _ s₁ (mkF m 55 #[.val (.int j)] [])
  refine own_via (fun _ kq => XS.iloadN X0.here hx rfl (hb hby own_d131) rfl kq) ?_
  refine own_via (fun _ kq => XS.iconst X0.here hx rfl (hb hby own_d132) kq) ?_
  refine own_via (fun _ kq => XS.ishl X0.here hx rfl (hb hby own_d133) rfl kq) ?_
  show own_Fin _ _ _ _ _ _ _ s₁ (mkF m 58 #[.val (.int j)] [(.int (j <<< ((1 : Int32) &&& 31)))])
  exact own_retI X0 hx Bd.returns Bd.notSynchronized (hb hby own_d134) e0 (own_dbl2 hj (by omega)) ⟨rfl, N0, rfl⟩ (by decide) (by decide)
theorem own_d135 : decode jdk_52_method_2_code 0 = .ok (.iload_n 0, 1) := by decide +kernel
theorem own_d136 : decode jdk_52_method_2_code 1 = .ok (.invokestatic 11, 3) := by decide +kernel
theorem own_pd7 : parseMethodDescriptor "(I)I" = some ⟨[.int], some .int⟩ := by decide +kernel
theorem own_d137 : decode jdk_52_method_2_code 4 = .ok (.newarray .byte, 2) := by decide +kernel
theorem own_d138 : decode jdk_52_method_2_code 6 = .ok (.areturn, 1) := by decide +kernel
theorem own_ef_nbf (m : MethodId) (j : Int32) : entryFrame m #[(.int j)] 1 = mkF m 0 #[.val (.int j)] [] := by (first | (simp [entryFrame, mkF, argsToLocals, Value.category]; done) | rfl)
def own_Q_nbf (Z : State) (j : Int32) (n : Nat) (h0 : Heap) (n0 : Nat) (vq : Option Value) (h : Heap) (Lq : List Loc) : Prop := ∃ (t : Addr) (kt : ClassId), (vq = some (.ref t)) ∧ (Fr n0 Lq) ∧ (Keep h0 h []) ∧ (h0.size ≤ t) ∧ (Arv Z h t kt .byte (Int32.ofNat (2 * n)) (List.replicate (2 * n) (.int 0)) (.int 0)) ∧ (Exa Z h t "[B")
abbrev own_R_nbf : Room := { frames := 1, cells := 1, slots := 8, locals := 12 }
set_option maxRecDepth 65536 in
set_option maxHeartbeats 40000000 in
theorem own_rm_nbf (l : Launch) (Z : State) (a0 : Array Value) (hw : ∀ d ∈ tables_1, d.before a0 Z = true) (wsq : List Jvm.Cond) (j : Int32) (n : Nat) (h0 : Heap) (n0 : Nat) (Z0 : n0 ≤ h0.size) (hj : j = Int32.ofNat n) (hn : n ≤ 4) :
    MetFree l (⟨"java/lang/StringUTF16", "newBytesFor", "(I)[B"⟩ : MethodName) (head1 (Jvm.Cond.code (⟨"java/lang/StringUTF16", "newBytesFor", "(I)[B"⟩ : MethodName) jdk_52_method_2_code 1 (some (.array .byte)) :: wsq) own_R_nbf) (fun aq Uq => aq = #[(.int j)] ∧ Z.Warmed39 Uq.vm ∧ Uq.heap = h0) (fun _ _ _ _ _ => True) (fun _ Uq oq Uq' => ∃ vq Lq, oq = .returned vq ∧ own_Q_nbf Z j n h0 n0 vq Uq'.heap Lq ∧ FrameEnd Uq oq Uq' Lq own_R_nbf.cells own_R_nbf.slots) := by
  refine MetFree.of_bodySF (plainFor_of_name own_pn3) hisR ?_
  intro p e s m args below meth cde s₁ Bd hml0 hP hK
  obtain ⟨rfl, hZ, hh⟩ := hP
  have hx := Bd.exec
  have hby := Bd.bytes
  have hml : cde.maxLocals = 1 := hml0
  have hown : s.vm.findClass "java/lang/StringUTF16" = some m.cls := findClass_of_methodNamed Bd.named
  have hnm := (name_of_methodNamed Bd.named Bd.method).1
  have X0 : Stand p l e own_R_nbf s m #[(.int j)] below meth cde s₁ [] 0 0 := Stand.of_body Bd
  have e0 : s₁.heap = h0 := by rw [← hh, Bd.state]; rfl
  have N0 := Fr.nil n0
  show own_Fin p e s below (own_Q_nbf Z j n h0 n0) own_R_nbf.cells own_R_nbf.slots s₁ (entryFrame m #[(.int j)] 1)
  rw [own_ef_nbf m j]
  refine own_via (fun _ kq => XS.iloadN X0.here hx rfl (hb hby own_d135) rfl kq) ?_
  show own_Fin _ _ _ _ _ _ _ s₁ (mkF m 1 #[.val (.int j)] [(.int j)])
  obtain ⟨_, _, ⟨T1_, L1_, k1_, n1_⟩, -, X1_, ⟨Lc1_, hQ1_, l1_, y1_, z1_⟩, st1_⟩ := Jvm.LawKit.callS X0 hx (y := (⟨"java/lang/StringUTF16", "newBytesLength", "(I)I"⟩ : MethodName)) hown (mvT hZ (own_w hw 180 rfl)) (mvT hZ (own_w hw 181 rfl)) (mvT hZ (own_w hw 129 rfl)) (mvT hZ (own_w hw 182 rfl)) (by decide) (backOf (W := 0) (own_rm_nbl l Z a0 hw [] j n h0 n0 Z0 hj hn) hZ (own_w hw 182 rfl) (own_w hw 129 rfl) (by decide) (by decide)) (g := (mkF m 1 #[.val (.int j)] [(.int j)])) rfl (by rw [hml]; rfl) (argsL := [(.int j)]) (rest := []) (lenOf own_pd7 rfl) rfl (by show 2 * 0 + _ ≤ _; exact Nat.le_of_eq rfl) (hb hby own_d136) (fun _ _ => ⟨rfl, e0, (by decide : 0 + 0 ≤ _), (by decide : 0 + 0 ≤ _)⟩)
  dsimp only [Pt.U, Pt.locs, Pt.cells, Pt.slots] at X1_ l1_ y1_ z1_ st1_ hQ1_
  subst l1_ y1_ z1_
  obtain ⟨rfl, Nq1_, hh1_⟩ := hQ1_
  have N1_ := Fr.app N0 Nq1_
  refine own_via (fun _ kq => st1_ _ kq) ?_
  show own_Fin _ _ _ _ _ _ _ T1_ (mkF m 4 #[.val (.int j)] [(.int (Int32.ofNat (2 * n)))])
  obtain ⟨T2_, h2_, k2_, X2_, e2_, E2_, A2_, Ea2_, st2_⟩ := newPE X1_ hx hZ (own_w hw 23 rfl) hh1_ (g := (mkF m 4 #[.val (.int j)] [(.int (Int32.ofNat (2 * n)))])) rfl (hb hby own_d137) rfl (own_nneg rfl (by omega)) (cap := 8) (by rw [own_clamp rfl (by omega)]; omega) (by decide) (by decide) (by decide) (ad := "[B") (by decide)
  obtain ⟨b2_, g2_⟩ : ∃ z, z = h0.size := ⟨_, rfl⟩
  rw [← g2_] at A2_ st2_ Ea2_
  have V2_ : Arv Z h2_ b2_ k2_ .byte (Int32.ofNat (2 * n)) (List.replicate (2 * n) (.int (0 : Int32))) (.int (0 : Int32)) := (Arv.new A2_ (own_nneg rfl (by omega))).pad (pad_rep [] (.int (0 : Int32)) (2 * n))
  refine own_via (fun _ kq => st2_ _ kq) ?_
  show own_Fin _ _ _ _ _ _ _ T2_ (mkF m 6 #[.val (.int j)] [(.ref b2_)])
  exact own_retA X2_ hx Bd.returns Bd.notSynchronized rfl rfl (hb hby own_d138) e2_ ⟨b2_, k2_, rfl, N1_, ((Keep.refl h0 []).ext E2_), (Nat.le_of_eq g2_.symm), V2_, Ea2_⟩ (by decide) (by decide)
theorem own_d139 : decode jdk_52_method_4_code 0 = .ok (.getstatic 44, 3) := by decide +kernel
theorem own_d140 : decode jdk_52_method_4_code 3 = .ok (.ifCond .ne 25, 3) := by decide +kernel
theorem own_d141 : decode jdk_52_method_4_code 28 = .ok (.iload_n 1, 1) := by decide +kernel
theorem own_d142 : decode jdk_52_method_4_code 29 = .ok (.iconst 1, 1) := by decide +kernel
theorem own_d143 : decode jdk_52_method_4_code 30 = .ok (.ishl, 1) := by decide +kernel
theorem own_d144 : decode jdk_52_method_4_code 31 = .ok (.istore_n 1, 1) := by decide +kernel
theorem own_d145 : decode jdk_52_method_4_code 32 = .ok (.aload_n 0, 1) := by decide +kernel
theorem own_d146 : decode jdk_52_method_4_code 33 = .ok (.iload_n 1, 1) := by decide +kernel
theorem own_d147 : decode jdk_52_method_4_code 34 = .ok (.iinc 1 1, 3) := by decide +kernel
theorem own_d148 : decode jdk_52_method_4_code 37 = .ok (.iload_n 2, 1) := by decide +kernel
theorem own_d149 : decode jdk_52_method_4_code 38 = .ok (.getstatic 59, 3) := by decide +kernel
theorem own_d150 : decode jdk_52_method_4_code 41 = .ok (.ishr, 1) := by decide +kernel
theorem own_d151 : decode jdk_52_method_4_code 42 = .ok (.i2b, 1) := by decide +kernel
theorem own_d152 : decode jdk_52_method_4_code 43 = .ok (.bastore, 1) := by decide +kernel
theorem own_d153 : decode jdk_52_method_4_code 44 = .ok (.aload_n 0, 1) := by decide +kernel
theorem own_d154 : decode jdk_52_method_4_code 45 = .ok (.iload_n 1, 1) := by decide +kernel
theorem own_d155 : decode jdk_52_method_4_code 46 = .ok (.iload_n 2, 1) := by decide +kernel
theorem own_d156 : decode jdk_52_method_4_code 47 = .ok (.getstatic 63, 3) := by decide +kernel
theorem own_d157 : decode jdk_52_method_4_code 50 = .ok (.ishr, 1) := by decide +kernel
theorem own_d158 : decode jdk_52_method_4_code 51 = .ok (.i2b, 1) := by decide +kernel
theorem own_d159 : decode jdk_52_method_4_code 52 = .ok (.bastore, 1) := by decide +kernel
theorem own_d160 : decode jdk_52_method_4_code 53 = .ok (.return_, 1) := by decide +kernel
theorem own_ef_putCh (m : MethodId) (t : Addr) (j : Int32) (c : Int32) : entryFrame m #[(.ref t), (.int j), (.int c)] 3 = mkF m 0 #[.val (.ref t), .val (.int j), .val (.int c)] [] := by (first | (simp [entryFrame, mkF, argsToLocals, Value.category]; done) | rfl)
def own_Q_putCh (Z : State) (t : Addr) (kt : ClassId) (N2 : Int32) (ws : List Value) (c : Int32) (j : Int32) (i : Nat) (n : Nat) (h0 : Heap) (n0 : Nat) (vq : Option Value) (h : Heap) (Lq : List Loc) : Prop := (vq = none) ∧ (Fr n0 Lq) ∧ (Keep h0 h [t]) ∧ (Arv Z h t kt .byte N2 ((ws.set (2 * i) (.int (own_lo c))).set (2 * i + 1) (.int (own_hi c))) (.int 0))
abbrev own_R_putCh : Room := { frames := 0, cells := 0, slots := 0, locals := 0 }
set_option maxRecDepth 65536 in
set_option maxHeartbeats 40000000 in
theorem own_rm_putCh (l : Launch) (Z : State) (a0 : Array Value) (hw : ∀ d ∈ tables_1, d.before a0 Z = true) (wsq : List Jvm.Cond) (t : Addr) (kt : ClassId) (N2 : Int32) (ws : List Value) (c : Int32) (j : Int32) (i : Nat) (n : Nat) (h0 : Heap) (n0 : Nat) (Z0 : n0 ≤ h0.size) (O0 : Old Z n0 h0) (S3 : Sta Z Z.heap "java/lang/StringUTF16" "$assertionsDisabled" "Z" (.int (1 : Int32))) (S4 : Sta Z Z.heap "java/lang/StringUTF16" "HI_BYTE_SHIFT" "I" (.int (0 : Int32))) (S5 : Sta Z Z.heap "java/lang/StringUTF16" "LO_BYTE_SHIFT" "I" (.int (8 : Int32))) (Va : Arv Z h0 t kt .byte N2 ws (.int 0)) (gt : n0 ≤ t) (hj : j = Int32.ofNat i) (hi : i < n) (hn : n ≤ 4000) (hN : N2 = Int32.ofNat (2 * n)) (hwl : ws.length = 2 * n) :
    MetFree l (⟨"java/lang/StringUTF16", "putChar", "([BII)V"⟩ : MethodName) (head1 (Jvm.Cond.code (⟨"java/lang/StringUTF16", "putChar", "([BII)V"⟩ : MethodName) jdk_52_method_4_code 3 none :: wsq) own_R_putCh) (fun aq Uq => aq = #[(.ref t), (.int j), (.int c)] ∧ Z.Warmed39 Uq.vm ∧ Uq.heap = h0) (fun _ _ _ _ _ => True) (fun _ Uq oq Uq' => ∃ vq Lq, oq = .returned vq ∧ own_Q_putCh Z t kt N2 ws c j i n h0 n0 vq Uq'.heap Lq ∧ FrameEnd Uq oq Uq' Lq own_R_putCh.cells own_R_putCh.slots) := by
  refine MetFree.of_bodySF (plainFor_of_name own_pn3) hisR ?_
  intro p e s m args below meth cde s₁ Bd hml0 hP hK
  obtain ⟨rfl, hZ, hh⟩ := hP
  have hx := Bd.exec
  have hby := Bd.bytes
  have hml : cde.maxLocals = 3 := hml0
  have hown : s.vm.findClass "java/lang/StringUTF16" = some m.cls := findClass_of_methodNamed Bd.named
  have hnm := (name_of_methodNamed Bd.named Bd.method).1
  have X0 : Stand p l e own_R_putCh s m #[(.ref t), (.int j), (.int c)] below meth cde s₁ [] 0 0 := Stand.of_body Bd
  have e0 : s₁.heap = h0 := by rw [← hh, Bd.state]; rfl
  have N0 := Fr.nil n0
  show own_Fin p e s below (own_Q_putCh Z t kt N2 ws c j i n h0 n0) own_R_putCh.cells own_R_putCh.slots s₁ (entryFrame m #[(.ref t), (.int j), (.int c)] 3)
  rw [own_ef_putCh m t j c]
  obtain ⟨T1_, X1_, e1_, st1_⟩ := getS2 X0 hx hZ hown (host := "") (Or.inl (own_w hw 187 rfl)) Via.refl e0 (S3.ext O0.2) (g := (mkF m 0 #[.val (.ref t), .val (.int j), .val (.int c)] [])) rfl (hb hby own_d139)
  refine own_via (fun _ kq => st1_ _ kq) ?_
  show own_Fin _ _ _ _ _ _ _ T1_ (mkF m 3 #[.val (.ref t), .val (.int j), .val (.int c)] [(.int (1 : Int32))])
  refine own_via (fun _ kq => XS.ifYes X1_.here hx rfl (pc0 := 3) (pc' := 28) rfl (hb hby own_d140) rfl ((if0 _ _).trans (feq (by decide)).2) (by decide) (by decide) kq) ?_
  show own_Fin _ _ _ _ _ _ _ T1_ (mkF m 28 #[.val (.ref t), .val (.int j), .val (.int c)] [])
  refine own_via (fun _ kq => XS.iloadN X1_.here hx rfl (hb hby own_d141) rfl kq) ?_
  refine own_via (fun _ kq => XS.iconst X1_.here hx rfl (hb hby own_d142) kq) ?_
  refine own_via (fun _ kq => XS.ishl X1_.here hx rfl (hb hby own_d143) rfl kq) ?_
  refine own_via (fun _ kq => XS.istoreN X1_.here hx rfl (hb hby own_d144) rfl (l' := #[.val (.ref t), .val (.int (j <<< ((1 : Int32) &&& 31))), .val (.int c)]) rfl kq) ?_
  refine own_via (fun _ kq => XS.aloadN X1_.here hx rfl (hb hby own_d145) rfl rfl kq) ?_
  refine own_via (fun _ kq => XS.iloadN X1_.here hx rfl (hb hby own_d146) rfl kq) ?_
  refine own_via (fun _ kq => XS.iinc X1_.here hx rfl (hb hby own_d147) rfl (l' := #[.val (.ref t), .val (.int ((j <<< ((1 : Int32) &&& 31)) + (1 : Int32))), .val (.int c)]) rfl kq) ?_
  refine own_via (fun _ kq => XS.iloadN X1_.here hx rfl (hb hby own_d148) rfl kq) ?_
  show own_Fin _ _ _ _ _ _ _ T1_ (mkF m 38 #[.val (.ref t), .val (.int ((j <<< ((1 : Int32) &&& 31)) + (1 : Int32))), .val (.int c)] [(.int c), (.int (j <<< ((1 : Int32) &&& 31))), (.ref t)])
  obtain ⟨T2_, X2_, e2_, st2_⟩ := getS2 X1_ hx hZ hown (host := "") (Or.inl (own_w hw 188 rfl)) Via.refl e1_ (S4.ext O0.2) (g := (mkF m 38 #[.val (.ref t), .val (.int ((j <<< ((1 : Int32) &&& 31)) + (1 : Int32))), .val (.int c)] [(.int c), (.int (j <<< ((1 : Int32) &&& 31))), (.ref t)])) rfl (hb hby own_d149)
  refine own_via (fun _ kq => st2_ _ kq) ?_
  show own_Fin _ _ _ _ _ _ _ T2_ (mkF m 41 #[.val (.ref t), .val (.int ((j <<< ((1 : Int32) &&& 31)) + (1 : Int32))), .val (.int c)] [(.int (0 : Int32)), (.int c), (.int (j <<< ((1 : Int32) &&& 31))), (.ref t)])
  refine own_via (fun _ kq => XS.ishr X2_.here hx rfl (hb hby own_d150) rfl kq) ?_
  refine own_via (fun _ kq => XS.i2b X2_.here hx rfl (hb hby own_d151) rfl kq) ?_
  show own_Fin _ _ _ _ _ _ _ T2_ (mkF m 43 #[.val (.ref t), .val (.int ((j <<< ((1 : Int32) &&& 31)) + (1 : Int32))), .val (.int c)] [(.int ((c >>> ((0 : Int32) &&& 31)).toInt8.toInt32)), (.int (j <<< ((1 : Int32) &&& 31))), (.ref t)])
  obtain ⟨c3_, Ar3_, q3_, S3_, M3_, H3_, G3_⟩ := (id Va)
  have hin3_ : ¬ ((j <<< ((1 : Int32) &&& 31)) < 0 ∨ c3_.slots.size ≤ ((j <<< ((1 : Int32) &&& 31))).toNatClampNeg) := inb_of S3_ (own_shin hj hN hi hn)
  obtain ⟨T3_, h3_, X3_, e3_, W3_, st3_⟩ := stB X2_ hx hZ e2_ Ar3_ (j := (j <<< ((1 : Int32) &&& 31))) hin3_ (g := (mkF m 43 #[.val (.ref t), .val (.int ((j <<< ((1 : Int32) &&& 31)) + (1 : Int32))), .val (.int c)] [(.int ((c >>> ((0 : Int32) &&& 31)).toInt8.toInt32)), (.int (j <<< ((1 : Int32) &&& 31))), (.ref t)])) rfl rfl (hb hby own_d152)
  have V3_ := Arv.set Ar3_ q3_ S3_ M3_ H3_ G3_ (fits_nar_byte _) W3_ (2 * i) (own_sh1 hj (by omega)) (by omega)
  have U3_ : Arv Z h3_ t kt .byte N2 ((ws).set (2 * i) (.int (own_lo c))) (.int 0) := by
    have hq := V3_
    rw [show ((c >>> ((0 : Int32) &&& 31)).toInt8.toInt32).toInt8.toInt32 = (own_lo c) from (own_st0 _)] at hq
    exact hq
  have N3_ := Fr.snoc X3_ N0 gt
  refine own_via (fun _ kq => st3_ _ kq) ?_
  show own_Fin _ _ _ _ _ _ _ T3_ (mkF m 44 #[.val (.ref t), .val (.int ((j <<< ((1 : Int32) &&& 31)) + (1 : Int32))), .val (.int c)] [])
  refine own_via (fun _ kq => XS.aloadN X3_.here hx rfl (hb hby own_d153) rfl rfl kq) ?_
  refine own_via (fun _ kq => XS.iloadN X3_.here hx rfl (hb hby own_d154) rfl kq) ?_
  refine own_via (fun _ kq => XS.iloadN X3_.here hx rfl (hb hby own_d155) rfl kq) ?_
  show own_Fin _ _ _ _ _ _ _ T3_ (mkF m 47 #[.val (.ref t), .val (.int ((j <<< ((1 : Int32) &&& 31)) + (1 : Int32))), .val (.int c)] [(.int c), (.int ((j <<< ((1 : Int32) &&& 31)) + (1 : Int32))), (.ref t)])
  obtain ⟨T4_, X4_, e4_, st4_⟩ := getS2 X3_ hx hZ hown (host := "") (Or.inl (own_w hw 189 rfl)) Via.refl e3_ (S5.ext (O0.wr W3_ gt).2) (g := (mkF m 47 #[.val (.ref t), .val (.int ((j <<< ((1 : Int32) &&& 31)) + (1 : Int32))), .val (.int c)] [(.int c), (.int ((j <<< ((1 : Int32) &&& 31)) + (1 : Int32))), (.ref t)])) rfl (hb hby own_d156)
  refine own_via (fun _ kq => st4_ _ kq) ?_
  show own_Fin _ _ _ _ _ _ _ T4_ (mkF m 50 #[.val (.ref t), .val (.int ((j <<< ((1 : Int32) &&& 31)) + (1 : Int32))), .val (.int c)] [(.int (8 : Int32)), (.int c), (.int ((j <<< ((1 : Int32) &&& 31)) + (1 : Int32))), (.ref t)])
  refine own_via (fun _ kq => XS.ishr X4_.here hx rfl (hb hby own_d157) rfl kq) ?_
  refine own_via (fun _ kq => XS.i2b X4_.here hx rfl (hb hby own_d158) rfl kq) ?_
  show own_Fin _ _ _ _ _ _ _ T4_ (mkF m 52 #[.val (.ref t), .val (.int ((j <<< ((1 : Int32) &&& 31)) + (1 : Int32))), .val (.int c)] [(.int ((c >>> ((8 : Int32) &&& 31)).toInt8.toInt32)), (.int ((j <<< ((1 : Int32) &&& 31)) + (1 : Int32))), (.ref t)])
  obtain ⟨c5_, Ar5_, q5_, S5_, M5_, H5_, G5_⟩ := (id U3_)
  have hin5_ : ¬ (((j <<< ((1 : Int32) &&& 31)) + (1 : Int32)) < 0 ∨ c5_.slots.size ≤ (((j <<< ((1 : Int32) &&& 31)) + (1 : Int32))).toNatClampNeg) := inb_of S5_ (own_shin2 hj hN hi hn)
  obtain ⟨T5_, h5_, X5_, e5_, W5_, st5_⟩ := stB X4_ hx hZ e4_ Ar5_ (j := ((j <<< ((1 : Int32) &&& 31)) + (1 : Int32))) hin5_ (g := (mkF m 52 #[.val (.ref t), .val (.int ((j <<< ((1 : Int32) &&& 31)) + (1 : Int32))), .val (.int c)] [(.int ((c >>> ((8 : Int32) &&& 31)).toInt8.toInt32)), (.int ((j <<< ((1 : Int32) &&& 31)) + (1 : Int32))), (.ref t)])) rfl rfl (hb hby own_d159)
  have V5_ := Arv.set Ar5_ q5_ S5_ M5_ H5_ G5_ (fits_nar_byte _) W5_ (2 * i + 1) (own_sh2 hj (by omega)) (by rw [List.length_set]; omega)
  have U5_ : Arv Z h5_ t kt .byte N2 ((((ws).set (2 * i) (.int (own_lo c)))).set (2 * i + 1) (.int (own_hi c))) (.int 0) := by
    have hq := V5_
    rw [show ((c >>> ((8 : Int32) &&& 31)).toInt8.toInt32).toInt8.toInt32 = (own_hi c) from (own_st8 _)] at hq
    exact hq
  have N5_ := Fr.snoc X5_ N3_ gt
  refine own_via (fun _ kq => st5_ _ kq) ?_
  show own_Fin _ _ _ _ _ _ _ T5_ (mkF m 53 #[.val (.ref t), .val (.int ((j <<< ((1 : Int32) &&& 31)) + (1 : Int32))), .val (.int c)] [])
  exact own_ret0 X5_ hx Bd.returns Bd.notSynchronized (hb hby own_d160) e5_ ⟨rfl, N5_, (((Keep.refl h0 [t]).wr W3_ (Or.inl (List.mem_of_getElem? (i := 0) rfl))).wr W5_ (Or.inl (List.mem_of_getElem? (i := 0) rfl))), U5_⟩ (by decide) (by decide)
theorem own_d161 : decode jdk_52_method_14_code 0 = .ok (.iload_n 2, 1) := by decide +kernel
theorem own_d162 : decode jdk_52_method_14_code 1 = .ok (.invokestatic 107, 3) := by decide +kernel
theorem own_pd8 : parseMethodDescriptor "(I)[B" = some ⟨[.int], some (.array .byte)⟩ := by decide +kernel
theorem own_d163 : decode jdk_52_method_14_code 4 = .ok (.astore_n 3, 1) := by decide +kernel
theorem own_d164 : decode jdk_52_method_14_code 5 = .ok (.iconst 0, 1) := by decide +kernel
theorem own_d165 : decode jdk_52_method_14_code 6 = .ok (.istore 4, 2) := by decide +kernel
theorem own_d166 : decode jdk_52_method_14_code 8 = .ok (.iload 4, 2) := by decide +kernel
theorem own_d167 : decode jdk_52_method_14_code 10 = .ok (.iload_n 2, 1) := by decide +kernel
theorem own_d168 : decode jdk_52_method_14_code 11 = .ok (.if_icmp .ge 21, 3) := by decide +kernel
theorem own_d169 : decode jdk_52_method_14_code 32 = .ok (.aload_n 3, 1) := by decide +kernel
theorem own_d170 : decode jdk_52_method_14_code 33 = .ok (.areturn, 1) := by decide +kernel
theorem own_d171 : decode jdk_52_method_14_code 14 = .ok (.aload_n 3, 1) := by decide +kernel
theorem own_d172 : decode jdk_52_method_14_code 15 = .ok (.iload 4, 2) := by decide +kernel
theorem own_d173 : decode jdk_52_method_14_code 17 = .ok (.aload_n 0, 1) := by decide +kernel
theorem own_d174 : decode jdk_52_method_14_code 18 = .ok (.iload_n 1, 1) := by decide +kernel
theorem own_d175 : decode jdk_52_method_14_code 19 = .ok (.caload, 1) := by decide +kernel
theorem own_d176 : decode jdk_52_method_14_code 20 = .ok (.invokestatic 111, 3) := by decide +kernel
theorem own_pd9 : parseMethodDescriptor "([BII)V" = some ⟨[(.array .byte), .int, .int], none⟩ := by decide +kernel
theorem own_d177 : decode jdk_52_method_14_code 23 = .ok (.iinc 1 1, 3) := by decide +kernel
theorem own_d178 : decode jdk_52_method_14_code 26 = .ok (.iinc 4 1, 3) := by decide +kernel
theorem own_d179 : decode jdk_52_method_14_code 29 = .ok (.goto (-21), 3) := by decide +kernel
theorem own_ef_toBy (m : MethodId) (a : Addr) (N : Int32) : entryFrame m #[(.ref a), (.int (0 : Int32)), (.int N)] 5 = mkF m 0 #[.val (.ref a), .val (.int (0 : Int32)), .val (.int N), .unset, .unset] [] := by (first | (simp [entryFrame, mkF, argsToLocals, Value.category]; done) | rfl)
def own_Q_toBy (Z : State) (a : Addr) (ka : ClassId) (N : Int32) (cs : List Int32) (h0 : Heap) (n0 : Nat) (vq : Option Value) (h : Heap) (Lq : List Loc) : Prop := ∃ (t : Addr) (kt : ClassId) (ws : List Value), (vq = some (.ref t)) ∧ (Fr n0 Lq) ∧ (Keep h0 h []) ∧ (h0.size ≤ t) ∧ (Arv Z h t kt .byte (Int32.ofNat (2 * cs.length)) ws (.int 0)) ∧ (own_wide cs ws)
abbrev own_R_toBy : Room := { frames := 2, cells := 1, slots := 8, locals := 24 }
set_option maxRecDepth 65536 in
set_option maxHeartbeats 40000000 in
theorem own_rm_toBy (l : Launch) (Z : State) (a0 : Array Value) (hw : ∀ d ∈ tables_1, d.before a0 Z = true) (wsq : List Jvm.Cond) (a : Addr) (ka : ClassId) (N : Int32) (cs : List Int32) (h0 : Heap) (n0 : Nat) (Z0 : n0 ≤ h0.size) (O0 : Old Z n0 h0) (S3 : Sta Z Z.heap "java/lang/StringUTF16" "$assertionsDisabled" "Z" (.int (1 : Int32))) (S4 : Sta Z Z.heap "java/lang/StringUTF16" "HI_BYTE_SHIFT" "I" (.int (0 : Int32))) (S5 : Sta Z Z.heap "java/lang/StringUTF16" "LO_BYTE_SHIFT" "I" (.int (8 : Int32))) (Vc : Arv Z h0 a ka .char N (cs.map Value.int) (.int 0)) (hN : N = Int32.ofNat cs.length) (hn : cs.length ≤ 4) (hp : 0 < cs.length) (hr : own_chs cs) :
    MetFree l (⟨"java/lang/StringUTF16", "toBytes", "([CII)[B"⟩ : MethodName) (head1 (Jvm.Cond.code (⟨"java/lang/StringUTF16", "toBytes", "([CII)[B"⟩ : MethodName) jdk_52_method_14_code 5 (some (.array .byte)) :: wsq) own_R_toBy) (fun aq Uq => aq = #[(.ref a), (.int (0 : Int32)), (.int N)] ∧ Z.Warmed39 Uq.vm ∧ Uq.heap = h0) (fun _ _ _ _ _ => True) (fun _ Uq oq Uq' => ∃ vq Lq, oq = .returned vq ∧ own_Q_toBy Z a ka N cs h0 n0 vq Uq'.heap Lq ∧ FrameEnd Uq oq Uq' Lq own_R_toBy.cells own_R_toBy.slots) := by
  refine MetFree.of_bodySF (plainFor_of_name own_pn3) hisR ?_
  intro p e s m args below meth cde s₁ Bd hml0 hP hK
  obtain ⟨rfl, hZ, hh⟩ := hP
  have hx := Bd.exec
  have hby := Bd.bytes
  have hml : cde.maxLocals = 5 := hml0
  have hown : s.vm.findClass "java/lang/StringUTF16" = some m.cls := findClass_of_methodNamed Bd.named
  have hnm := (name_of_methodNamed Bd.named Bd.method).1
  have X0 : Stand p l e own_R_toBy s m #[(.ref a), (.int (0 : Int32)), (.int N)] below meth cde s₁ [] 0 0 := Stand.of_body Bd
  have e0 : s₁.heap = h0 := by rw [← hh, Bd.state]; rfl
  have N0 := Fr.nil n0
  show own_Fin p e s below (own_Q_toBy Z a ka N cs h0 n0) own_R_toBy.cells own_R_toBy.slots s₁ (entryFrame m #[(.ref a), (.int (0 : Int32)), (.int N)] 5)
  rw [own_ef_toBy m a N]
  refine own_via (fun _ kq => XS.iloadN X0.here hx rfl (hb hby own_d161) rfl kq) ?_
  show own_Fin _ _ _ _ _ _ _ s₁ (mkF m 1 #[.val (.ref a), .val (.int (0 : Int32)), .val (.int N), .unset, .unset] [(.int N)])
  obtain ⟨_, _, ⟨T1_, L1_, k1_, n1_⟩, -, X1_, ⟨Lc1_, hQ1_, l1_, y1_, z1_⟩, st1_⟩ := Jvm.LawKit.callS X0 hx (y := (⟨"java/lang/StringUTF16", "newBytesFor", "(I)[B"⟩ : MethodName)) hown (mvT hZ (own_w hw 177 rfl)) (mvT hZ (own_w hw 178 rfl)) (mvT hZ (own_w hw 129 rfl)) (mvT hZ (own_w hw 179 rfl)) (by decide) (backOf (W := 0) (own_rm_nbf l Z a0 hw [] N cs.length h0 n0 Z0 hN hn) hZ (own_w hw 179 rfl) (own_w hw 129 rfl) (by decide) (by decide)) (g := (mkF m 1 #[.val (.ref a), .val (.int (0 : Int32)), .val (.int N), .unset, .unset] [(.int N)])) rfl (by rw [hml]; rfl) (argsL := [(.int N)]) (rest := []) (lenOf own_pd8 rfl) rfl (by show 2 * 0 + _ ≤ _; exact Nat.le_of_eq rfl) (hb hby own_d162) (fun _ _ => ⟨rfl, e0, (by decide : 0 + 1 ≤ _), (by decide : 0 + 8 ≤ _)⟩)
  dsimp only [Pt.U, Pt.locs, Pt.cells, Pt.slots] at X1_ l1_ y1_ z1_ st1_ hQ1_
  subst l1_ y1_ z1_
  obtain ⟨t, kt, rfl, Nq1_, K1_, r2_, r3_, r4_⟩ := hQ1_
  have N1_ := Fr.app N0 Nq1_
  refine own_via (fun _ kq => st1_ _ kq) ?_
  show own_Fin _ _ _ _ _ _ _ T1_ (mkF m 4 #[.val (.ref a), .val (.int (0 : Int32)), .val (.int N), .unset, .unset] [(.ref t)])
  refine own_via (fun _ kq => XS.astoreN X1_.here hx rfl (hb hby own_d163) rfl rfl (l' := #[.val (.ref a), .val (.int (0 : Int32)), .val (.int N), .val (.ref t), .unset]) rfl kq) ?_
  refine own_via (fun _ kq => XS.iconst X1_.here hx rfl (hb hby own_d164) kq) ?_
  refine own_via (fun _ kq => XS.istore X1_.here hx rfl (hb hby own_d165) rfl (l' := #[.val (.ref a), .val (.int (0 : Int32)), .val (.int N), .val (.ref t), .val (.int (0 : Int32))]) rfl kq) ?_
  have szt : h0.size ≤ t := r2_
  have q5_ : a ≠ t := Nat.ne_of_lt (Nat.lt_of_lt_of_le Vc.lt r2_)
  have g6_ : n0 ≤ t := Nat.le_trans Z0 r2_
  have lp : ∀ (k : Nat) (i : Nat) (j : Int32) (ws : List Value) (Tl : State) (locl : List Loc) (Xl : Stand p l e own_R_toBy s m #[(.ref a), (.int (0 : Int32)), (.int N)] below meth cde Tl locl (0 + 1) (0 + 8)) (Nl : Fr n0 locl) (hl : Heap) (el : Tl.heap = hl) (Kl : Keep h0 hl []) (Ol : Old Z n0 hl) (Vl : Arv Z hl a ka .char N (cs.map Value.int) (.int 0)) (Vm : Arv Z hl t kt .byte (Int32.ofNat (2 * cs.length)) ws (.int 0)) (hj : j = Int32.ofNat i) (hi : i ≤ cs.length) (hk : cs.length ≤ i + k) (hwl : ws.length = 2 * cs.length) (hh_ : ∀ q, q < i → ws.getD (2 * q) (.int 0) = .int (own_lo (cs.getD q 0)) ∧ ws.getD (2 * q + 1) (.int 0) = .int (own_hi (cs.getD q 0))), own_Fin p e s below (own_Q_toBy Z a ka N cs h0 n0) own_R_toBy.cells own_R_toBy.slots Tl (mkF m 8 #[.val (.ref a), .val (.int j), .val (.int N), .val (.ref t), .val (.int j)] []) := by
    intro k
    induction k with
    | zero =>
      intro i j ws Tl locl Xl Nl hl el Kl Ol Vl Vm hj hi hk hwl hh_
      have Zl : n0 ≤ hl.size := Nat.le_trans Z0 Kl.1
      refine own_via (fun _ kq => XS.iload Xl.here hx rfl (hb hby own_d166) rfl kq) ?_
      refine own_via (fun _ kq => XS.iloadN Xl.here hx rfl (hb hby own_d167) rfl kq) ?_
      refine own_via (fun _ kq => XS.icmpYes Xl.here hx rfl (pc0 := 11) (pc' := 32) rfl (hb hby own_d168) rfl (flt (fun q => absurd ((own_ltN hj hN (by omega) (by omega)).mp q) (by omega))).2.1 (by decide) (by decide) kq) ?_
      show own_Fin _ _ _ _ _ _ _ Tl (mkF m 32 #[.val (.ref a), .val (.int j), .val (.int N), .val (.ref t), .val (.int j)] [])
      refine own_via (fun _ kq => XS.aloadN Xl.here hx rfl (hb hby own_d169) rfl rfl kq) ?_
      show own_Fin _ _ _ _ _ _ _ Tl (mkF m 33 #[.val (.ref a), .val (.int j), .val (.int N), .val (.ref t), .val (.int j)] [(.ref t)])
      exact own_retA Xl hx Bd.returns Bd.notSynchronized rfl rfl (hb hby own_d170) el ⟨t, kt, ws, rfl, Nl, Kl, szt, Vm, (fun q hq => hh_ q (by omega))⟩ (by decide) (by decide)
    | succ k ih =>
      intro i j ws Tl locl Xl Nl hl el Kl Ol Vl Vm hj hi hk hwl hh_
      have Zl : n0 ≤ hl.size := Nat.le_trans Z0 Kl.1
      refine own_via (fun _ kq => XS.iload Xl.here hx rfl (hb hby own_d166) rfl kq) ?_
      refine own_via (fun _ kq => XS.iloadN Xl.here hx rfl (hb hby own_d167) rfl kq) ?_
      rcases Classical.em (j < N) with hg | hg
      · refine own_via (fun _ kq => XS.icmpNo Xl.here hx rfl (hb hby own_d168) rfl (tlt hg).2.1 kq) ?_
        show own_Fin _ _ _ _ _ _ _ Tl (mkF m 14 #[.val (.ref a), .val (.int j), .val (.int N), .val (.ref t), .val (.int j)] [])
        have hlt : i < cs.length := (own_ltN hj hN (by omega) (by omega)).mp hg
        refine own_via (fun _ kq => XS.aloadN Xl.here hx rfl (hb hby own_d171) rfl rfl kq) ?_
        refine own_via (fun _ kq => XS.iload Xl.here hx rfl (hb hby own_d172) rfl kq) ?_
        refine own_via (fun _ kq => XS.aloadN Xl.here hx rfl (hb hby own_d173) rfl rfl kq) ?_
        refine own_via (fun _ kq => XS.iloadN Xl.here hx rfl (hb hby own_d174) rfl kq) ?_
        show own_Fin _ _ _ _ _ _ _ Tl (mkF m 19 #[.val (.ref a), .val (.int j), .val (.int N), .val (.ref t), .val (.int j)] [(.int j), (.ref a), (.int j), (.ref t)])
        obtain ⟨c7_, Ar7_, q7_, S7_, M7_, H7_, G7_⟩ := (id Vl)
        have hin7_ : ¬ (j < 0 ∨ c7_.slots.size ≤ (j).toNatClampNeg) := inb_of S7_ (own_inb hj hN hlt (by omega))
        have hat7_ : c7_.slots[(j).toNatClampNeg]? = some (.int (cs.getD i 0)) := H7_.at hin7_ (own_el hj (by omega))
        refine own_via (fun _ kq => Xl.caload hx (j := j) (v := (.int (cs.getD i 0))) (own_eq el Ar7_.1) (State.isArrayOf_alike hZ.alike Ar7_.2.1) Ar7_.2.2 hin7_ hat7_ (g := (mkF m 19 #[.val (.ref a), .val (.int j), .val (.int N), .val (.ref t), .val (.int j)] [(.int j), (.ref a), (.int j), (.ref t)])) rfl rfl (hb hby own_d175) _ kq) ?_
        show own_Fin _ _ _ _ _ _ _ Tl (mkF m 20 #[.val (.ref a), .val (.int j), .val (.int N), .val (.ref t), .val (.int j)] [(.int (cs.getD i 0)), (.int j), (.ref t)])
        obtain ⟨_, _, ⟨T8_, L8_, k8_, n8_⟩, -, X8_, ⟨Lc8_, hQ8_, l8_, y8_, z8_⟩, st8_⟩ := Jvm.LawKit.callS Xl hx (y := (⟨"java/lang/StringUTF16", "putChar", "([BII)V"⟩ : MethodName)) hown (mvT hZ (own_w hw 184 rfl)) (mvT hZ (own_w hw 185 rfl)) (mvT hZ (own_w hw 129 rfl)) (mvT hZ (own_w hw 186 rfl)) (by decide) (backOf (W := 0) (own_rm_putCh l Z a0 hw [] t kt (Int32.ofNat (2 * cs.length)) ws (cs.getD i 0) j i cs.length hl n0 Zl Ol S3 S4 S5 Vm g6_ hj hlt (by omega) rfl hwl) hZ (own_w hw 186 rfl) (own_w hw 129 rfl) (by decide) (by decide)) (g := (mkF m 20 #[.val (.ref a), .val (.int j), .val (.int N), .val (.ref t), .val (.int j)] [(.int (cs.getD i 0)), (.int j), (.ref t)])) rfl (by rw [hml]; rfl) (argsL := [(.ref t), (.int j), (.int (cs.getD i 0))]) (rest := []) (lenOf own_pd9 rfl) rfl (by show 2 * 0 + _ ≤ _; exact Nat.le_of_eq rfl) (hb hby own_d176) (fun _ _ => ⟨rfl, el, (by decide : (0 + 1) + 0 ≤ _), (by decide : (0 + 8) + 0 ≤ _)⟩)
        dsimp only [Pt.U, Pt.locs, Pt.cells, Pt.slots] at X8_ l8_ y8_ z8_ st8_ hQ8_
        subst l8_ y8_ z8_
        obtain ⟨rfl, Nq8_, K8_, r9_⟩ := hQ8_
        have N8_ := Fr.app Nl Nq8_
        refine own_via (fun _ kq => st8_ _ kq) ?_
        show own_Fin _ _ _ _ _ _ _ T8_ (mkF m 23 #[.val (.ref a), .val (.int j), .val (.int N), .val (.ref t), .val (.int j)] [])
        refine own_via (fun _ kq => XS.iinc X8_.here hx rfl (hb hby own_d177) rfl (l' := #[.val (.ref a), .val (.int (j + (1 : Int32))), .val (.int N), .val (.ref t), .val (.int j)]) rfl kq) ?_
        refine own_via (fun _ kq => XS.iinc X8_.here hx rfl (hb hby own_d178) rfl (l' := #[.val (.ref a), .val (.int (j + (1 : Int32))), .val (.int N), .val (.ref t), .val (.int (j + (1 : Int32)))]) rfl kq) ?_
        refine own_via (fun _ kq => XS.goto X8_.here hx rfl (pc0 := 29) (pc' := 8) rfl (hb hby own_d179) (by decide) (by decide) kq) ?_
        exact ih (i + 1) (j + (1 : Int32)) ((ws.set (2 * i) (.int (own_lo (cs.getD i 0)))).set (2 * i + 1) (.int (own_hi (cs.getD i 0)))) T8_ _ X8_ N8_ _ rfl (Kl.trans K8_ (allS (Or.inr szt) all0)) (Ol.keep K8_ (allS g6_ all0)) (Vl.keep K8_ (ninS q5_ nin0)) r9_ (own_succ hj) (by omega) (by omega) (by rw [List.length_set, List.length_set]; exact hwl) (own_set2 hh_ (by omega))
      · refine own_via (fun _ kq => XS.icmpYes Xl.here hx rfl (pc0 := 11) (pc' := 32) rfl (hb hby own_d168) rfl (flt hg).2.1 (by decide) (by decide) kq) ?_
        show own_Fin _ _ _ _ _ _ _ Tl (mkF m 32 #[.val (.ref a), .val (.int j), .val (.int N), .val (.ref t), .val (.int j)] [])
        have hge : cs.length ≤ i := Nat.le_of_not_lt fun q => hg ((own_ltN hj hN (by omega) (by omega)).mpr q)
        refine own_via (fun _ kq => XS.aloadN Xl.here hx rfl (hb hby own_d169) rfl rfl kq) ?_
        show own_Fin _ _ _ _ _ _ _ Tl (mkF m 33 #[.val (.ref a), .val (.int j), .val (.int N), .val (.ref t), .val (.int j)] [(.ref t)])
        exact own_retA Xl hx Bd.returns Bd.notSynchronized rfl rfl (hb hby own_d170) el ⟨t, kt, ws, rfl, Nl, Kl, szt, Vm, (fun q hq => hh_ q (by omega))⟩ (by decide) (by decide)
  exact lp cs.length 0 (0 : Int32) (List.replicate (2 * cs.length) (.int 0)) T1_ _ X1_ N1_ _ rfl ((Keep.refl h0 []).trans K1_ all0) (O0.keep K1_ all0) (Vc.keep K1_ nin0) r3_ rfl (by omega) (by omega) List.length_replicate (fun q hq => absurd hq (Nat.not_lt_zero q))
theorem own_d180 : decode jdk_52_method_16_code 0 = .ok (.iload_n 2, 1) := by decide +kernel
theorem own_d181 : decode jdk_52_method_16_code 1 = .ok (.newarray .byte, 2) := by decide +kernel
theorem own_d182 : decode jdk_52_method_16_code 3 = .ok (.astore_n 3, 1) := by decide +kernel
theorem own_d183 : decode jdk_52_method_16_code 4 = .ok (.aload_n 0, 1) := by decide +kernel
theorem own_d184 : decode jdk_52_method_16_code 5 = .ok (.iload_n 1, 1) := by decide +kernel
theorem own_d185 : decode jdk_52_method_16_code 6 = .ok (.aload_n 3, 1) := by decide +kernel
theorem own_d186 : decode jdk_52_method_16_code 7 = .ok (.iconst 0, 1) := by decide +kernel
theorem own_d187 : decode jdk_52_method_16_code 8 = .ok (.iload_n 2, 1) := by decide +kernel
theorem own_d188 : decode jdk_52_method_16_code 9 = .ok (.invokestatic 115, 3) := by decide +kernel
theorem own_pd10 : parseMethodDescriptor "([CI[BII)I" = some ⟨[(.array .char), .int, (.array .byte), .int, .int], some .int⟩ := by decide +kernel
theorem own_d189 : decode jdk_52_method_16_code 12 = .ok (.istore 4, 2) := by decide +kernel
theorem own_d190 : decode jdk_52_method_16_code 14 = .ok (.iload 4, 2) := by decide +kernel
theorem own_d191 : decode jdk_52_method_16_code 16 = .ok (.iload_n 2, 1) := by decide +kernel
theorem own_d192 : decode jdk_52_method_16_code 17 = .ok (.if_icmp .eq 40, 3) := by decide +kernel
theorem own_d193 : decode jdk_52_method_16_code 57 = .ok (.aload_n 3, 1) := by decide +kernel
theorem own_d194 : decode jdk_52_method_16_code 58 = .ok (.areturn, 1) := by decide +kernel
theorem own_d195 : decode jdk_52_method_16_code 20 = .ok (.aload_n 0, 1) := by decide +kernel
theorem own_d196 : decode jdk_52_method_16_code 21 = .ok (.iload_n 1, 1) := by decide +kernel
theorem own_d197 : decode jdk_52_method_16_code 22 = .ok (.iload_n 2, 1) := by decide +kernel
theorem own_d198 : decode jdk_52_method_16_code 23 = .ok (.invokestatic 119, 3) := by decide +kernel
theorem own_pd11 : parseMethodDescriptor "([CII)[B" = some ⟨[(.array .char), .int, .int], some (.array .byte)⟩ := by decide +kernel
theorem own_d199 : decode jdk_52_method_16_code 26 = .ok (.astore 5, 2) := by decide +kernel
theorem own_d200 : decode jdk_52_method_16_code 28 = .ok (.aload 5, 2) := by decide +kernel
theorem own_d201 : decode jdk_52_method_16_code 30 = .ok (.iload 4, 2) := by decide +kernel
theorem own_d202 : decode jdk_52_method_16_code 32 = .ok (.invokestatic 71, 3) := by decide +kernel
theorem own_d203 : decode jdk_52_method_16_code 35 = .ok (.sipush 255, 3) := by decide +kernel
theorem own_d204 : decode jdk_52_method_16_code 38 = .ok (.if_icmp .gt 16, 3) := by decide +kernel
theorem own_d205 : decode jdk_52_method_16_code 54 = .ok (.aload 5, 2) := by decide +kernel
theorem own_d206 : decode jdk_52_method_16_code 56 = .ok (.areturn, 1) := by decide +kernel
theorem own_ef_cmp3 (m : MethodId) (a : Addr) (N : Int32) : entryFrame m #[(.ref a), (.int (0 : Int32)), (.int N)] 6 = mkF m 0 #[.val (.ref a), .val (.int (0 : Int32)), .val (.int N), .unset, .unset, .unset] [] := by (first | (simp [entryFrame, mkF, argsToLocals, Value.category]; done) | rfl)
def own_Q_cmp3 (Z : State) (a : Addr) (ka : ClassId) (N : Int32) (cs : List Int32) (h0 : Heap) (n0 : Nat) (vq : Option Value) (h : Heap) (Lq : List Loc) : Prop := ∃ (t : Addr) (kt : ClassId) (cd : Int32) (N2 : Int32) (vs : List Value), (vq = some (.ref t)) ∧ (Fr n0 Lq) ∧ (Keep h0 h []) ∧ (h0.size ≤ t) ∧ (Arv Z h t kt .byte N2 vs (.int 0)) ∧ (own_cod cs cd N2 vs)
abbrev own_R_cmp3 : Room := { frames := 3, cells := 2, slots := 12, locals := 40 }
set_option maxRecDepth 65536 in
set_option maxHeartbeats 40000000 in
theorem own_rm_cmp3 (l : Launch) (Z : State) (a0 : Array Value) (hw : ∀ d ∈ tables_1, d.before a0 Z = true) (wsq : List Jvm.Cond) (a : Addr) (ka : ClassId) (N : Int32) (cs : List Int32) (h0 : Heap) (n0 : Nat) (Z0 : n0 ≤ h0.size) (O0 : Old Z n0 h0) (S3 : Sta Z Z.heap "java/lang/StringUTF16" "$assertionsDisabled" "Z" (.int (1 : Int32))) (S4 : Sta Z Z.heap "java/lang/StringUTF16" "HI_BYTE_SHIFT" "I" (.int (0 : Int32))) (S5 : Sta Z Z.heap "java/lang/StringUTF16" "LO_BYTE_SHIFT" "I" (.int (8 : Int32))) (Vc : Arv Z h0 a ka .char N (cs.map Value.int) (.int 0)) (hN : N = Int32.ofNat cs.length) (hn : cs.length ≤ 4) (hp : 0 < cs.length) (hr : own_chs cs) :
    MetFree l (⟨"java/lang/StringUTF16", "compress", "([CII)[B"⟩ : MethodName) (head1 (Jvm.Cond.code (⟨"java/lang/StringUTF16", "compress", "([CII)[B"⟩ : MethodName) jdk_52_method_16_code 6 (some (.array .byte)) :: wsq) own_R_cmp3) (fun aq Uq => aq = #[(.ref a), (.int (0 : Int32)), (.int N)] ∧ Z.Warmed39 Uq.vm ∧ Uq.heap = h0) (fun _ _ _ _ _ => True) (fun _ Uq oq Uq' => ∃ vq Lq, oq = .returned vq ∧ own_Q_cmp3 Z a ka N cs h0 n0 vq Uq'.heap Lq ∧ FrameEnd Uq oq Uq' Lq own_R_cmp3.cells own_R_cmp3.slots) := by
  refine MetFree.of_bodySF (plainFor_of_name own_pn3) hisR ?_
  intro p e s m args below meth cde s₁ Bd hml0 hP hK
  obtain ⟨rfl, hZ, hh⟩ := hP
  have hx := Bd.exec
  have hby := Bd.bytes
  have hml : cde.maxLocals = 6 := hml0
  have hown : s.vm.findClass "java/lang/StringUTF16" = some m.cls := findClass_of_methodNamed Bd.named
  have hnm := (name_of_methodNamed Bd.named Bd.method).1
  have X0 : Stand p l e own_R_cmp3 s m #[(.ref a), (.int (0 : Int32)), (.int N)] below meth cde s₁ [] 0 0 := Stand.of_body Bd
  have e0 : s₁.heap = h0 := by rw [← hh, Bd.state]; rfl
  have N0 := Fr.nil n0
  show own_Fin p e s below (own_Q_cmp3 Z a ka N cs h0 n0) own_R_cmp3.cells own_R_cmp3.slots s₁ (entryFrame m #[(.ref a), (.int (0 : Int32)), (.int N)] 6)
  rw [own_ef_cmp3 m a N]
  refine own_via (fun _ kq => XS.iloadN X0.here hx rfl (hb hby own_d180) rfl kq) ?_
  show own_Fin _ _ _ _ _ _ _ s₁ (mkF m 1 #[.val (.ref a), .val (.int (0 : Int32)), .val (.int N), .unset, .unset, .unset] [(.int N)])
  obtain ⟨T1_, h1_, k1_, X1_, e1_, E1_, A1_, st1_⟩ := newP X0 hx hZ (own_w hw 23 rfl) e0 (g := (mkF m 1 #[.val (.ref a), .val (.int (0 : Int32)), .val (.int N), .unset, .unset, .unset] [(.int N)])) rfl (hb hby own_d181) rfl (own_nneg hN (by omega)) (cap := 4) (by rw [own_clamp hN (by omega)]; omega) (by decide) (by decide) (by decide)
  obtain ⟨b1_, g1_⟩ : ∃ z, z = h0.size := ⟨_, rfl⟩
  rw [← g1_] at A1_ st1_
  have V1_ : Arv Z h1_ b1_ k1_ .byte N (List.replicate cs.length (.int (0 : Int32))) (.int (0 : Int32)) := (Arv.new A1_ (own_nneg hN (by omega))).pad (pad_rep [] (.int (0 : Int32)) cs.length)
  refine own_via (fun _ kq => st1_ _ kq) ?_
  show own_Fin _ _ _ _ _ _ _ T1_ (mkF m 3 #[.val (.ref a), .val (.int (0 : Int32)), .val (.int N), .unset, .unset, .unset] [(.ref b1_)])
  refine own_via (fun _ kq => XS.astoreN X1_.here hx rfl (hb hby own_d182) rfl rfl (l' := #[.val (.ref a), .val (.int (0 : Int32)), .val (.int N), .val (.ref b1_), .unset, .unset]) rfl kq) ?_
  refine own_via (fun _ kq => XS.aloadN X1_.here hx rfl (hb hby own_d183) rfl rfl kq) ?_
  refine own_via (fun _ kq => XS.iloadN X1_.here hx rfl (hb hby own_d184) rfl kq) ?_
  refine own_via (fun _ kq => XS.aloadN X1_.here hx rfl (hb hby own_d185) rfl rfl kq) ?_
  refine own_via (fun _ kq => XS.iconst X1_.here hx rfl (hb hby own_d186) kq) ?_
  refine own_via (fun _ kq => XS.iloadN X1_.here hx rfl (hb hby own_d187) rfl kq) ?_
  show own_Fin _ _ _ _ _ _ _ T1_ (mkF m 9 #[.val (.ref a), .val (.int (0 : Int32)), .val (.int N), .val (.ref b1_), .unset, .unset] [(.int N), (.int (0 : Int32)), (.ref b1_), (.int (0 : Int32)), (.ref a)])
  have q2_ : a ≠ b1_ := Nat.ne_of_lt (Nat.lt_of_lt_of_le Vc.lt (Nat.le_of_eq g1_.symm))
  have g4_ : n0 ≤ b1_ := Nat.le_trans Z0 (Nat.le_of_eq g1_.symm)
  obtain ⟨_, _, ⟨T3_, L3_, k3_, n3_⟩, -, X3_, ⟨Lc3_, hQ3_, l3_, y3_, z3_⟩, st3_⟩ := Jvm.LawKit.callS X1_ hx (y := (⟨"java/lang/StringUTF16", "compress", "([CI[BII)I"⟩ : MethodName)) hown (mvT hZ (own_w hw 131 rfl)) (mvT hZ (own_w hw 132 rfl)) (mvT hZ (own_w hw 129 rfl)) (mvT hZ (own_w hw 133 rfl)) (by decide) (backOf (W := 0) (own_rm_cmp5 l Z a0 hw [] a ka N cs b1_ k1_ (List.replicate cs.length (.int (0 : Int32))) h1_ n0 (Nat.le_trans Z0 E1_.1) (Vc.ext E1_) V1_ g4_ q2_ List.length_replicate hN hn hp hr) hZ (own_w hw 133 rfl) (own_w hw 129 rfl) (by decide) (by decide)) (g := (mkF m 9 #[.val (.ref a), .val (.int (0 : Int32)), .val (.int N), .val (.ref b1_), .unset, .unset] [(.int N), (.int (0 : Int32)), (.ref b1_), (.int (0 : Int32)), (.ref a)])) rfl (by rw [hml]; rfl) (argsL := [(.ref a), (.int (0 : Int32)), (.ref b1_), (.int (0 : Int32)), (.int N)]) (rest := []) (lenOf own_pd10 rfl) rfl (by show 2 * 0 + _ ≤ _; exact Nat.le_of_eq rfl) (hb hby own_d188) (fun _ _ => ⟨rfl, e1_, (by decide : 0 + 1 + 0 ≤ _), (by decide : 0 + 4 + 0 ≤ _)⟩)
  dsimp only [Pt.U, Pt.locs, Pt.cells, Pt.slots] at X3_ l3_ y3_ z3_ st3_ hQ3_
  subst l3_ y3_ z3_
  obtain ⟨r, ws, rfl, Nq3_, K3_, r5_, hx_⟩ := hQ3_
  have N3_ := Fr.app N0 Nq3_
  refine own_via (fun _ kq => st3_ _ kq) ?_
  show own_Fin _ _ _ _ _ _ _ T3_ (mkF m 12 #[.val (.ref a), .val (.int (0 : Int32)), .val (.int N), .val (.ref b1_), .unset, .unset] [(.int r)])
  refine own_via (fun _ kq => XS.istore X3_.here hx rfl (hb hby own_d189) rfl (l' := #[.val (.ref a), .val (.int (0 : Int32)), .val (.int N), .val (.ref b1_), .val (.int r), .unset]) rfl kq) ?_
  refine own_via (fun _ kq => XS.iload X3_.here hx rfl (hb hby own_d190) rfl kq) ?_
  refine own_via (fun _ kq => XS.iloadN X3_.here hx rfl (hb hby own_d191) rfl kq) ?_
  rcases hx_ with ⟨hrN, hA⟩ | ⟨i, hi, hri, h255⟩
  · refine own_via (fun _ kq => XS.icmpYes X3_.here hx rfl (pc0 := 17) (pc' := 57) rfl (hb hby own_d192) rfl (teq hrN).1 (by decide) (by decide) kq) ?_
    show own_Fin _ _ _ _ _ _ _ T3_ (mkF m 57 #[.val (.ref a), .val (.int (0 : Int32)), .val (.int N), .val (.ref b1_), .val (.int r), .unset] [])
    refine own_via (fun _ kq => XS.aloadN X3_.here hx rfl (hb hby own_d193) rfl rfl kq) ?_
    show own_Fin _ _ _ _ _ _ _ T3_ (mkF m 58 #[.val (.ref a), .val (.int (0 : Int32)), .val (.int N), .val (.ref b1_), .val (.int r), .unset] [(.ref b1_)])
    exact own_retA X3_ hx Bd.returns Bd.notSynchronized rfl rfl (hb hby own_d194) rfl ⟨b1_, k1_, (0 : Int32), N, ws, rfl, N3_, (((Keep.refl h0 []).ext E1_).trans K3_ (allS (Or.inr (Nat.le_of_eq g1_.symm)) all0)), (Nat.le_of_eq g1_.symm), r5_, (Or.inl ⟨rfl, hN, hA⟩)⟩ (by decide) (by decide)
  · refine own_via (fun _ kq => XS.icmpNo X3_.here hx rfl (hb hby own_d192) rfl (feq (own_ofne hri hN hi (by omega))).1 kq) ?_
    show own_Fin _ _ _ _ _ _ _ T3_ (mkF m 20 #[.val (.ref a), .val (.int (0 : Int32)), .val (.int N), .val (.ref b1_), .val (.int r), .unset] [])
    refine own_via (fun _ kq => XS.aloadN X3_.here hx rfl (hb hby own_d195) rfl rfl kq) ?_
    refine own_via (fun _ kq => XS.iloadN X3_.here hx rfl (hb hby own_d196) rfl kq) ?_
    refine own_via (fun _ kq => XS.iloadN X3_.here hx rfl (hb hby own_d197) rfl kq) ?_
    show own_Fin _ _ _ _ _ _ _ T3_ (mkF m 23 #[.val (.ref a), .val (.int (0 : Int32)), .val (.int N), .val (.ref b1_), .val (.int r), .unset] [(.int N), (.int (0 : Int32)), (.ref a)])
    obtain ⟨_, _, ⟨T6_, L6_, k6_, n6_⟩, -, X6_, ⟨Lc6_, hQ6_, l6_, y6_, z6_⟩, st6_⟩ := Jvm.LawKit.callS X3_ hx (y := (⟨"java/lang/StringUTF16", "toBytes", "([CII)[B"⟩ : MethodName)) hown (mvT hZ (own_w hw 174 rfl)) (mvT hZ (own_w hw 175 rfl)) (mvT hZ (own_w hw 129 rfl)) (mvT hZ (own_w hw 176 rfl)) (by decide) (backOf (W := 0) (own_rm_toBy l Z a0 hw [] a ka N cs T3_.heap n0 (Nat.le_trans Z0 (Nat.le_trans E1_.1 K3_.1)) ((O0.ext E1_).keep K3_ (allS g4_ all0)) S3 S4 S5 ((Vc.ext E1_).keep K3_ (ninS q2_ nin0)) hN hn hp hr) hZ (own_w hw 176 rfl) (own_w hw 129 rfl) (by decide) (by decide)) (g := (mkF m 23 #[.val (.ref a), .val (.int (0 : Int32)), .val (.int N), .val (.ref b1_), .val (.int r), .unset] [(.int N), (.int (0 : Int32)), (.ref a)])) rfl (by rw [hml]; rfl) (argsL := [(.ref a), (.int (0 : Int32)), (.int N)]) (rest := []) (lenOf own_pd11 rfl) rfl (by show 2 * 0 + _ ≤ _; exact Nat.le_of_eq rfl) (hb hby own_d198) (fun _ _ => ⟨rfl, rfl, (by decide : 0 + 1 + 0 + 1 ≤ _), (by decide : 0 + 4 + 0 + 8 ≤ _)⟩)
    dsimp only [Pt.U, Pt.locs, Pt.cells, Pt.slots] at X6_ l6_ y6_ z6_ st6_ hQ6_
    subst l6_ y6_ z6_
    obtain ⟨t, kt, ws2, rfl, Nq6_, K6_, r7_, r8_, hw2⟩ := hQ6_
    have N6_ := Fr.app N3_ Nq6_
    refine own_via (fun _ kq => st6_ _ kq) ?_
    show own_Fin _ _ _ _ _ _ _ T6_ (mkF m 26 #[.val (.ref a), .val (.int (0 : Int32)), .val (.int N), .val (.ref b1_), .val (.int r), .unset] [(.ref t)])
    refine own_via (fun _ kq => XS.astore X6_.here hx rfl (hb hby own_d199) rfl rfl (l' := #[.val (.ref a), .val (.int (0 : Int32)), .val (.int N), .val (.ref b1_), .val (.int r), .val (.ref t)]) rfl kq) ?_
    refine own_via (fun _ kq => XS.aload X6_.here hx rfl (hb hby own_d200) rfl rfl kq) ?_
    refine own_via (fun _ kq => XS.iload X6_.here hx rfl (hb hby own_d201) rfl kq) ?_
    show own_Fin _ _ _ _ _ _ _ T6_ (mkF m 32 #[.val (.ref a), .val (.int (0 : Int32)), .val (.int N), .val (.ref b1_), .val (.int r), .val (.ref t)] [(.int r), (.ref t)])
    obtain ⟨_, _, ⟨T9_, L9_, k9_, n9_⟩, -, X9_, ⟨Lc9_, hQ9_, l9_, y9_, z9_⟩, st9_⟩ := Jvm.LawKit.callS X6_ hx (y := (⟨"java/lang/StringUTF16", "getChar", "([BI)C"⟩ : MethodName)) hown (mvT hZ (own_w hw 190 rfl)) (mvT hZ (own_w hw 191 rfl)) (mvT hZ (own_w hw 129 rfl)) (mvT hZ (own_w hw 192 rfl)) (by decide) (backOf (W := 0) (own_rm_getCh l Z a0 hw [] t kt (Int32.ofNat (2 * cs.length)) ws2 (cs.getD i 0) r i cs.length T6_.heap n0 (Nat.le_trans Z0 (Nat.le_trans (Nat.le_trans E1_.1 K3_.1) K6_.1)) (((O0.ext E1_).keep K3_ (allS g4_ all0)).keep K6_ all0) S3 S4 S5 r8_ hri hi (by omega) rfl (hw2 i hi).1 (hw2 i hi).2 (hr i)) hZ (own_w hw 192 rfl) (own_w hw 129 rfl) (by decide) (by decide)) (g := (mkF m 32 #[.val (.ref a), .val (.int (0 : Int32)), .val (.int N), .val (.ref b1_), .val (.int r), .val (.ref t)] [(.int r), (.ref t)])) rfl (by rw [hml]; rfl) (argsL := [(.ref t), (.int r)]) (rest := []) (lenOf own_pd5 rfl) rfl (by show 2 * 0 + _ ≤ _; exact Nat.le_of_eq rfl) (hb hby own_d202) (fun _ _ => ⟨rfl, rfl, (by decide : 0 + 1 + 0 + 1 + 0 ≤ _), (by decide : 0 + 4 + 0 + 8 + 0 ≤ _)⟩)
    dsimp only [Pt.U, Pt.locs, Pt.cells, Pt.slots] at X9_ l9_ y9_ z9_ st9_ hQ9_
    subst l9_ y9_ z9_
    obtain ⟨rfl, Nq9_, hh9_⟩ := hQ9_
    have N9_ := Fr.app N6_ Nq9_
    refine own_via (fun _ kq => st9_ _ kq) ?_
    show own_Fin _ _ _ _ _ _ _ T9_ (mkF m 35 #[.val (.ref a), .val (.int (0 : Int32)), .val (.int N), .val (.ref b1_), .val (.int r), .val (.ref t)] [(.int (cs.getD i 0))])
    refine own_via (fun _ kq => XS.sipush X9_.here hx rfl (hb hby own_d203) kq) ?_
    refine own_via (fun _ kq => XS.icmpYes X9_.here hx rfl (pc0 := 38) (pc' := 54) rfl (hb hby own_d204) rfl (tlt h255).2.2.1 (by decide) (by decide) kq) ?_
    show own_Fin _ _ _ _ _ _ _ T9_ (mkF m 54 #[.val (.ref a), .val (.int (0 : Int32)), .val (.int N), .val (.ref b1_), .val (.int r), .val (.ref t)] [])
    refine own_via (fun _ kq => XS.aload X9_.here hx rfl (hb hby own_d205) rfl rfl kq) ?_
    show own_Fin _ _ _ _ _ _ _ T9_ (mkF m 56 #[.val (.ref a), .val (.int (0 : Int32)), .val (.int N), .val (.ref b1_), .val (.int r), .val (.ref t)] [(.ref t)])
    exact own_retA X9_ hx Bd.returns Bd.notSynchronized rfl rfl (hb hby own_d206) hh9_ ⟨t, kt, (1 : Int32), (Int32.ofNat (2 * cs.length)), ws2, rfl, N9_, ((((Keep.refl h0 []).ext E1_).trans K3_ (allS (Or.inr (Nat.le_of_eq g1_.symm)) all0)).trans K6_ all0), (Nat.le_trans (Nat.le_trans E1_.1 K3_.1) r7_), r8_, (Or.inr ⟨rfl, rfl, hw2, i, hi, h255⟩)⟩ (by decide) (by decide)
theorem own_d207 : decode jdk_52_method_15_code 0 = .ok (.iload_n 1, 1) := by decide +kernel
theorem own_d208 : decode jdk_52_method_15_code 1 = .ok (.aload_n 0, 1) := by decide +kernel
theorem own_d209 : decode jdk_52_method_15_code 2 = .ok (.arraylength, 1) := by decide +kernel
theorem own_d210 : decode jdk_52_method_15_code 3 = .ok (.isub, 1) := by decide +kernel
theorem own_d211 : decode jdk_52_method_15_code 4 = .ok (.bipush 31, 2) := by decide +kernel
theorem own_d212 : decode jdk_52_method_15_code 6 = .ok (.iushr, 1) := by decide +kernel
theorem own_d213 : decode jdk_52_method_15_code 7 = .ok (.i2b, 1) := by decide +kernel
theorem own_d214 : decode jdk_52_method_15_code 8 = .ok (.ireturn, 1) := by decide +kernel
theorem own_ef_cfl (m : MethodId) (t : Addr) (N : Int32) : entryFrame m #[(.ref t), (.int N)] 2 = mkF m 0 #[.val (.ref t), .val (.int N)] [] := by (first | (simp [entryFrame, mkF, argsToLocals, Value.category]; done) | rfl)
def own_Q_cfl (Z : State) (t : Addr) (kt : ClassId) (N2 : Int32) (vs : List Value) (N : Int32) (cd : Int32) (cs : List Int32) (h0 : Heap) (n0 : Nat) (vq : Option Value) (h : Heap) (Lq : List Loc) : Prop := (vq = some (.int cd)) ∧ (Fr n0 Lq) ∧ (h = h0)
abbrev own_R_cfl : Room := { frames := 0, cells := 0, slots := 0, locals := 0 }
set_option maxRecDepth 65536 in
set_option maxHeartbeats 40000000 in
theorem own_rm_cfl (l : Launch) (Z : State) (a0 : Array Value) (hw : ∀ d ∈ tables_1, d.before a0 Z = true) (wsq : List Jvm.Cond) (t : Addr) (kt : ClassId) (N2 : Int32) (vs : List Value) (N : Int32) (cd : Int32) (cs : List Int32) (h0 : Heap) (n0 : Nat) (Z0 : n0 ≤ h0.size) (Va : Arv Z h0 t kt .byte N2 vs (.int 0)) (hc : own_cod cs cd N2 vs) (hN : N = Int32.ofNat cs.length) (hn : cs.length ≤ 4) (hp : 0 < cs.length) :
    MetFree l (⟨"java/lang/StringUTF16", "coderFromArrayLen", "([BI)B"⟩ : MethodName) (head1 (Jvm.Cond.code (⟨"java/lang/StringUTF16", "coderFromArrayLen", "([BI)B"⟩ : MethodName) jdk_52_method_15_code 2 (some .byte) :: wsq) own_R_cfl) (fun aq Uq => aq = #[(.ref t), (.int N)] ∧ Z.Warmed39 Uq.vm ∧ Uq.heap = h0) (fun _ _ _ _ _ => True) (fun _ Uq oq Uq' => ∃ vq Lq, oq = .returned vq ∧ own_Q_cfl Z t kt N2 vs N cd cs h0 n0 vq Uq'.heap Lq ∧ FrameEnd Uq oq Uq' Lq own_R_cfl.cells own_R_cfl.slots) := by
  refine MetFree.of_bodySF (plainFor_of_name own_pn3) hisR ?_
  intro p e s m args below meth cde s₁ Bd hml0 hP hK
  obtain ⟨rfl, hZ, hh⟩ := hP
  have hx := Bd.exec
  have hby := Bd.bytes
  have hml : cde.maxLocals = 2 := hml0
  have hown : s.vm.findClass "java/lang/StringUTF16" = some m.cls := findClass_of_methodNamed Bd.named
  have hnm := (name_of_methodNamed Bd.named Bd.method).1
  have X0 : Stand p l e own_R_cfl s m #[(.ref t), (.int N)] below meth cde s₁ [] 0 0 := Stand.of_body Bd
  have e0 : s₁.heap = h0 := by rw [← hh, Bd.state]; rfl
  have N0 := Fr.nil n0
  show own_Fin p e s below (own_Q_cfl Z t kt N2 vs N cd cs h0 n0) own_R_cfl.cells own_R_cfl.slots s₁ (entryFrame m #[(.ref t), (.int N)] 2)
  rw [own_ef_cfl m t N]
  refine own_via (fun _ kq => XS.iloadN X0.here hx rfl (hb hby own_d207) rfl kq) ?_
  refine own_via (fun _ kq => XS.aloadN X0.here hx rfl (hb hby own_d208) rfl rfl kq) ?_
  show own_Fin _ _ _ _ _ _ _ s₁ (mkF m 2 #[.val (.ref t), .val (.int N)] [(.ref t), (.int N)])
  obtain ⟨c1_, Ar1_, -, S1_, M1_, -, -⟩ := (id Va)
  refine own_via (fun _ kq => X0.arraylength hx (own_eq e0 Ar1_.1) (State.isArrayOf_alike hZ.alike Ar1_.2.1) (g := (mkF m 2 #[.val (.ref t), .val (.int N)] [(.ref t), (.int N)])) rfl rfl (hb hby own_d209) _ (by rw [len_of S1_ M1_]; exact kq)) ?_
  show own_Fin _ _ _ _ _ _ _ s₁ (mkF m 3 #[.val (.ref t), .val (.int N)] [(.int N2), (.int N)])
  refine own_via (fun _ kq => XS.isub X0.here hx rfl (hb hby own_d210) rfl kq) ?_
  refine own_via (fun _ kq => XS.bipush X0.here hx rfl (hb hby own_d211) kq) ?_
  refine own_via (fun _ kq => XS.iushr X0.here hx rfl (hb hby own_d212) rfl kq) ?_
  refine own_via (fun _ kq => XS.i2b X0.here hx rfl (hb hby own_d213) rfl kq) ?_
  show own_Fin _ _ _ _ _ _ _ s₁ (mkF m 8 #[.val (.ref t), .val (.int N)] [(.int ((((N - N2).toUInt32 >>> ((31 : Int32) &&& 31).toUInt32).toInt32).toInt8.toInt32))])
  exact own_retN X0 hx (t := .byte) Bd.returns Bd.notSynchronized (by simp) (hb hby own_d214) e0 (own_cfl hc hN (by omega) hp) ⟨rfl, N0, rfl⟩ (by decide) (by decide)
theorem own_d215 : decode jdk_42_method_149_code 0 = .ok (.aload_n 0, 1) := by decide +kernel
theorem own_d216 : decode jdk_42_method_149_code 1 = .ok (.invokespecial 1, 3) := by decide +kernel
theorem own_d217 : decode jdk_42_method_149_code 4 = .ok (.iload_n 3, 1) := by decide +kernel
theorem own_d218 : decode jdk_42_method_149_code 5 = .ok (.ifCond .ne 22, 3) := by decide +kernel
theorem own_d219 : decode jdk_42_method_149_code 27 = .ok (.getstatic 38, 3) := by decide +kernel
theorem own_d220 : decode jdk_42_method_149_code 30 = .ok (.ifCond .eq 28, 3) := by decide +kernel
theorem own_d221 : decode jdk_42_method_149_code 33 = .ok (.aload_n 1, 1) := by decide +kernel
theorem own_d222 : decode jdk_42_method_149_code 34 = .ok (.iload_n 2, 1) := by decide +kernel
theorem own_d223 : decode jdk_42_method_149_code 35 = .ok (.iload_n 3, 1) := by decide +kernel
theorem own_d224 : decode jdk_42_method_149_code 36 = .ok (.invokestatic 177, 3) := by decide +kernel
theorem own_d225 : decode jdk_42_method_149_code 39 = .ok (.astore 5, 2) := by decide +kernel
theorem own_d226 : decode jdk_42_method_149_code 41 = .ok (.aload_n 0, 1) := by decide +kernel
theorem own_d227 : decode jdk_42_method_149_code 42 = .ok (.aload 5, 2) := by decide +kernel
theorem own_d228 : decode jdk_42_method_149_code 44 = .ok (.iload_n 3, 1) := by decide +kernel
theorem own_d229 : decode jdk_42_method_149_code 45 = .ok (.invokestatic 47, 3) := by decide +kernel
theorem own_pd12 : parseMethodDescriptor "([BI)B" = some ⟨[(.array .byte), .int], some .byte⟩ := by decide +kernel
theorem own_d230 : decode jdk_42_method_149_code 48 = .ok (.putfield 15, 3) := by decide +kernel
theorem own_d231 : decode jdk_42_method_149_code 51 = .ok (.aload_n 0, 1) := by decide +kernel
theorem own_d232 : decode jdk_42_method_149_code 52 = .ok (.aload 5, 2) := by decide +kernel
theorem own_d233 : decode jdk_42_method_149_code 54 = .ok (.putfield 9, 3) := by decide +kernel
theorem own_d234 : decode jdk_42_method_149_code 57 = .ok (.return_, 1) := by decide +kernel
theorem own_ef_sInitW (m : MethodId) (a1 : Addr) (a : Addr) (N : Int32) : entryFrame m #[(.ref a1), (.ref a), (.int (0 : Int32)), (.int N), .null] 6 = mkF m 0 #[.val (.ref a1), .val (.ref a), .val (.int (0 : Int32)), .val (.int N), .val .null, .unset] [] := by (first | (simp [entryFrame, mkF, argsToLocals, Value.category]; done) | rfl)
def own_Q_sInitW (Z : State) (a1 : Addr) (cz : Int32) (u1 : Value) (u2 : Value) (a : Addr) (ka : ClassId) (N : Int32) (cs : List Int32) (h0 : Heap) (n0 : Nat) (vq : Option Value) (h : Heap) (Lq : List Loc) : Prop := ∃ (t : Addr) (kt : ClassId) (cd : Int32) (N2 : Int32) (vs : List Value), (vq = none) ∧ (Fr n0 Lq) ∧ (Keep h0 h [a1]) ∧ (Exa Z h a1 "java/lang/String") ∧ (Fld Z h a1 "java/lang/String" "coder" "B" (.int cd)) ∧ (Fld Z h a1 "java/lang/String" "value" "[B" (.ref t)) ∧ (h0.size ≤ t) ∧ (Arv Z h t kt .byte N2 vs (.int 0)) ∧ (own_cod cs cd N2 vs)
abbrev own_R_sInitW : Room := { frames := 4, cells := 2, slots := 12, locals := 57 }
set_option maxRecDepth 65536 in
set_option maxHeartbeats 40000000 in
theorem own_rm_sInitW (l : Launch) (Z : State) (a0 : Array Value) (hw : ∀ d ∈ tables_1, d.before a0 Z = true) (wsq : List Jvm.Cond) (a1 : Addr) (cz : Int32) (u1 : Value) (u2 : Value) (a : Addr) (ka : ClassId) (N : Int32) (cs : List Int32) (h0 : Heap) (n0 : Nat) (Z0 : n0 ≤ h0.size) (O0 : Old Z n0 h0) (S1 : Sta Z Z.heap "java/lang/String" "COMPACT_STRINGS" "Z" (.int cz)) (P5 : ¬ cz = (0 : Int32)) (S3 : Sta Z Z.heap "java/lang/StringUTF16" "$assertionsDisabled" "Z" (.int (1 : Int32))) (S4 : Sta Z Z.heap "java/lang/StringUTF16" "HI_BYTE_SHIFT" "I" (.int (0 : Int32))) (S5 : Sta Z Z.heap "java/lang/StringUTF16" "LO_BYTE_SHIFT" "I" (.int (8 : Int32))) (E1 : Exa Z h0 a1 "java/lang/String") (F1 : Fld Z h0 a1 "java/lang/String" "value" "[B" u1) (F2 : Fld Z h0 a1 "java/lang/String" "coder" "B" u2) (g1 : n0 ≤ a1) (Vc : Arv Z h0 a ka .char N (cs.map Value.int) (.int 0)) (hN : N = Int32.ofNat cs.length) (hn : cs.length ≤ 4) (hp : 0 < cs.length) (hr : own_chs cs) :
    MetFree l (⟨"java/lang/String", "<init>", "([CIILjava/lang/Void;)V"⟩ : MethodName) (head1 (Jvm.Cond.code (⟨"java/lang/String", "<init>", "([CIILjava/lang/Void;)V"⟩ : MethodName) jdk_42_method_149_code 6 none :: wsq) own_R_sInitW) (fun aq Uq => aq = #[(.ref a1), (.ref a), (.int (0 : Int32)), (.int N), .null] ∧ Z.Warmed39 Uq.vm ∧ Uq.heap = h0) (fun _ _ _ _ _ => True) (fun _ Uq oq Uq' => ∃ vq Lq, oq = .returned vq ∧ own_Q_sInitW Z a1 cz u1 u2 a ka N cs h0 n0 vq Uq'.heap Lq ∧ FrameEnd Uq oq Uq' Lq own_R_sInitW.cells own_R_sInitW.slots) := by
  refine MetFree.of_bodySF (plainFor_of_name own_pn0) hisR ?_
  intro p e s m args below meth cde s₁ Bd hml0 hP hK
  obtain ⟨rfl, hZ, hh⟩ := hP
  have hx := Bd.exec
  have hby := Bd.bytes
  have hml : cde.maxLocals = 6 := hml0
  have hown : s.vm.findClass "java/lang/String" = some m.cls := findClass_of_methodNamed Bd.named
  have hnm := (name_of_methodNamed Bd.named Bd.method).1
  have X0 : Stand p l e own_R_sInitW s m #[(.ref a1), (.ref a), (.int (0 : Int32)), (.int N), .null] below meth cde s₁ [] 0 0 := Stand.of_body Bd
  have e0 : s₁.heap = h0 := by rw [← hh, Bd.state]; rfl
  have N0 := Fr.nil n0
  show own_Fin p e s below (own_Q_sInitW Z a1 cz u1 u2 a ka N cs h0 n0) own_R_sInitW.cells own_R_sInitW.slots s₁ (entryFrame m #[(.ref a1), (.ref a), (.int (0 : Int32)), (.int N), .null] 6)
  rw [own_ef_sInitW m a1 a N]
  refine own_via (fun _ kq => XS.aloadN X0.here hx rfl (hb hby own_d215) rfl rfl kq) ?_
  show own_Fin _ _ _ _ _ _ _ s₁ (mkF m 1 #[.val (.ref a1), .val (.ref a), .val (.int (0 : Int32)), .val (.int N), .val .null, .unset] [(.ref a1)])
  obtain ⟨T1_, X1_, e1_, st1_⟩ := initO X0 hx hZ hown (own_w hw 19 rfl) (own_w hw 20 rfl) (own_w hw 21 rfl) e0 (g := (mkF m 1 #[.val (.ref a1), .val (.ref a), .val (.int (0 : Int32)), .val (.int N), .val .null, .unset] [(.ref a1)])) rfl (by rw [hml]; rfl) rfl (hb hby own_d216) (by decide) (W := 0) (by show 2 * 0 + _ ≤ _; exact Nat.le_of_eq rfl) (by decide)
  refine own_via (fun _ kq => st1_ _ kq) ?_
  show own_Fin _ _ _ _ _ _ _ T1_ (mkF m 4 #[.val (.ref a1), .val (.ref a), .val (.int (0 : Int32)), .val (.int N), .val .null, .unset] [])
  refine own_via (fun _ kq => XS.iloadN X1_.here hx rfl (hb hby own_d217) rfl kq) ?_
  refine own_via (fun _ kq => XS.ifYes X1_.here hx rfl (pc0 := 5) (pc' := 27) rfl (hb hby own_d218) rfl ((if0 _ _).trans (feq (own_nz hN hp (by omega))).2) (by decide) (by decide) kq) ?_
  show own_Fin _ _ _ _ _ _ _ T1_ (mkF m 27 #[.val (.ref a1), .val (.ref a), .val (.int (0 : Int32)), .val (.int N), .val .null, .unset] [])
  obtain ⟨T2_, X2_, e2_, st2_⟩ := getS2 X1_ hx hZ hown (host := "") (Or.inl (own_w hw 47 rfl)) Via.refl e1_ (S1.ext O0.2) (g := (mkF m 27 #[.val (.ref a1), .val (.ref a), .val (.int (0 : Int32)), .val (.int N), .val .null, .unset] [])) rfl (hb hby own_d219)
  refine own_via (fun _ kq => st2_ _ kq) ?_
  show own_Fin _ _ _ _ _ _ _ T2_ (mkF m 30 #[.val (.ref a1), .val (.ref a), .val (.int (0 : Int32)), .val (.int N), .val .null, .unset] [(.int cz)])
  refine own_via (fun _ kq => XS.ifNo X2_.here hx rfl (hb hby own_d220) rfl ((if0 _ _).trans (feq P5).1) kq) ?_
  show own_Fin _ _ _ _ _ _ _ T2_ (mkF m 33 #[.val (.ref a1), .val (.ref a), .val (.int (0 : Int32)), .val (.int N), .val .null, .unset] [])
  refine own_via (fun _ kq => XS.aloadN X2_.here hx rfl (hb hby own_d221) rfl rfl kq) ?_
  refine own_via (fun _ kq => XS.iloadN X2_.here hx rfl (hb hby own_d222) rfl kq) ?_
  refine own_via (fun _ kq => XS.iloadN X2_.here hx rfl (hb hby own_d223) rfl kq) ?_
  show own_Fin _ _ _ _ _ _ _ T2_ (mkF m 36 #[.val (.ref a1), .val (.ref a), .val (.int (0 : Int32)), .val (.int N), .val .null, .unset] [(.int N), (.int (0 : Int32)), (.ref a)])
  obtain ⟨_, _, ⟨T3_, L3_, k3_, n3_⟩, -, X3_, ⟨Lc3_, hQ3_, l3_, y3_, z3_⟩, st3_⟩ := Jvm.LawKit.callS X2_ hx (y := (⟨"java/lang/StringUTF16", "compress", "([CII)[B"⟩ : MethodName)) hown (mvT hZ (own_w hw 127 rfl)) (mvT hZ (own_w hw 128 rfl)) (mvT hZ (own_w hw 129 rfl)) (mvT hZ (own_w hw 130 rfl)) (by decide) (backOf (W := 0) (own_rm_cmp3 l Z a0 hw [] a ka N cs h0 n0 Z0 O0 S3 S4 S5 Vc hN hn hp hr) hZ (own_w hw 130 rfl) (own_w hw 129 rfl) (by decide) (by decide)) (g := (mkF m 36 #[.val (.ref a1), .val (.ref a), .val (.int (0 : Int32)), .val (.int N), .val .null, .unset] [(.int N), (.int (0 : Int32)), (.ref a)])) rfl (by rw [hml]; rfl) (argsL := [(.ref a), (.int (0 : Int32)), (.int N)]) (rest := []) (lenOf own_pd11 rfl) rfl (by show 2 * 0 + _ ≤ _; exact Nat.le_of_eq rfl) (hb hby own_d224) (fun _ _ => ⟨rfl, e2_, (by decide : 0 + 2 ≤ _), (by decide : 0 + 12 ≤ _)⟩)
  dsimp only [Pt.U, Pt.locs, Pt.cells, Pt.slots] at X3_ l3_ y3_ z3_ st3_ hQ3_
  subst l3_ y3_ z3_
  obtain ⟨t, kt, cd, N2, vs, rfl, Nq3_, K3_, r4_, r5_, hcod⟩ := hQ3_
  have N3_ := Fr.app N0 Nq3_
  refine own_via (fun _ kq => st3_ _ kq) ?_
  show own_Fin _ _ _ _ _ _ _ T3_ (mkF m 39 #[.val (.ref a1), .val (.ref a), .val (.int (0 : Int32)), .val (.int N), .val .null, .unset] [(.ref t)])
  refine own_via (fun _ kq => XS.astore X3_.here hx rfl (hb hby own_d225) rfl rfl (l' := #[.val (.ref a1), .val (.ref a), .val (.int (0 : Int32)), .val (.int N), .val .null, .val (.ref t)]) rfl kq) ?_
  refine own_via (fun _ kq => XS.aloadN X3_.here hx rfl (hb hby own_d226) rfl rfl kq) ?_
  refine own_via (fun _ kq => XS.aload X3_.here hx rfl (hb hby own_d227) rfl rfl kq) ?_
  refine own_via (fun _ kq => XS.iloadN X3_.here hx rfl (hb hby own_d228) rfl kq) ?_
  show own_Fin _ _ _ _ _ _ _ T3_ (mkF m 45 #[.val (.ref a1), .val (.ref a), .val (.int (0 : Int32)), .val (.int N), .val .null, .val (.ref t)] [(.int N), (.ref t), (.ref a1)])
  obtain ⟨_, _, ⟨T6_, L6_, k6_, n6_⟩, -, X6_, ⟨Lc6_, hQ6_, l6_, y6_, z6_⟩, st6_⟩ := Jvm.LawKit.callS X3_ hx (y := (⟨"java/lang/StringUTF16", "coderFromArrayLen", "([BI)B"⟩ : MethodName)) hown (mvT hZ (own_w hw 134 rfl)) (mvT hZ (own_w hw 135 rfl)) (mvT hZ (own_w hw 129 rfl)) (mvT hZ (own_w hw 136 rfl)) (by decide) (backOf (W := 1) (own_rm_cfl l Z a0 hw [] t kt N2 vs N cd cs T3_.heap n0 (Nat.le_trans Z0 K3_.1) r5_ hcod hN hn hp) hZ (own_w hw 136 rfl) (own_w hw 129 rfl) (by decide) (by decide)) (g := (mkF m 45 #[.val (.ref a1), .val (.ref a), .val (.int (0 : Int32)), .val (.int N), .val .null, .val (.ref t)] [(.int N), (.ref t), (.ref a1)])) rfl (by rw [hml]; rfl) (argsL := [(.ref t), (.int N)]) (rest := [(.ref a1)]) (lenOf own_pd12 rfl) rfl (by show 2 * 0 + _ ≤ _; exact Nat.le_of_eq rfl) (hb hby own_d229) (fun _ _ => ⟨rfl, rfl, (by decide : 0 + 2 + 0 ≤ _), (by decide : 0 + 12 + 0 ≤ _)⟩)
  dsimp only [Pt.U, Pt.locs, Pt.cells, Pt.slots] at X6_ l6_ y6_ z6_ st6_ hQ6_
  subst l6_ y6_ z6_
  obtain ⟨rfl, Nq6_, hh6_⟩ := hQ6_
  have N6_ := Fr.app N3_ Nq6_
  refine own_via (fun _ kq => st6_ _ kq) ?_
  show own_Fin _ _ _ _ _ _ _ T6_ (mkF m 48 #[.val (.ref a1), .val (.ref a), .val (.int (0 : Int32)), .val (.int N), .val .null, .val (.ref t)] [(.int cd), (.ref a1)])
  obtain ⟨T7_, h7_, X7_, e7_, W7_, st7_⟩ := putFN X6_ hx hZ hown (own_w hw 29 rfl) Via.refl hh6_ (F2.keep K3_ nin0) (E1.keep K3_) (Or.inr ⟨(own_w hw 25 rfl), rfl, hnm⟩) (own_w hw 9 rfl) (ty := .byte) (v' := (.int cd)) (by decide) (own_cdn (own_cod_cd hcod)) (own_cdf (own_cod_cd hcod)) (g := (mkF m 48 #[.val (.ref a1), .val (.ref a), .val (.int (0 : Int32)), .val (.int N), .val .null, .val (.ref t)] [(.int cd), (.ref a1)])) rfl rfl (hb hby own_d230)
  have Fw7_ := (F2.keep K3_ nin0).same W7_
  have N7_ := Fr.snoc X7_ N6_ g1
  refine own_via (fun _ kq => st7_ _ kq) ?_
  show own_Fin _ _ _ _ _ _ _ T7_ (mkF m 51 #[.val (.ref a1), .val (.ref a), .val (.int (0 : Int32)), .val (.int N), .val .null, .val (.ref t)] [])
  refine own_via (fun _ kq => XS.aloadN X7_.here hx rfl (hb hby own_d231) rfl rfl kq) ?_
  refine own_via (fun _ kq => XS.aload X7_.here hx rfl (hb hby own_d232) rfl rfl kq) ?_
  show own_Fin _ _ _ _ _ _ _ T7_ (mkF m 54 #[.val (.ref a1), .val (.ref a), .val (.int (0 : Int32)), .val (.int N), .val .null, .val (.ref t)] [(.ref t), (.ref a1)])
  have f9_ := ((F1.keep K3_ nin0).other W7_ (Or.inr (slot_ne (Or.inr (own_w hw 24 rfl)) (Or.inr (own_w hw 25 rfl)) (by decide) (t := (.array .byte)) (t' := .byte) (by decide) (by decide))))
  obtain ⟨T8_, h8_, X8_, e8_, W8_, st8_⟩ := putF X7_ hx hZ hown (host := "") (Or.inl (own_w hw 28 rfl)) Via.refl e7_ f9_ ((E1.keep K3_).wr W7_) (Or.inr ⟨(own_w hw 24 rfl), rfl, hnm⟩) (own_w hw 9 rfl) (ty := (.array .byte)) (by decide) rfl rfl (g := (mkF m 54 #[.val (.ref a1), .val (.ref a), .val (.int (0 : Int32)), .val (.int N), .val .null, .val (.ref t)] [(.ref t), (.ref a1)])) rfl rfl (hb hby own_d233)
  have Fw8_ := f9_.same W8_
  have N8_ := Fr.snoc X8_ N7_ g1
  refine own_via (fun _ kq => st8_ _ kq) ?_
  show own_Fin _ _ _ _ _ _ _ T8_ (mkF m 57 #[.val (.ref a1), .val (.ref a), .val (.int (0 : Int32)), .val (.int N), .val .null, .val (.ref t)] [])
  have f10_ := (Fw7_.other W8_ (Or.inr (slot_ne (Or.inr (own_w hw 25 rfl)) (Or.inr (own_w hw 24 rfl)) (by decide) (t := .byte) (t' := (.array .byte)) (by decide) (by decide))))
  have q11_ : a1 ≠ t := Nat.ne_of_lt (Nat.lt_of_lt_of_le E1.lt r4_)
  exact own_ret0 X8_ hx Bd.returns Bd.notSynchronized (hb hby own_d234) e8_ ⟨t, kt, cd, N2, vs, rfl, N8_, ((((Keep.refl h0 [a1]).trans K3_ all0).wr W7_ (Or.inl (List.mem_of_getElem? (i := 0) rfl))).wr W8_ (Or.inl (List.mem_of_getElem? (i := 0) rfl))), (((E1.keep K3_).wr W7_).wr W8_), f10_, Fw8_, r4_, ((r5_.other W7_ (Ne.symm q11_)).other W8_ (Ne.symm q11_)), hcod⟩ (by decide) (by decide)
theorem own_d235 : decode jdk_42_method_3_code 0 = .ok (.aload_n 0, 1) := by decide +kernel
theorem own_d236 : decode jdk_42_method_3_code 1 = .ok (.aload_n 1, 1) := by decide +kernel
theorem own_d237 : decode jdk_42_method_3_code 2 = .ok (.iconst 0, 1) := by decide +kernel
theorem own_d238 : decode jdk_42_method_3_code 3 = .ok (.aload_n 1, 1) := by decide +kernel
theorem own_d239 : decode jdk_42_method_3_code 4 = .ok (.arraylength, 1) := by decide +kernel
theorem own_d240 : decode jdk_42_method_3_code 5 = .ok (.aconst_null, 1) := by decide +kernel
theorem own_d241 : decode jdk_42_method_3_code 6 = .ok (.invokespecial 27, 3) := by decide +kernel
theorem own_pd13 : parseMethodDescriptor "([CIILjava/lang/Void;)V" = some ⟨[(.array .char), .int, .int, (.object "java/lang/Void")], none⟩ := by decide +kernel
theorem own_d242 : decode jdk_42_method_3_code 9 = .ok (.return_, 1) := by decide +kernel
theorem own_ef_sInitC (m : MethodId) (a1 : Addr) (a : Addr) : entryFrame m #[(.ref a1), (.ref a)] 2 = mkF m 0 #[.val (.ref a1), .val (.ref a)] [] := by (first | (simp [entryFrame, mkF, argsToLocals, Value.category]; done) | rfl)
def own_Q_sInitC (Z : State) (a1 : Addr) (cz : Int32) (u1 : Value) (u2 : Value) (a : Addr) (ka : ClassId) (N : Int32) (cs : List Int32) (h0 : Heap) (n0 : Nat) (vq : Option Value) (h : Heap) (Lq : List Loc) : Prop := ∃ (t : Addr) (kt : ClassId) (cd : Int32) (N2 : Int32) (vs : List Value), (vq = none) ∧ (Fr n0 Lq) ∧ (Keep h0 h [a1]) ∧ (Exa Z h a1 "java/lang/String") ∧ (Fld Z h a1 "java/lang/String" "coder" "B" (.int cd)) ∧ (Fld Z h a1 "java/lang/String" "value" "[B" (.ref t)) ∧ (h0.size ≤ t) ∧ (Arv Z h t kt .byte N2 vs (.int 0)) ∧ (own_cod cs cd N2 vs)
abbrev own_R_sInitC : Room := { frames := 5, cells := 2, slots := 12, locals := 74 }
set_option maxRecDepth 65536 in
set_option maxHeartbeats 40000000 in
theorem own_rm_sInitC (l : Launch) (Z : State) (a0 : Array Value) (hw : ∀ d ∈ tables_1, d.before a0 Z = true) (wsq : List Jvm.Cond) (a1 : Addr) (cz : Int32) (u1 : Value) (u2 : Value) (a : Addr) (ka : ClassId) (N : Int32) (cs : List Int32) (h0 : Heap) (n0 : Nat) (Z0 : n0 ≤ h0.size) (O0 : Old Z n0 h0) (S1 : Sta Z Z.heap "java/lang/String" "COMPACT_STRINGS" "Z" (.int cz)) (P5 : ¬ cz = (0 : Int32)) (S3 : Sta Z Z.heap "java/lang/StringUTF16" "$assertionsDisabled" "Z" (.int (1 : Int32))) (S4 : Sta Z Z.heap "java/lang/StringUTF16" "HI_BYTE_SHIFT" "I" (.int (0 : Int32))) (S5 : Sta Z Z.heap "java/lang/StringUTF16" "LO_BYTE_SHIFT" "I" (.int (8 : Int32))) (E1 : Exa Z h0 a1 "java/lang/String") (F1 : Fld Z h0 a1 "java/lang/String" "value" "[B" u1) (F2 : Fld Z h0 a1 "java/lang/String" "coder" "B" u2) (g1 : n0 ≤ a1) (Vc : Arv Z h0 a ka .char N (cs.map Value.int) (.int 0)) (hN : N = Int32.ofNat cs.length) (hn : cs.length ≤ 4) (hp : 0 < cs.length) (hr : own_chs cs) :
    MetFree l (⟨"java/lang/String", "<init>", "([C)V"⟩ : MethodName) (head1 (Jvm.Cond.code (⟨"java/lang/String", "<init>", "([C)V"⟩ : MethodName) jdk_42_method_3_code 2 none :: wsq) own_R_sInitC) (fun aq Uq => aq = #[(.ref a1), (.ref a)] ∧ Z.Warmed39 Uq.vm ∧ Uq.heap = h0) (fun _ _ _ _ _ => True) (fun _ Uq oq Uq' => ∃ vq Lq, oq = .returned vq ∧ own_Q_sInitC Z a1 cz u1 u2 a ka N cs h0 n0 vq Uq'.heap Lq ∧ FrameEnd Uq oq Uq' Lq own_R_sInitC.cells own_R_sInitC.slots) := by
  refine MetFree.of_bodySF (plainFor_of_name own_pn0) hisR ?_
  intro p e s m args below meth cde s₁ Bd hml0 hP hK
  obtain ⟨rfl, hZ, hh⟩ := hP
  have hx := Bd.exec
  have hby := Bd.bytes
  have hml : cde.maxLocals = 2 := hml0
  have hown : s.vm.findClass "java/lang/String" = some m.cls := findClass_of_methodNamed Bd.named
  have hnm := (name_of_methodNamed Bd.named Bd.method).1
  have X0 : Stand p l e own_R_sInitC s m #[(.ref a1), (.ref a)] below meth cde s₁ [] 0 0 := Stand.of_body Bd
  have e0 : s₁.heap = h0 := by rw [← hh, Bd.state]; rfl
  have N0 := Fr.nil n0
  show own_Fin p e s below (own_Q_sInitC Z a1 cz u1 u2 a ka N cs h0 n0) own_R_sInitC.cells own_R_sInitC.slots s₁ (entryFrame m #[(.ref a1), (.ref a)] 2)
  rw [own_ef_sInitC m a1 a]
  refine own_via (fun _ kq => XS.aloadN X0.here hx rfl (hb hby own_d235) rfl rfl kq) ?_
  refine own_via (fun _ kq => XS.aloadN X0.here hx rfl (hb hby own_d236) rfl rfl kq) ?_
  refine own_via (fun _ kq => XS.iconst X0.here hx rfl (hb hby own_d237) kq) ?_
  refine own_via (fun _ kq => XS.aloadN X0.here hx rfl (hb hby own_d238) rfl rfl kq) ?_
  show own_Fin _ _ _ _ _ _ _ s₁ (mkF m 4 #[.val (.ref a1), .val (.ref a)] [(.ref a), (.int (0 : Int32)), (.ref a), (.ref a1)])
  obtain ⟨c1_, Ar1_, -, S1_, M1_, -, -⟩ := (id Vc)
  refine own_via (fun _ kq => X0.arraylength hx (own_eq e0 Ar1_.1) (State.isArrayOf_alike hZ.alike Ar1_.2.1) (g := (mkF m 4 #[.val (.ref a1), .val (.ref a)] [(.ref a), (.int (0 : Int32)), (.ref a), (.ref a1)])) rfl rfl (hb hby own_d239) _ (by rw [len_of S1_ M1_]; exact kq)) ?_
  show own_Fin _ _ _ _ _ _ _ s₁ (mkF m 5 #[.val (.ref a1), .val (.ref a)] [(.int N), (.int (0 : Int32)), (.ref a), (.ref a1)])
  refine own_via (fun _ kq => XS.aconstNull X0.here hx rfl (hb hby own_d240) kq) ?_
  show own_Fin _ _ _ _ _ _ _ s₁ (mkF m 6 #[.val (.ref a1), .val (.ref a)] [.null, (.int N), (.int (0 : Int32)), (.ref a), (.ref a1)])
  obtain ⟨_, _, ⟨T2_, L2_, k2_, n2_⟩, -, X2_, ⟨Lc2_, hQ2_, l2_, y2_, z2_⟩, st2_⟩ := X0.specialBack hx (y := (⟨"java/lang/String", "<init>", "([CIILjava/lang/Void;)V"⟩ : MethodName)) rfl hown (mvT hZ (own_w hw 15 rfl)) (mvT hZ (own_w hw 16 rfl)) (mvT hZ (own_w hw 18 rfl)) (by decide) (backOf (W := 0) (own_rm_sInitW l Z a0 hw [] a1 cz u1 u2 a ka N cs h0 n0 Z0 O0 S1 (by first | assumption | decide) S3 S4 S5 E1 F1 F2 g1 Vc hN hn hp hr) hZ (own_w hw 18 rfl) (own_w hw 10 rfl) (by decide) (by decide)) (g := (mkF m 6 #[.val (.ref a1), .val (.ref a)] [.null, (.int N), (.int (0 : Int32)), (.ref a), (.ref a1)])) rfl (by rw [hml]; rfl) (Steps.refl _) (a := a1) (argsL := [(.ref a), (.int (0 : Int32)), (.int N), .null]) (rest := []) (lenOf own_pd13 rfl) rfl (by show 2 * 0 + _ ≤ _; exact Nat.le_of_eq rfl) (hb hby own_d241) (fun _ _ => ⟨rfl, e0, (by decide : 0 + 2 ≤ _), (by decide : 0 + 12 ≤ _)⟩)
  dsimp only [Pt.U, Pt.locs, Pt.cells, Pt.slots] at X2_ l2_ y2_ z2_ st2_ hQ2_
  subst l2_ y2_ z2_
  obtain ⟨t, kt, cd, N2, vs, rfl, Nq2_, K2_, r3_, r4_, r5_, r6_, r7_, hcod⟩ := hQ2_
  have N2_ := Fr.app N0 Nq2_
  refine own_via (fun _ kq => st2_.trans kq) ?_
  show own_Fin _ _ _ _ _ _ _ T2_ (mkF m 9 #[.val (.ref a1), .val (.ref a)] [])
  exact own_ret0 X2_ hx Bd.returns Bd.notSynchronized (hb hby own_d242) rfl ⟨t, kt, cd, N2, vs, rfl, N2_, ((Keep.refl h0 [a1]).trans K2_ (allS (Or.inl (List.mem_of_getElem? (i := 0) rfl)) all0)), r3_, r4_, r5_, r6_, r7_, hcod⟩ (by decide) (by decide)
theorem own_d243 : decode jdk_42_method_149_code 8 = .ok (.aload_n 0, 1) := by decide +kernel
theorem own_d244 : decode jdk_42_method_149_code 9 = .ok (.ldc 7, 2) := by decide +kernel
theorem own_d245 : decode jdk_42_method_149_code 11 = .ok (.getfield 9, 3) := by decide +kernel
theorem own_d246 : decode jdk_42_method_149_code 14 = .ok (.putfield 9, 3) := by decide +kernel
theorem own_d247 : decode jdk_42_method_149_code 17 = .ok (.aload_n 0, 1) := by decide +kernel
theorem own_d248 : decode jdk_42_method_149_code 18 = .ok (.ldc 7, 2) := by decide +kernel
theorem own_d249 : decode jdk_42_method_149_code 20 = .ok (.getfield 15, 3) := by decide +kernel
theorem own_d250 : decode jdk_42_method_149_code 23 = .ok (.putfield 15, 3) := by decide +kernel
theorem own_d251 : decode jdk_42_method_149_code 26 = .ok (.return_, 1) := by decide +kernel
theorem own_ef_sInit4 (m : MethodId) (a1 : Addr) (b : Addr) : entryFrame m #[(.ref a1), (.ref b), (.int (0 : Int32)), (.int (0 : Int32)), .null] 6 = mkF m 0 #[.val (.ref a1), .val (.ref b), .val (.int (0 : Int32)), .val (.int (0 : Int32)), .val .null, .unset] [] := by (first | (simp [entryFrame, mkF, argsToLocals, Value.category]; done) | rfl)
def own_Q_sInit4 (Z : State) (a1 : Addr) (b : Addr) (u2 : Value) (h0 : Heap) (n0 : Nat) (vq : Option Value) (h : Heap) (Lq : List Loc) : Prop := ∃ (t : Addr) (kt : ClassId), (vq = none) ∧ (Fr n0 Lq) ∧ (Keep h0 h [a1]) ∧ (Exa Z h a1 "java/lang/String") ∧ (Fld Z h a1 "java/lang/String" "coder" "B" (.int (0 : Int32))) ∧ (Fld Z h a1 "java/lang/String" "value" "[B" (.ref t)) ∧ (Arv Z h t kt .byte (0 : Int32) [] (.int 0))
abbrev own_R_sInit4 : Room := { frames := 1, cells := 4, slots := 8, locals := 12 }
set_option maxRecDepth 65536 in
set_option maxHeartbeats 40000000 in
theorem own_rm_sInit4 (l : Launch) (Z : State) (a0 : Array Value) (hw : ∀ d ∈ tables_1, d.before a0 Z = true) (wsq : List Jvm.Cond) (a1 : Addr) (b : Addr) (u2 : Value) (h0 : Heap) (n0 : Nat) (Z0 : n0 ≤ h0.size) (E1 : Exa Z h0 a1 "java/lang/String") (F1 : Fld Z h0 a1 "java/lang/String" "value" "[B" .null) (F2 : Fld Z h0 a1 "java/lang/String" "coder" "B" u2) (g1 : n0 ≤ a1) :
    MetFree l (⟨"java/lang/String", "<init>", "([CIILjava/lang/Void;)V"⟩ : MethodName) (head1 (Jvm.Cond.code (⟨"java/lang/String", "<init>", "([CIILjava/lang/Void;)V"⟩ : MethodName) jdk_42_method_149_code 6 none :: wsq) own_R_sInit4) (fun aq Uq => aq = #[(.ref a1), (.ref b), (.int (0 : Int32)), (.int (0 : Int32)), .null] ∧ Z.Warmed39 Uq.vm ∧ Uq.heap = h0 ∧ CHv Z own_EL Uq.vm h0) (fun _ _ _ _ _ => True) (fun _ Uq oq Uq' => ∃ vq Lq, oq = .returned vq ∧ own_Q_sInit4 Z a1 b u2 h0 n0 vq Uq'.heap Lq ∧ CHr Z own_EL Uq.vm Uq.heap Uq'.vm Uq'.heap ∧ ReturnedEndW Uq oq Uq' Lq own_R_sInit4.cells own_R_sInit4.slots) := by
  refine MetFree.of_bodySF (plainFor_of_name own_pn0) hisR ?_
  intro p e s m args below meth cde s₁ Bd hml0 hP hK
  obtain ⟨rfl, hZ, hh, H0⟩ := hP
  have hx := Bd.exec
  have hby := Bd.bytes
  have hml : cde.maxLocals = 6 := hml0
  have hown : s.vm.findClass "java/lang/String" = some m.cls := findClass_of_methodNamed Bd.named
  have hnm := (name_of_methodNamed Bd.named Bd.method).1
  have X0 : Stand p l e own_R_sInit4 (s.setVm s.vm) m #[(.ref a1), (.ref b), (.int (0 : Int32)), (.int (0 : Int32)), .null] below meth cde s₁ [] 0 0 := Stand.of_body Bd
  have e0 : s₁.heap = h0 := by rw [← hh, Bd.state]; rfl
  have N0 := Fr.nil n0
  have hS0 : s.Since s.vm h0.size := (State.WarmedH.refl s).since _
  have hk0 : h0.size ≤ h0.size := Nat.le_refl _
  have C0 : CHr Z own_EL s.vm h0 s.vm h0 := CHr.refl H0
  show own_FinH p e s below Z own_EL (own_Q_sInit4 Z a1 b u2 h0 n0) own_R_sInit4.cells own_R_sInit4.slots s₁ (entryFrame m #[(.ref a1), (.ref b), (.int (0 : Int32)), (.int (0 : Int32)), .null] 6)
  rw [own_ef_sInit4 m a1 b]
  refine own_viaH (fun _ kq => XS.aloadN X0.here hx rfl (hb hby own_d215) rfl rfl kq) ?_
  show own_FinH _ _ _ _ _ _ _ _ _ s₁ (mkF m 1 #[.val (.ref a1), .val (.ref b), .val (.int (0 : Int32)), .val (.int (0 : Int32)), .val .null, .unset] [(.ref a1)])
  obtain ⟨T1_, X1_, e1_, st1_⟩ := initO X0 hx hZ hown (own_w hw 19 rfl) (own_w hw 20 rfl) (own_w hw 21 rfl) e0 (g := (mkF m 1 #[.val (.ref a1), .val (.ref b), .val (.int (0 : Int32)), .val (.int (0 : Int32)), .val .null, .unset] [(.ref a1)])) rfl (by rw [hml]; rfl) rfl (hb hby own_d216) (by decide) (W := 0) (by show 2 * 0 + _ ≤ _; exact Nat.le_of_eq rfl) (by decide)
  refine own_viaH (fun _ kq => st1_ _ kq) ?_
  show own_FinH _ _ _ _ _ _ _ _ _ T1_ (mkF m 4 #[.val (.ref a1), .val (.ref b), .val (.int (0 : Int32)), .val (.int (0 : Int32)), .val .null, .unset] [])
  refine own_viaH (fun _ kq => XS.iloadN X1_.here hx rfl (hb hby own_d217) rfl kq) ?_
  refine own_viaH (fun _ kq => XS.ifNo X1_.here hx rfl (hb hby own_d218) rfl ((if0 _ _).trans (teq rfl).2) kq) ?_
  show own_FinH _ _ _ _ _ _ _ _ _ T1_ (mkF m 8 #[.val (.ref a1), .val (.ref b), .val (.int (0 : Int32)), .val (.int (0 : Int32)), .val .null, .unset] [])
  refine own_viaH (fun _ kq => XS.aloadN X1_.here hx rfl (hb hby own_d243) rfl rfl kq) ?_
  show own_FinH _ _ _ _ _ _ _ _ _ T1_ (mkF m 9 #[.val (.ref a1), .val (.ref b), .val (.int (0 : Int32)), .val (.int (0 : Int32)), .val .null, .unset] [(.ref a1)])
  obtain ⟨a2_, T2_, h2_, k2_, b2_, kb2_, X2_, e2_, E2_, hS2_, hk2_, hZ2_, hown2_, rE2_, rC2_, rV2_, rA2_, -, -, Cq2_, -, Sx2_, st2_⟩ := ldcCH X1_ hx hZ hown (own_w hw 22 rfl) (own_atoms hw) e1_ hS0 hk0 (own_ew hw) (List.mem_of_getElem? (i := 0) rfl) H0 (vs := []) (z := (0 : Int32)) ⟨by decide, by decide⟩ (by decide) (by decide) (g := (mkF m 9 #[.val (.ref a1), .val (.ref b), .val (.int (0 : Int32)), .val (.int (0 : Int32)), .val .null, .unset] [(.ref a1)])) rfl (hb hby own_d244) (n := 0) (by decide) (by decide) (by decide) (by decide)
  refine own_viaH (fun _ kq => st2_ _ kq) ?_
  show own_FinH _ _ _ _ _ _ _ _ _ T2_ (mkF m 11 #[.val (.ref a1), .val (.ref b), .val (.int (0 : Int32)), .val (.int (0 : Int32)), .val .null, .unset] [(.ref a2_), (.ref a1)])
  obtain ⟨T3_, X3_, e3_, st3_⟩ := getF X2_ hx hZ2_ hown2_ (host := "") (Or.inl (own_w hw 28 rfl)) Via.refl e2_ rV2_ (g := (mkF m 11 #[.val (.ref a1), .val (.ref b), .val (.int (0 : Int32)), .val (.int (0 : Int32)), .val .null, .unset] [(.ref a2_), (.ref a1)])) rfl rfl (hb hby own_d245)
  refine own_viaH (fun _ kq => st3_ _ kq) ?_
  show own_FinH _ _ _ _ _ _ _ _ _ T3_ (mkF m 14 #[.val (.ref a1), .val (.ref b), .val (.int (0 : Int32)), .val (.int (0 : Int32)), .val .null, .unset] [(.ref b2_), (.ref a1)])
  have sf4_ : Safe Z own_EL T2_.vm h2_ a1 := own_safe_null hZ2_.alike (E1.ext E2_) (F1.ext E2_)
  obtain ⟨T5_, h5_, X5_, e5_, W5_, st5_⟩ := putF X3_ hx hZ2_ hown2_ (host := "") (Or.inl (own_w hw 28 rfl)) Via.refl e3_ (F1.ext E2_) (E1.ext E2_) (Or.inr ⟨(own_w hw 24 rfl), rfl, hnm⟩) (own_w hw 9 rfl) (ty := (.array .byte)) (by decide) rfl rfl (g := (mkF m 14 #[.val (.ref a1), .val (.ref b), .val (.int (0 : Int32)), .val (.int (0 : Int32)), .val .null, .unset] [(.ref b2_), (.ref a1)])) rfl rfl (hb hby own_d246)
  have Fw5_ := (F1.ext E2_).same W5_
  have N5_ := Fr.snoc X5_ N0 g1
  refine own_viaH (fun _ kq => st5_ _ kq) ?_
  show own_FinH _ _ _ _ _ _ _ _ _ T5_ (mkF m 17 #[.val (.ref a1), .val (.ref b), .val (.int (0 : Int32)), .val (.int (0 : Int32)), .val .null, .unset] [])
  refine own_viaH (fun _ kq => XS.aloadN X5_.here hx rfl (hb hby own_d247) rfl rfl kq) ?_
  show own_FinH _ _ _ _ _ _ _ _ _ T5_ (mkF m 18 #[.val (.ref a1), .val (.ref b), .val (.int (0 : Int32)), .val (.int (0 : Int32)), .val .null, .unset] [(.ref a1)])
  have C7_ := C0.trans Cq2_
  have H7_ := C7_.1
  have C8_ := C7_.trans (CHr.wr W5_ sf4_ H7_)
  have H8_ := C8_.1
  obtain ⟨a6_, T6_, h6_, k6_, b6_, kb6_, X6_, e6_, E6_, hS6_, hk6_, hZ6_, hown6_, rE6_, rC6_, rV6_, rA6_, -, -, Cq6_, -, Sx6_, st6_⟩ := ldcCH X5_ hx hZ2_ hown2_ (own_w hw 22 rfl) (own_atoms hw) e5_ hS2_ (Nat.le_trans hk2_ (Keep.of_wr W5_).1) (own_ew hw) (List.mem_of_getElem? (i := 0) rfl) H8_ (vs := []) (z := (0 : Int32)) ⟨by decide, by decide⟩ (by decide) (by decide) (g := (mkF m 18 #[.val (.ref a1), .val (.ref b), .val (.int (0 : Int32)), .val (.int (0 : Int32)), .val .null, .unset] [(.ref a1)])) rfl (hb hby own_d248) (n := 0) (by decide) (by decide) (by decide) (by decide)
  refine own_viaH (fun _ kq => st6_ _ kq) ?_
  show own_FinH _ _ _ _ _ _ _ _ _ T6_ (mkF m 20 #[.val (.ref a1), .val (.ref b), .val (.int (0 : Int32)), .val (.int (0 : Int32)), .val .null, .unset] [(.ref a6_), (.ref a1)])
  obtain ⟨T9_, X9_, e9_, st9_⟩ := getF X6_ hx hZ6_ hown6_ (host := "") (Or.inl (own_w hw 29 rfl)) Via.refl e6_ rC6_ (g := (mkF m 20 #[.val (.ref a1), .val (.ref b), .val (.int (0 : Int32)), .val (.int (0 : Int32)), .val .null, .unset] [(.ref a6_), (.ref a1)])) rfl rfl (hb hby own_d249)
  refine own_viaH (fun _ kq => st9_ _ kq) ?_
  show own_FinH _ _ _ _ _ _ _ _ _ T9_ (mkF m 23 #[.val (.ref a1), .val (.ref b), .val (.int (0 : Int32)), .val (.int (0 : Int32)), .val .null, .unset] [(.int (0 : Int32)), (.ref a1)])
  have sf10_ : Safe Z own_EL T2_.vm h5_ a1 := Safe.wr W5_ sf4_ H7_ sf4_
  have sf11_ : Safe Z own_EL T6_.vm h6_ a1 := Cq6_.safe (Fw5_).lt sf10_
  have f13_ := (((F2.ext E2_).other W5_ (Or.inr (slot_ne (Or.inr (own_w hw 25 rfl)) (Or.inr (own_w hw 24 rfl)) (by decide) (t := .byte) (t' := (.array .byte)) (by decide) (by decide)))).ext E6_)
  obtain ⟨T12_, h12_, X12_, e12_, W12_, st12_⟩ := putFN X9_ hx hZ6_ hown6_ (own_w hw 29 rfl) Via.refl e9_ f13_ (((E1.ext E2_).wr W5_).ext E6_) (Or.inr ⟨(own_w hw 25 rfl), rfl, hnm⟩) (own_w hw 9 rfl) (ty := .byte) (v' := (.int (0 : Int32))) (by decide) rfl (by decide) (g := (mkF m 23 #[.val (.ref a1), .val (.ref b), .val (.int (0 : Int32)), .val (.int (0 : Int32)), .val .null, .unset] [(.int (0 : Int32)), (.ref a1)])) rfl rfl (hb hby own_d250)
  have Fw12_ := f13_.same W12_
  have N12_ := Fr.snoc X12_ N5_ g1
  refine own_viaH (fun _ kq => st12_ _ kq) ?_
  show own_FinH _ _ _ _ _ _ _ _ _ T12_ (mkF m 26 #[.val (.ref a1), .val (.ref b), .val (.int (0 : Int32)), .val (.int (0 : Int32)), .val .null, .unset] [])
  have f14_ := ((Fw5_.ext E6_).other W12_ (Or.inr (slot_ne (Or.inr (own_w hw 24 rfl)) (Or.inr (own_w hw 25 rfl)) (by decide) (t := (.array .byte)) (t' := .byte) (by decide) (by decide))))
  have q15_ : a1 ≠ b2_ := (Sx2_ _ sf4_).2
  have f16_ := (((rA2_.other W5_ (Ne.symm q15_)).ext E6_).other W12_ (Ne.symm q15_))
  have C17_ := C8_.trans Cq6_
  have H17_ := C17_.1
  have C18_ := C17_.trans (CHr.wr W12_ sf11_ H17_)
  have H18_ := C18_.1
  exact own_ret0H X12_ hx Bd.returns Bd.notSynchronized (own_ew hw) hZ6_ hS6_ (Nat.le_trans hk6_ (Keep.of_wr W12_).1) hh C18_ (hb hby own_d251) e12_ ⟨b2_, kb2_, rfl, N12_, (((((Keep.refl h0 [a1]).ext E2_).wr W5_ (Or.inl (List.mem_of_getElem? (i := 0) rfl))).ext E6_).wr W12_ (Or.inl (List.mem_of_getElem? (i := 0) rfl))), ((((E1.ext E2_).wr W5_).ext E6_).wr W12_), Fw12_, f14_, f16_⟩ (by decide) (by decide)
theorem own_ef_sInit1 (m : MethodId) (a1 : Addr) (b : Addr) : entryFrame m #[(.ref a1), (.ref b)] 2 = mkF m 0 #[.val (.ref a1), .val (.ref b)] [] := by (first | (simp [entryFrame, mkF, argsToLocals, Value.category]; done) | rfl)
def own_Q_sInit1 (Z : State) (a1 : Addr) (b : Addr) (kb : ClassId) (u2 : Value) (h0 : Heap) (n0 : Nat) (vq : Option Value) (h : Heap) (Lq : List Loc) : Prop := ∃ (t : Addr) (kt : ClassId), (vq = none) ∧ (Fr n0 Lq) ∧ (Keep h0 h [a1]) ∧ (Exa Z h a1 "java/lang/String") ∧ (Fld Z h a1 "java/lang/String" "coder" "B" (.int (0 : Int32))) ∧ (Fld Z h a1 "java/lang/String" "value" "[B" (.ref t)) ∧ (Arv Z h t kt .byte (0 : Int32) [] (.int 0))
abbrev own_R_sInit1 : Room := { frames := 2, cells := 4, slots := 8, locals := 29 }
set_option maxRecDepth 65536 in
set_option maxHeartbeats 40000000 in
theorem own_rm_sInit1 (l : Launch) (Z : State) (a0 : Array Value) (hw : ∀ d ∈ tables_1, d.before a0 Z = true) (wsq : List Jvm.Cond) (a1 : Addr) (b : Addr) (kb : ClassId) (u2 : Value) (h0 : Heap) (n0 : Nat) (Z0 : n0 ≤ h0.size) (E1 : Exa Z h0 a1 "java/lang/String") (F1 : Fld Z h0 a1 "java/lang/String" "value" "[B" .null) (F2 : Fld Z h0 a1 "java/lang/String" "coder" "B" u2) (Vb : Arv Z h0 b kb .char (0 : Int32) [] (.int 0)) (g1 : n0 ≤ a1) :
    MetFree l (⟨"java/lang/String", "<init>", "([C)V"⟩ : MethodName) (head1 (Jvm.Cond.code (⟨"java/lang/String", "<init>", "([C)V"⟩ : MethodName) jdk_42_method_3_code 2 none :: wsq) own_R_sInit1) (fun aq Uq => aq = #[(.ref a1), (.ref b)] ∧ Z.Warmed39 Uq.vm ∧ Uq.heap = h0 ∧ CHv Z own_EL Uq.vm h0) (fun _ _ _ _ _ => True) (fun _ Uq oq Uq' => ∃ vq Lq, oq = .returned vq ∧ own_Q_sInit1 Z a1 b kb u2 h0 n0 vq Uq'.heap Lq ∧ CHr Z own_EL Uq.vm Uq.heap Uq'.vm Uq'.heap ∧ ReturnedEndW Uq oq Uq' Lq own_R_sInit1.cells own_R_sInit1.slots) := by
  refine MetFree.of_bodySF (plainFor_of_name own_pn0) hisR ?_
  intro p e s m args below meth cde s₁ Bd hml0 hP hK
  obtain ⟨rfl, hZ, hh, H0⟩ := hP
  have hx := Bd.exec
  have hby := Bd.bytes
  have hml : cde.maxLocals = 2 := hml0
  have hown : s.vm.findClass "java/lang/String" = some m.cls := findClass_of_methodNamed Bd.named
  have hnm := (name_of_methodNamed Bd.named Bd.method).1
  have X0 : Stand p l e own_R_sInit1 (s.setVm s.vm) m #[(.ref a1), (.ref b)] below meth cde s₁ [] 0 0 := Stand.of_body Bd
  have e0 : s₁.heap = h0 := by rw [← hh, Bd.state]; rfl
  have N0 := Fr.nil n0
  have hS0 : s.Since s.vm h0.size := (State.WarmedH.refl s).since _
  have hk0 : h0.size ≤ h0.size := Nat.le_refl _
  have C0 : CHr Z own_EL s.vm h0 s.vm h0 := CHr.refl H0
  show own_FinH p e s below Z own_EL (own_Q_sInit1 Z a1 b kb u2 h0 n0) own_R_sInit1.cells own_R_sInit1.slots s₁ (entryFrame m #[(.ref a1), (.ref b)] 2)
  rw [own_ef_sInit1 m a1 b]
  refine own_viaH (fun _ kq => XS.aloadN X0.here hx rfl (hb hby own_d235) rfl rfl kq) ?_
  refine own_viaH (fun _ kq => XS.aloadN X0.here hx rfl (hb hby own_d236) rfl rfl kq) ?_
  refine own_viaH (fun _ kq => XS.iconst X0.here hx rfl (hb hby own_d237) kq) ?_
  refine own_viaH (fun _ kq => XS.aloadN X0.here hx rfl (hb hby own_d238) rfl rfl kq) ?_
  show own_FinH _ _ _ _ _ _ _ _ _ s₁ (mkF m 4 #[.val (.ref a1), .val (.ref b)] [(.ref b), (.int (0 : Int32)), (.ref b), (.ref a1)])
  obtain ⟨c1_, Ar1_, -, S1_, M1_, -, -⟩ := (id Vb)
  refine own_viaH (fun _ kq => X0.arraylength hx (own_eq e0 Ar1_.1) (State.isArrayOf_alike hZ.alike Ar1_.2.1) (g := (mkF m 4 #[.val (.ref a1), .val (.ref b)] [(.ref b), (.int (0 : Int32)), (.ref b), (.ref a1)])) rfl rfl (hb hby own_d239) _ (by rw [len_of S1_ M1_]; exact kq)) ?_
  show own_FinH _ _ _ _ _ _ _ _ _ s₁ (mkF m 5 #[.val (.ref a1), .val (.ref b)] [(.int (0 : Int32)), (.int (0 : Int32)), (.ref b), (.ref a1)])
  refine own_viaH (fun _ kq => XS.aconstNull X0.here hx rfl (hb hby own_d240) kq) ?_
  show own_FinH _ _ _ _ _ _ _ _ _ s₁ (mkF m 6 #[.val (.ref a1), .val (.ref b)] [.null, (.int (0 : Int32)), (.int (0 : Int32)), (.ref b), (.ref a1)])
  obtain ⟨_, _, ⟨T2_, L2_, k2_, n2_⟩, -, Y2_, hSq2_, hgq2_, ⟨Lc2_, hQ2_, l2_, y2_, z2_, Cq2_⟩, st2_⟩ := X0.specialBackS hx (y := (⟨"java/lang/String", "<init>", "([CIILjava/lang/Void;)V"⟩ : MethodName)) rfl hown (mvT hZ (own_w hw 15 rfl)) (mvT hZ (own_w hw 16 rfl)) (mvT hZ (own_w hw 18 rfl)) (by decide) (backOfSH (s := s) (vm0 := s.vm) (W := 0) (own_rm_sInit4 l Z a0 hw [] a1 b u2 h0 n0 Z0 E1 F1 F2 g1) hZ (own_w hw 18 rfl) (own_w hw 10 rfl) (by decide) (by decide) (own_ew hw) H0) (g := (mkF m 6 #[.val (.ref a1), .val (.ref b)] [.null, (.int (0 : Int32)), (.int (0 : Int32)), (.ref b), (.ref a1)])) rfl (by rw [hml]; rfl) (Steps.refl _) (a := a1) (argsL := [(.ref b), (.int (0 : Int32)), (.int (0 : Int32)), .null]) (rest := []) (lenOf own_pd13 rfl) rfl (by show 2 * 0 + _ ≤ _; exact Nat.le_of_eq rfl) (hb hby own_d241) (fun _ _ => ⟨rfl, e0, (by decide : 0 + 4 ≤ _), (by decide : 0 + 8 ≤ _)⟩)
  dsimp only [Pt.U, Pt.locs, Pt.cells, Pt.slots] at Y2_ l2_ y2_ z2_ st2_ hQ2_ hSq2_ hgq2_ Cq2_
  subst l2_ y2_ z2_
  obtain ⟨X2_, hS2_, hZ2_, hown2_⟩ := rebS hS0 (by rw [e0]; exact hk0) Y2_ hSq2_ hgq2_ hZ hown
  obtain ⟨t, kt, rfl, Nq2_, K2_, r3_, r4_, r5_, r6_⟩ := hQ2_
  have N2_ := Fr.app N0 Nq2_
  refine own_viaH (fun _ kq => st2_.trans kq) ?_
  show own_FinH _ _ _ _ _ _ _ _ _ T2_ (mkF m 9 #[.val (.ref a1), .val (.ref b)] [])
  have C7_ := C0.trans Cq2_
  have H7_ := C7_.1
  exact own_ret0H X2_ hx Bd.returns Bd.notSynchronized (own_ew hw) hZ2_ hS2_ (Nat.le_refl _) hh C7_ (hb hby own_d242) rfl ⟨t, kt, rfl, N2_, ((Keep.refl h0 [a1]).trans K2_ (allS (Or.inl (List.mem_of_getElem? (i := 0) rfl)) all0)), r3_, r4_, r5_, r6_⟩ (by decide) (by decide)
theorem own_d252 : decode jdk_68_method_2_code 0 = .ok (.aload_n 0, 1) := by decide +kernel
theorem own_d253 : decode jdk_68_method_2_code 1 = .ok (.invokespecial 3, 3) := by decide +kernel
theorem own_d254 : decode jdk_68_method_2_code 4 = .ok (.getstatic 18, 3) := by decide +kernel
theorem own_d255 : decode jdk_68_method_2_code 7 = .ok (.ifCond .eq 18, 3) := by decide +kernel
theorem own_d256 : decode jdk_68_method_2_code 10 = .ok (.aload_n 0, 1) := by decide +kernel
theorem own_d257 : decode jdk_68_method_2_code 11 = .ok (.iload_n 1, 1) := by decide +kernel
theorem own_d258 : decode jdk_68_method_2_code 12 = .ok (.newarray .byte, 2) := by decide +kernel
theorem own_d259 : decode jdk_68_method_2_code 14 = .ok (.putfield 15, 3) := by decide +kernel
theorem own_d260 : decode jdk_68_method_2_code 17 = .ok (.aload_n 0, 1) := by decide +kernel
theorem own_d261 : decode jdk_68_method_2_code 18 = .ok (.iconst 0, 1) := by decide +kernel
theorem own_d262 : decode jdk_68_method_2_code 19 = .ok (.putfield 22, 3) := by decide +kernel
theorem own_d263 : decode jdk_68_method_2_code 22 = .ok (.goto 16, 3) := by decide +kernel
theorem own_d264 : decode jdk_68_method_2_code 38 = .ok (.return_, 1) := by decide +kernel
theorem own_pn4 : plainName "java/lang/AbstractStringBuilder" = true := by first | (simp [plainName, overriddenIn]; done) | decide +kernel
theorem own_ef_asbI (m : MethodId) (b : Addr) (N : Int32) : entryFrame m #[(.ref b), (.int N)] 2 = mkF m 0 #[.val (.ref b), .val (.int N)] [] := by (first | (simp [entryFrame, mkF, argsToLocals, Value.category]; done) | rfl)
def own_Q_asbI (Z : State) (b : Addr) (N : Int32) (n : Nat) (cz : Int32) (u1 : Value) (u2 : Value) (h0 : Heap) (n0 : Nat) (vq : Option Value) (h : Heap) (Lq : List Loc) : Prop := ∃ (t : Addr) (kt : ClassId), (vq = none) ∧ (Fr n0 Lq) ∧ (Keep h0 h [b]) ∧ (Exa Z h b "java/lang/StringBuilder") ∧ (Fld Z h b "java/lang/AbstractStringBuilder" "value" "[B" (.ref t)) ∧ (Fld Z h b "java/lang/AbstractStringBuilder" "coder" "B" (.int (0 : Int32))) ∧ (Fld Z h b "java/lang/AbstractStringBuilder" "count" "I" (.int (0 : Int32))) ∧ (Fld Z h b "java/lang/AbstractStringBuilder" "maybeLatin1" "Z" (.int (0 : Int32))) ∧ (h0.size ≤ t) ∧ (Arv Z h t kt .byte N (List.replicate n (.int 0)) (.int 0)) ∧ (Exa Z h t "[B")
abbrev own_R_asbI : Room := { frames := 1, cells := 1, slots := 4, locals := 12 }
set_option maxRecDepth 65536 in
set_option maxHeartbeats 40000000 in
theorem own_rm_asbI (l : Launch) (Z : State) (a0 : Array Value) (hw : ∀ d ∈ tables_1, d.before a0 Z = true) (wsq : List Jvm.Cond) (b : Addr) (N : Int32) (n : Nat) (cz : Int32) (u1 : Value) (u2 : Value) (h0 : Heap) (n0 : Nat) (Z0 : n0 ≤ h0.size) (O0 : Old Z n0 h0) (S1 : Sta Z Z.heap "java/lang/String" "COMPACT_STRINGS" "Z" (.int cz)) (P5 : ¬ cz = (0 : Int32)) (Eb : Exa Z h0 b "java/lang/StringBuilder") (Fv : Fld Z h0 b "java/lang/AbstractStringBuilder" "value" "[B" u1) (Fc : Fld Z h0 b "java/lang/AbstractStringBuilder" "coder" "B" u2) (Fn : Fld Z h0 b "java/lang/AbstractStringBuilder" "count" "I" (.int (0 : Int32))) (Fm : Fld Z h0 b "java/lang/AbstractStringBuilder" "maybeLatin1" "Z" (.int (0 : Int32))) (gb : n0 ≤ b) (hN : N = Int32.ofNat n) (hn : n ≤ 4) :
    MetFree l (⟨"java/lang/AbstractStringBuilder", "<init>", "(I)V"⟩ : MethodName) (head1 (Jvm.Cond.code (⟨"java/lang/AbstractStringBuilder", "<init>", "(I)V"⟩ : MethodName) jdk_68_method_2_code 2 none :: wsq) own_R_asbI) (fun aq Uq => aq = #[(.ref b), (.int N)] ∧ Z.Warmed39 Uq.vm ∧ Uq.heap = h0) (fun _ _ _ _ _ => True) (fun _ Uq oq Uq' => ∃ vq Lq, oq = .returned vq ∧ own_Q_asbI Z b N n cz u1 u2 h0 n0 vq Uq'.heap Lq ∧ FrameEnd Uq oq Uq' Lq own_R_asbI.cells own_R_asbI.slots) := by
  refine MetFree.of_bodySF (plainFor_of_name own_pn4) hisR ?_
  intro p e s m args below meth cde s₁ Bd hml0 hP hK
  obtain ⟨rfl, hZ, hh⟩ := hP
  have hx := Bd.exec
  have hby := Bd.bytes
  have hml : cde.maxLocals = 2 := hml0
  have hown : s.vm.findClass "java/lang/AbstractStringBuilder" = some m.cls := findClass_of_methodNamed Bd.named
  have hnm := (name_of_methodNamed Bd.named Bd.method).1
  have X0 : Stand p l e own_R_asbI s m #[(.ref b), (.int N)] below meth cde s₁ [] 0 0 := Stand.of_body Bd
  have e0 : s₁.heap = h0 := by rw [← hh, Bd.state]; rfl
  have N0 := Fr.nil n0
  show own_Fin p e s below (own_Q_asbI Z b N n cz u1 u2 h0 n0) own_R_asbI.cells own_R_asbI.slots s₁ (entryFrame m #[(.ref b), (.int N)] 2)
  rw [own_ef_asbI m b N]
  refine own_via (fun _ kq => XS.aloadN X0.here hx rfl (hb hby own_d252) rfl rfl kq) ?_
  show own_Fin _ _ _ _ _ _ _ s₁ (mkF m 1 #[.val (.ref b), .val (.int N)] [(.ref b)])
  obtain ⟨T1_, X1_, e1_, st1_⟩ := initO X0 hx hZ hown (own_w hw 57 rfl) (own_w hw 20 rfl) (own_w hw 21 rfl) e0 (g := (mkF m 1 #[.val (.ref b), .val (.int N)] [(.ref b)])) rfl (by rw [hml]; rfl) rfl (hb hby own_d253) (by decide) (W := 0) (by show 2 * 0 + _ ≤ _; exact Nat.le_of_eq rfl) (by decide)
  refine own_via (fun _ kq => st1_ _ kq) ?_
  show own_Fin _ _ _ _ _ _ _ T1_ (mkF m 4 #[.val (.ref b), .val (.int N)] [])
  obtain ⟨T2_, X2_, e2_, st2_⟩ := getS2 X1_ hx hZ hown (host := "") (Or.inl (own_w hw 58 rfl)) Via.refl e1_ (S1.ext O0.2) (g := (mkF m 4 #[.val (.ref b), .val (.int N)] [])) rfl (hb hby own_d254)
  refine own_via (fun _ kq => st2_ _ kq) ?_
  show own_Fin _ _ _ _ _ _ _ T2_ (mkF m 7 #[.val (.ref b), .val (.int N)] [(.int cz)])
  refine own_via (fun _ kq => XS.ifNo X2_.here hx rfl (hb hby own_d255) rfl ((if0 _ _).trans (feq P5).1) kq) ?_
  show own_Fin _ _ _ _ _ _ _ T2_ (mkF m 10 #[.val (.ref b), .val (.int N)] [])
  refine own_via (fun _ kq => XS.aloadN X2_.here hx rfl (hb hby own_d256) rfl rfl kq) ?_
  refine own_via (fun _ kq => XS.iloadN X2_.here hx rfl (hb hby own_d257) rfl kq) ?_
  show own_Fin _ _ _ _ _ _ _ T2_ (mkF m 12 #[.val (.ref b), .val (.int N)] [(.int N), (.ref b)])
  obtain ⟨T3_, h3_, k3_, X3_, e3_, E3_, A3_, Ea3_, st3_⟩ := newPE X2_ hx hZ (own_w hw 23 rfl) e2_ (g := (mkF m 12 #[.val (.ref b), .val (.int N)] [(.int N), (.ref b)])) rfl (hb hby own_d258) rfl (own_nneg hN (by omega)) (cap := 4) (by rw [own_clamp hN (by omega)]; exact hn) (by decide) (by decide) (by decide) (ad := "[B") (by decide)
  obtain ⟨b3_, g3_⟩ : ∃ z, z = h0.size := ⟨_, rfl⟩
  rw [← g3_] at A3_ st3_ Ea3_
  have V3_ : Arv Z h3_ b3_ k3_ .byte N (List.replicate n (.int (0 : Int32))) (.int (0 : Int32)) := (Arv.new A3_ (own_nneg hN (by omega))).pad (pad_rep [] (.int (0 : Int32)) n)
  refine own_via (fun _ kq => st3_ _ kq) ?_
  show own_Fin _ _ _ _ _ _ _ T3_ (mkF m 14 #[.val (.ref b), .val (.int N)] [(.ref b3_), (.ref b)])
  obtain ⟨T4_, h4_, X4_, e4_, W4_, st4_⟩ := putF X3_ hx hZ hown (host := "") (Or.inl (own_w hw 59 rfl)) Via.refl e3_ (Fv.ext E3_) (Eb.ext E3_) (Or.inl (own_w hw 60 rfl)) (own_w hw 35 rfl) (ty := (.array .byte)) (by decide) rfl rfl (g := (mkF m 14 #[.val (.ref b), .val (.int N)] [(.ref b3_), (.ref b)])) rfl rfl (hb hby own_d259)
  have Fw4_ := (Fv.ext E3_).same W4_
  have N4_ := Fr.snoc X4_ N0 gb
  refine own_via (fun _ kq => st4_ _ kq) ?_
  show own_Fin _ _ _ _ _ _ _ T4_ (mkF m 17 #[.val (.ref b), .val (.int N)] [])
  refine own_via (fun _ kq => XS.aloadN X4_.here hx rfl (hb hby own_d260) rfl rfl kq) ?_
  refine own_via (fun _ kq => XS.iconst X4_.here hx rfl (hb hby own_d261) kq) ?_
  show own_Fin _ _ _ _ _ _ _ T4_ (mkF m 19 #[.val (.ref b), .val (.int N)] [(.int (0 : Int32)), (.ref b)])
  have f6_ := ((Fc.ext E3_).other W4_ (Or.inr (slot_ne (Or.inl (own_w hw 62 rfl)) (Or.inl (own_w hw 60 rfl)) (by decide) (t := .byte) (t' := (.array .byte)) (by decide) (by decide))))
  obtain ⟨T5_, h5_, X5_, e5_, W5_, st5_⟩ := putFN X4_ hx hZ hown (own_w hw 61 rfl) Via.refl e4_ f6_ ((Eb.ext E3_).wr W4_) (Or.inl (own_w hw 62 rfl)) (own_w hw 35 rfl) (ty := .byte) (v' := (.int (0 : Int32))) (by decide) rfl (by decide) (g := (mkF m 19 #[.val (.ref b), .val (.int N)] [(.int (0 : Int32)), (.ref b)])) rfl rfl (hb hby own_d262)
  have Fw5_ := f6_.same W5_
  have N5_ := Fr.snoc X5_ N4_ gb
  refine own_via (fun _ kq => st5_ _ kq) ?_
  show own_Fin _ _ _ _ _ _ _ T5_ (mkF m 22 #[.val (.ref b), .val (.int N)] [])
  refine own_via (fun _ kq => XS.goto X5_.here hx rfl (pc0 := 22) (pc' := 38) rfl (hb hby own_d263) (by decide) (by decide) kq) ?_
  show own_Fin _ _ _ _ _ _ _ T5_ (mkF m 38 #[.val (.ref b), .val (.int N)] [])
  have f7_ := (Fw4_.other W5_ (Or.inr (slot_ne (Or.inl (own_w hw 60 rfl)) (Or.inl (own_w hw 62 rfl)) (by decide) (t := (.array .byte)) (t' := .byte) (by decide) (by decide))))
  have f8_ := (((Fn.ext E3_).other W4_ (Or.inr (slot_ne (Or.inl (own_w hw 107 rfl)) (Or.inl (own_w hw 60 rfl)) (by decide) (t := .int) (t' := (.array .byte)) (by decide) (by decide)))).other W5_ (Or.inr (slot_ne (Or.inl (own_w hw 107 rfl)) (Or.inl (own_w hw 62 rfl)) (by decide) (t := .int) (t' := .byte) (by decide) (by decide))))
  have f9_ := (((Fm.ext E3_).other W4_ (Or.inr (slot_ne (Or.inl (own_w hw 231 rfl)) (Or.inl (own_w hw 60 rfl)) (by decide) (t := .boolean) (t' := (.array .byte)) (by decide) (by decide)))).other W5_ (Or.inr (slot_ne (Or.inl (own_w hw 231 rfl)) (Or.inl (own_w hw 62 rfl)) (by decide) (t := .boolean) (t' := .byte) (by decide) (by decide))))
  have q10_ : b ≠ b3_ := Nat.ne_of_lt (Nat.lt_of_lt_of_le Eb.lt (Nat.le_of_eq g3_.symm))
  exact own_ret0 X5_ hx Bd.returns Bd.notSynchronized (hb hby own_d264) e5_ ⟨b3_, k3_, rfl, N5_, ((((Keep.refl h0 [b]).ext E3_).wr W4_ (Or.inl (List.mem_of_getElem? (i := 0) rfl))).wr W5_ (Or.inl (List.mem_of_getElem? (i := 0) rfl))), (((Eb.ext E3_).wr W4_).wr W5_), f7_, Fw5_, f8_, f9_, (Nat.le_of_eq g3_.symm), ((V3_.other W4_ (Ne.symm q10_)).other W5_ (Ne.symm q10_)), ((Ea3_.wr W4_).wr W5_)⟩ (by decide) (by decide)
theorem own_d265 : decode jdk_67_method_2_code 0 = .ok (.aload_n 0, 1) := by decide +kernel
theorem own_d266 : decode jdk_67_method_2_code 1 = .ok (.iload_n 1, 1) := by decide +kernel
theorem own_d267 : decode jdk_67_method_2_code 2 = .ok (.invokespecial 1, 3) := by decide +kernel
theorem own_pd14 : parseMethodDescriptor "(I)V" = some ⟨[.int], none⟩ := by decide +kernel
theorem own_d268 : decode jdk_67_method_2_code 5 = .ok (.return_, 1) := by decide +kernel
theorem own_pn5 : plainName "java/lang/StringBuilder" = true := by first | (simp [plainName, overriddenIn]; done) | decide +kernel
theorem own_ef_sbI (m : MethodId) (b : Addr) (N : Int32) : entryFrame m #[(.ref b), (.int N)] 2 = mkF m 0 #[.val (.ref b), .val (.int N)] [] := by (first | (simp [entryFrame, mkF, argsToLocals, Value.category]; done) | rfl)
def own_Q_sbI (Z : State) (b : Addr) (N : Int32) (n : Nat) (cz : Int32) (u1 : Value) (u2 : Value) (h0 : Heap) (n0 : Nat) (vq : Option Value) (h : Heap) (Lq : List Loc) : Prop := ∃ (t : Addr) (kt : ClassId), (vq = none) ∧ (Fr n0 Lq) ∧ (Keep h0 h [b]) ∧ (Exa Z h b "java/lang/StringBuilder") ∧ (Fld Z h b "java/lang/AbstractStringBuilder" "value" "[B" (.ref t)) ∧ (Fld Z h b "java/lang/AbstractStringBuilder" "coder" "B" (.int (0 : Int32))) ∧ (Fld Z h b "java/lang/AbstractStringBuilder" "count" "I" (.int (0 : Int32))) ∧ (Fld Z h b "java/lang/AbstractStringBuilder" "maybeLatin1" "Z" (.int (0 : Int32))) ∧ (h0.size ≤ t) ∧ (Arv Z h t kt .byte N (List.replicate n (.int 0)) (.int 0)) ∧ (Exa Z h t "[B")
abbrev own_R_sbI : Room := { frames := 2, cells := 1, slots := 4, locals := 25 }
set_option maxRecDepth 65536 in
set_option maxHeartbeats 40000000 in
theorem own_rm_sbI (l : Launch) (Z : State) (a0 : Array Value) (hw : ∀ d ∈ tables_1, d.before a0 Z = true) (wsq : List Jvm.Cond) (b : Addr) (N : Int32) (n : Nat) (cz : Int32) (u1 : Value) (u2 : Value) (h0 : Heap) (n0 : Nat) (Z0 : n0 ≤ h0.size) (O0 : Old Z n0 h0) (S1 : Sta Z Z.heap "java/lang/String" "COMPACT_STRINGS" "Z" (.int cz)) (P5 : ¬ cz = (0 : Int32)) (Eb : Exa Z h0 b "java/lang/StringBuilder") (Fv : Fld Z h0 b "java/lang/AbstractStringBuilder" "value" "[B" u1) (Fc : Fld Z h0 b "java/lang/AbstractStringBuilder" "coder" "B" u2) (Fn : Fld Z h0 b "java/lang/AbstractStringBuilder" "count" "I" (.int (0 : Int32))) (Fm : Fld Z h0 b "java/lang/AbstractStringBuilder" "maybeLatin1" "Z" (.int (0 : Int32))) (gb : n0 ≤ b) (hN : N = Int32.ofNat n) (hn : n ≤ 4) :
    MetFree l (⟨"java/lang/StringBuilder", "<init>", "(I)V"⟩ : MethodName) (head1 (Jvm.Cond.code (⟨"java/lang/StringBuilder", "<init>", "(I)V"⟩ : MethodName) jdk_67_method_2_code 2 none :: wsq) own_R_sbI) (fun aq Uq => aq = #[(.ref b), (.int N)] ∧ Z.Warmed39 Uq.vm ∧ Uq.heap = h0) (fun _ _ _ _ _ => True) (fun _ Uq oq Uq' => ∃ vq Lq, oq = .returned vq ∧ own_Q_sbI Z b N n cz u1 u2 h0 n0 vq Uq'.heap Lq ∧ FrameEnd Uq oq Uq' Lq own_R_sbI.cells own_R_sbI.slots) := by
  refine MetFree.of_bodySF (plainFor_of_name own_pn5) hisR ?_
  intro p e s m args below meth cde s₁ Bd hml0 hP hK
  obtain ⟨rfl, hZ, hh⟩ := hP
  have hx := Bd.exec
  have hby := Bd.bytes
  have hml : cde.maxLocals = 2 := hml0
  have hown : s.vm.findClass "java/lang/StringBuilder" = some m.cls := findClass_of_methodNamed Bd.named
  have hnm := (name_of_methodNamed Bd.named Bd.method).1
  have X0 : Stand p l e own_R_sbI s m #[(.ref b), (.int N)] below meth cde s₁ [] 0 0 := Stand.of_body Bd
  have e0 : s₁.heap = h0 := by rw [← hh, Bd.state]; rfl
  have N0 := Fr.nil n0
  show own_Fin p e s below (own_Q_sbI Z b N n cz u1 u2 h0 n0) own_R_sbI.cells own_R_sbI.slots s₁ (entryFrame m #[(.ref b), (.int N)] 2)
  rw [own_ef_sbI m b N]
  refine own_via (fun _ kq => XS.aloadN X0.here hx rfl (hb hby own_d265) rfl rfl kq) ?_
  refine own_via (fun _ kq => XS.iloadN X0.here hx rfl (hb hby own_d266) rfl kq) ?_
  show own_Fin _ _ _ _ _ _ _ s₁ (mkF m 2 #[.val (.ref b), .val (.int N)] [(.int N), (.ref b)])
  obtain ⟨_, _, ⟨T1_, L1_, k1_, n1_⟩, -, X1_, ⟨Lc1_, hQ1_, l1_, y1_, z1_⟩, st1_⟩ := X0.specialBack hx (y := (⟨"java/lang/AbstractStringBuilder", "<init>", "(I)V"⟩ : MethodName)) rfl hown (mvT hZ (own_w hw 51 rfl)) (mvT hZ (own_w hw 52 rfl)) (mvT hZ (own_w hw 56 rfl)) (by decide) (backOf (W := 0) (own_rm_asbI l Z a0 hw [] b N n cz u1 u2 h0 n0 Z0 O0 S1 (by first | assumption | decide) Eb Fv Fc Fn Fm gb hN hn) hZ (own_w hw 56 rfl) (own_w hw 55 rfl) (by decide) (by decide)) (g := (mkF m 2 #[.val (.ref b), .val (.int N)] [(.int N), (.ref b)])) rfl (by rw [hml]; rfl) (Steps.refl _) (a := b) (argsL := [(.int N)]) (rest := []) (lenOf own_pd14 rfl) rfl (by show 2 * 0 + _ ≤ _; exact Nat.le_of_eq rfl) (hb hby own_d267) (fun _ _ => ⟨rfl, e0, (by decide : 0 + 1 ≤ _), (by decide : 0 + 4 ≤ _)⟩)
  dsimp only [Pt.U, Pt.locs, Pt.cells, Pt.slots] at X1_ l1_ y1_ z1_ st1_ hQ1_
  subst l1_ y1_ z1_
  obtain ⟨t, kt, rfl, Nq1_, K1_, r2_, r3_, r4_, r5_, r6_, r7_, r8_, r9_⟩ := hQ1_
  have N1_ := Fr.app N0 Nq1_
  refine own_via (fun _ kq => st1_.trans kq) ?_
  show own_Fin _ _ _ _ _ _ _ T1_ (mkF m 5 #[.val (.ref b), .val (.int N)] [])
  exact own_ret0 X1_ hx Bd.returns Bd.notSynchronized (hb hby own_d268) rfl ⟨t, kt, rfl, N1_, ((Keep.refl h0 [b]).trans K1_ (allS (Or.inl (List.mem_of_getElem? (i := 0) rfl)) all0)), r2_, r3_, r4_, r5_, r6_, r7_, r8_, r9_⟩ (by decide) (by decide)
theorem own_d269 : decode jdk_43_method_49_code 0 = .ok (.iconst 0, 1) := by decide +kernel
theorem own_d270 : decode jdk_43_method_49_code 1 = .ok (.istore 5, 2) := by decide +kernel
theorem own_d271 : decode jdk_43_method_49_code 3 = .ok (.iload 5, 2) := by decide +kernel
theorem own_d272 : decode jdk_43_method_49_code 5 = .ok (.iload 4, 2) := by decide +kernel
theorem own_d273 : decode jdk_43_method_49_code 7 = .ok (.if_icmp .ge 26, 3) := by decide +kernel
theorem own_d274 : decode jdk_43_method_49_code 33 = .ok (.return_, 1) := by decide +kernel
theorem own_d275 : decode jdk_43_method_49_code 10 = .ok (.aload_n 2, 1) := by decide +kernel
theorem own_d276 : decode jdk_43_method_49_code 11 = .ok (.iload_n 3, 1) := by decide +kernel
theorem own_d277 : decode jdk_43_method_49_code 12 = .ok (.iinc 3 1, 3) := by decide +kernel
theorem own_d278 : decode jdk_43_method_49_code 15 = .ok (.aload_n 0, 1) := by decide +kernel
theorem own_d279 : decode jdk_43_method_49_code 16 = .ok (.iload_n 1, 1) := by decide +kernel
theorem own_d280 : decode jdk_43_method_49_code 17 = .ok (.iinc 1 1, 3) := by decide +kernel
theorem own_d281 : decode jdk_43_method_49_code 20 = .ok (.baload, 1) := by decide +kernel
theorem own_d282 : decode jdk_43_method_49_code 21 = .ok (.sipush 255, 3) := by decide +kernel
theorem own_d283 : decode jdk_43_method_49_code 24 = .ok (.iand, 1) := by decide +kernel
theorem own_d284 : decode jdk_43_method_49_code 25 = .ok (.i2c, 1) := by decide +kernel
theorem own_d285 : decode jdk_43_method_49_code 26 = .ok (.castore, 1) := by decide +kernel
theorem own_d286 : decode jdk_43_method_49_code 27 = .ok (.iinc 5 1, 3) := by decide +kernel
theorem own_d287 : decode jdk_43_method_49_code 30 = .ok (.goto (-27), 3) := by decide +kernel
theorem own_ef_latInf (m : MethodId) (t : Addr) (a : Addr) (N : Int32) : entryFrame m #[(.ref t), (.int (0 : Int32)), (.ref a), (.int (0 : Int32)), (.int N)] 6 = mkF m 0 #[.val (.ref t), .val (.int (0 : Int32)), .val (.ref a), .val (.int (0 : Int32)), .val (.int N), .unset] [] := by (first | (simp [entryFrame, mkF, argsToLocals, Value.category]; done) | rfl)
def own_Q_latInf (Z : State) (t : Addr) (kt : ClassId) (N2 : Int32) (vs : List Value) (cs : List Int32) (a : Addr) (ka : ClassId) (N : Int32) (xs : List Value) (h0 : Heap) (n0 : Nat) (vq : Option Value) (h : Heap) (Lq : List Loc) : Prop := ∃ (ws : List Value), (vq = none) ∧ (Fr n0 Lq) ∧ (Keep h0 h [a]) ∧ (Arv Z h a ka .char N ws (.int 0)) ∧ (own_chl cs ws)
abbrev own_R_latInf : Room := { frames := 0, cells := 0, slots := 0, locals := 0 }
set_option maxRecDepth 65536 in
set_option maxHeartbeats 40000000 in
theorem own_rm_latInf (l : Launch) (Z : State) (a0 : Array Value) (hw : ∀ d ∈ tables_1, d.before a0 Z = true) (wsq : List Jvm.Cond) (t : Addr) (kt : ClassId) (N2 : Int32) (vs : List Value) (cs : List Int32) (a : Addr) (ka : ClassId) (N : Int32) (xs : List Value) (h0 : Heap) (n0 : Nat) (Z0 : n0 ≤ h0.size) (Va : Arv Z h0 t kt .byte N2 vs (.int 0)) (hN : N2 = Int32.ofNat cs.length) (hn : cs.length ≤ 4) (hth : own_thin cs vs) (hr : own_chs cs) (Vx : Arv Z h0 a ka .char N xs (.int 0)) (ga : n0 ≤ a) (hne : t ≠ a) (hxl : xs.length = cs.length) (hNN : N = Int32.ofNat cs.length) :
    MetFree l (⟨"java/lang/StringLatin1", "inflate", "([BI[CII)V"⟩ : MethodName) (head1 (Jvm.Cond.code (⟨"java/lang/StringLatin1", "inflate", "([BI[CII)V"⟩ : MethodName) jdk_43_method_49_code 6 none :: wsq) own_R_latInf) (fun aq Uq => aq = #[(.ref t), (.int (0 : Int32)), (.ref a), (.int (0 : Int32)), (.int N)] ∧ Z.Warmed39 Uq.vm ∧ Uq.heap = h0) (fun _ _ _ _ _ => True) (fun _ Uq oq Uq' => ∃ vq Lq, oq = .returned vq ∧ own_Q_latInf Z t kt N2 vs cs a ka N xs h0 n0 vq Uq'.heap Lq ∧ FrameEnd Uq oq Uq' Lq own_R_latInf.cells own_R_latInf.slots) := by
  refine MetFree.of_bodySF (plainFor_of_name own_pn2) hisR ?_
  intro p e s m args below meth cde s₁ Bd hml0 hP hK
  obtain ⟨rfl, hZ, hh⟩ := hP
  have hx := Bd.exec
  have hby := Bd.bytes
  have hml : cde.maxLocals = 6 := hml0
  have hown : s.vm.findClass "java/lang/StringLatin1" = some m.cls := findClass_of_methodNamed Bd.named
  have hnm := (name_of_methodNamed Bd.named Bd.method).1
  have X0 : Stand p l e own_R_latInf s m #[(.ref t), (.int (0 : Int32)), (.ref a), (.int (0 : Int32)), (.int N)] below meth cde s₁ [] 0 0 := Stand.of_body Bd
  have e0 : s₁.heap = h0 := by rw [← hh, Bd.state]; rfl
  have N0 := Fr.nil n0
  show own_Fin p e s below (own_Q_latInf Z t kt N2 vs cs a ka N xs h0 n0) own_R_latInf.cells own_R_latInf.slots s₁ (entryFrame m #[(.ref t), (.int (0 : Int32)), (.ref a), (.int (0 : Int32)), (.int N)] 6)
  rw [own_ef_latInf m t a N]
  refine own_via (fun _ kq => XS.iconst X0.here hx rfl (hb hby own_d269) kq) ?_
  refine own_via (fun _ kq => XS.istore X0.here hx rfl (hb hby own_d270) rfl (l' := #[.val (.ref t), .val (.int (0 : Int32)), .val (.ref a), .val (.int (0 : Int32)), .val (.int N), .val (.int (0 : Int32))]) rfl kq) ?_
  have lp : ∀ (k : Nat) (i : Nat) (j : Int32) (ws : List Value) (Tl : State) (locl : List Loc) (Xl : Stand p l e own_R_latInf s m #[(.ref t), (.int (0 : Int32)), (.ref a), (.int (0 : Int32)), (.int N)] below meth cde Tl locl (0) (0)) (Nl : Fr n0 locl) (hl : Heap) (el : Tl.heap = hl) (Kl : Keep h0 hl [a]) (Vl : Arv Z hl t kt .byte N2 vs (.int 0)) (Vm : Arv Z hl a ka .char N ws (.int 0)) (hj : j = Int32.ofNat i) (hi : i ≤ cs.length) (hk : cs.length ≤ i + k) (hwl : ws.length = cs.length) (hh_ : ∀ q, q < i → ws.getD q (.int 0) = .int (cs.getD q 0)), own_Fin p e s below (own_Q_latInf Z t kt N2 vs cs a ka N xs h0 n0) own_R_latInf.cells own_R_latInf.slots Tl (mkF m 3 #[.val (.ref t), .val (.int j), .val (.ref a), .val (.int j), .val (.int N), .val (.int j)] []) := by
    intro k
    induction k with
    | zero =>
      intro i j ws Tl locl Xl Nl hl el Kl Vl Vm hj hi hk hwl hh_
      have Zl : n0 ≤ hl.size := Nat.le_trans Z0 Kl.1
      refine own_via (fun _ kq => XS.iload Xl.here hx rfl (hb hby own_d271) rfl kq) ?_
      refine own_via (fun _ kq => XS.iload Xl.here hx rfl (hb hby own_d272) rfl kq) ?_
      refine own_via (fun _ kq => XS.icmpYes Xl.here hx rfl (pc0 := 7) (pc' := 33) rfl (hb hby own_d273) rfl (flt (fun q => absurd ((own_ltN hj hNN (by omega) (by omega)).mp q) (by omega))).2.1 (by decide) (by decide) kq) ?_
      show own_Fin _ _ _ _ _ _ _ Tl (mkF m 33 #[.val (.ref t), .val (.int j), .val (.ref a), .val (.int j), .val (.int N), .val (.int j)] [])
      exact own_ret0 Xl hx Bd.returns Bd.notSynchronized (hb hby own_d274) el ⟨ws, rfl, Nl, Kl, Vm, (fun q hq => hh_ q (by omega))⟩ (by decide) (by decide)
    | succ k ih =>
      intro i j ws Tl locl Xl Nl hl el Kl Vl Vm hj hi hk hwl hh_
      have Zl : n0 ≤ hl.size := Nat.le_trans Z0 Kl.1
      refine own_via (fun _ kq => XS.iload Xl.here hx rfl (hb hby own_d271) rfl kq) ?_
      refine own_via (fun _ kq => XS.iload Xl.here hx rfl (hb hby own_d272) rfl kq) ?_
      rcases Classical.em (j < N) with hg | hg
      · refine own_via (fun _ kq => XS.icmpNo Xl.here hx rfl (hb hby own_d273) rfl (tlt hg).2.1 kq) ?_
        show own_Fin _ _ _ _ _ _ _ Tl (mkF m 10 #[.val (.ref t), .val (.int j), .val (.ref a), .val (.int j), .val (.int N), .val (.int j)] [])
        have hlt : i < cs.length := (own_ltN hj hNN (by omega) (by omega)).mp hg
        refine own_via (fun _ kq => XS.aloadN Xl.here hx rfl (hb hby own_d275) rfl rfl kq) ?_
        refine own_via (fun _ kq => XS.iloadN Xl.here hx rfl (hb hby own_d276) rfl kq) ?_
        refine own_via (fun _ kq => XS.iinc Xl.here hx rfl (hb hby own_d277) rfl (l' := #[.val (.ref t), .val (.int j), .val (.ref a), .val (.int (j + (1 : Int32))), .val (.int N), .val (.int j)]) rfl kq) ?_
        refine own_via (fun _ kq => XS.aloadN Xl.here hx rfl (hb hby own_d278) rfl rfl kq) ?_
        refine own_via (fun _ kq => XS.iloadN Xl.here hx rfl (hb hby own_d279) rfl kq) ?_
        show own_Fin _ _ _ _ _ _ _ Tl (mkF m 17 #[.val (.ref t), .val (.int j), .val (.ref a), .val (.int (j + (1 : Int32))), .val (.int N), .val (.int j)] [(.int j), (.ref t), (.int j), (.ref a)])
        refine own_via (fun _ kq => XS.iinc Xl.here hx rfl (hb hby own_d280) rfl (l' := #[.val (.ref t), .val (.int (j + (1 : Int32))), .val (.ref a), .val (.int (j + (1 : Int32))), .val (.int N), .val (.int j)]) rfl kq) ?_
        show own_Fin _ _ _ _ _ _ _ Tl (mkF m 20 #[.val (.ref t), .val (.int (j + (1 : Int32))), .val (.ref a), .val (.int (j + (1 : Int32))), .val (.int N), .val (.int j)] [(.int j), (.ref t), (.int j), (.ref a)])
        obtain ⟨c1_, Ar1_, q1_, S1_, M1_, H1_, G1_⟩ := (id Vl)
        have hin1_ : ¬ (j < 0 ∨ c1_.slots.size ≤ (j).toNatClampNeg) := inb_of S1_ (own_inb hj hN hlt (by omega))
        have hat1_ : c1_.slots[(j).toNatClampNeg]? = some (.int (own_lo (cs.getD i 0))) := H1_.at hin1_ (by rw [own_clamp hj (by omega)]; exact (hth i hlt).1)
        refine own_via (fun _ kq => Xl.baloadBytes hx (j := j) (v := (.int (own_lo (cs.getD i 0)))) (own_eq el Ar1_.1) (State.isArrayOf_alike hZ.alike Ar1_.2.1) Ar1_.2.2 hin1_ hat1_ (g := (mkF m 20 #[.val (.ref t), .val (.int (j + (1 : Int32))), .val (.ref a), .val (.int (j + (1 : Int32))), .val (.int N), .val (.int j)] [(.int j), (.ref t), (.int j), (.ref a)])) rfl rfl (hb hby own_d281) _ kq) ?_
        show own_Fin _ _ _ _ _ _ _ Tl (mkF m 21 #[.val (.ref t), .val (.int (j + (1 : Int32))), .val (.ref a), .val (.int (j + (1 : Int32))), .val (.int N), .val (.int j)] [(.int (own_lo (cs.getD i 0))), (.int j), (.ref a)])
        refine own_via (fun _ kq => XS.sipush Xl.here hx rfl (hb hby own_d282) kq) ?_
        refine own_via (fun _ kq => XS.iand Xl.here hx rfl (hb hby own_d283) rfl kq) ?_
        refine own_via (fun _ kq => XS.i2c Xl.here hx rfl (hb hby own_d284) rfl kq) ?_
        show own_Fin _ _ _ _ _ _ _ Tl (mkF m 26 #[.val (.ref t), .val (.int (j + (1 : Int32))), .val (.ref a), .val (.int (j + (1 : Int32))), .val (.int N), .val (.int j)] [(.int (((own_lo (cs.getD i 0)) &&& (255 : Int32)).toUInt32.toUInt16.toUInt32.toInt32)), (.int j), (.ref a)])
        obtain ⟨c2_, Ar2_, q2_, S2_, M2_, H2_, G2_⟩ := (id Vm)
        have hin2_ : ¬ (j < 0 ∨ c2_.slots.size ≤ (j).toNatClampNeg) := inb_of S2_ (own_inb hj hNN hlt (by omega))
        obtain ⟨T2_, h2_, X2_, e2_, W2_, st2_⟩ := stC Xl hx hZ el Ar2_ (j := j) hin2_ (g := (mkF m 26 #[.val (.ref t), .val (.int (j + (1 : Int32))), .val (.ref a), .val (.int (j + (1 : Int32))), .val (.int N), .val (.int j)] [(.int (((own_lo (cs.getD i 0)) &&& (255 : Int32)).toUInt32.toUInt16.toUInt32.toInt32)), (.int j), (.ref a)])) rfl rfl (hb hby own_d285)
        have V2_ := Arv.set Ar2_ q2_ S2_ M2_ H2_ G2_ (fits_nar_char _) W2_ i (own_clamp hj (by omega)) (by omega)
        have U2_ : Arv Z h2_ a ka .char N ((ws).set i (.int (cs.getD i 0))) (.int 0) := by
          have hq := V2_
          rw [show nar .char (((own_lo (cs.getD i 0)) &&& (255 : Int32)).toUInt32.toUInt16.toUInt32.toInt32) = (cs.getD i 0) from (own_latch (own_lat_of (hr i) (hth i hlt).2))] at hq
          exact hq
        have N2_ := Fr.snoc X2_ Nl ga
        refine own_via (fun _ kq => st2_ _ kq) ?_
        show own_Fin _ _ _ _ _ _ _ T2_ (mkF m 27 #[.val (.ref t), .val (.int (j + (1 : Int32))), .val (.ref a), .val (.int (j + (1 : Int32))), .val (.int N), .val (.int j)] [])
        refine own_via (fun _ kq => XS.iinc X2_.here hx rfl (hb hby own_d286) rfl (l' := #[.val (.ref t), .val (.int (j + (1 : Int32))), .val (.ref a), .val (.int (j + (1 : Int32))), .val (.int N), .val (.int (j + (1 : Int32)))]) rfl kq) ?_
        refine own_via (fun _ kq => XS.goto X2_.here hx rfl (pc0 := 30) (pc' := 3) rfl (hb hby own_d287) (by decide) (by decide) kq) ?_
        exact ih (i + 1) (j + (1 : Int32)) ((ws).set i (.int (cs.getD i 0))) T2_ _ X2_ N2_ _ e2_ (Kl.wr W2_ (Or.inl (List.mem_of_getElem? (i := 0) rfl))) (Vl.other W2_ hne) U2_ (own_succ hj) (by omega) (by omega) (by rw [List.length_set]; exact hwl) (own_setc hh_ (by omega))
      · refine own_via (fun _ kq => XS.icmpYes Xl.here hx rfl (pc0 := 7) (pc' := 33) rfl (hb hby own_d273) rfl (flt hg).2.1 (by decide) (by decide) kq) ?_
        show own_Fin _ _ _ _ _ _ _ Tl (mkF m 33 #[.val (.ref t), .val (.int j), .val (.ref a), .val (.int j), .val (.int N), .val (.int j)] [])
        have hge : cs.length ≤ i := Nat.le_of_not_lt fun q => hg ((own_ltN hj hNN (by omega) (by omega)).mpr q)
        exact own_ret0 Xl hx Bd.returns Bd.notSynchronized (hb hby own_d274) el ⟨ws, rfl, Nl, Kl, Vm, (fun q hq => hh_ q (by omega))⟩ (by decide) (by decide)
  exact lp cs.length 0 (0 : Int32) xs s₁ _ X0 N0 _ e0 (Keep.refl h0 [a]) Va Vx rfl (by omega) (by omega) hxl (fun q hq => absurd hq (Nat.not_lt_zero q))
theorem own_d288 : decode jdk_43_method_9_code 0 = .ok (.aload_n 0, 1) := by decide +kernel
theorem own_d289 : decode jdk_43_method_9_code 1 = .ok (.arraylength, 1) := by decide +kernel
theorem own_d290 : decode jdk_43_method_9_code 2 = .ok (.newarray .char, 2) := by decide +kernel
theorem own_d291 : decode jdk_43_method_9_code 4 = .ok (.astore_n 1, 1) := by decide +kernel
theorem own_d292 : decode jdk_43_method_9_code 5 = .ok (.aload_n 0, 1) := by decide +kernel
theorem own_d293 : decode jdk_43_method_9_code 6 = .ok (.iconst 0, 1) := by decide +kernel
theorem own_d294 : decode jdk_43_method_9_code 7 = .ok (.aload_n 1, 1) := by decide +kernel
theorem own_d295 : decode jdk_43_method_9_code 8 = .ok (.iconst 0, 1) := by decide +kernel
theorem own_d296 : decode jdk_43_method_9_code 9 = .ok (.aload_n 0, 1) := by decide +kernel
theorem own_d297 : decode jdk_43_method_9_code 10 = .ok (.arraylength, 1) := by decide +kernel
theorem own_d298 : decode jdk_43_method_9_code 11 = .ok (.invokestatic 13, 3) := by decide +kernel
theorem own_pd15 : parseMethodDescriptor "([BI[CII)V" = some ⟨[(.array .byte), .int, (.array .char), .int, .int], none⟩ := by decide +kernel
theorem own_d299 : decode jdk_43_method_9_code 14 = .ok (.aload_n 1, 1) := by decide +kernel
theorem own_d300 : decode jdk_43_method_9_code 15 = .ok (.areturn, 1) := by decide +kernel
theorem own_ef_latToC (m : MethodId) (t : Addr) : entryFrame m #[(.ref t)] 2 = mkF m 0 #[.val (.ref t), .unset] [] := by (first | (simp [entryFrame, mkF, argsToLocals, Value.category]; done) | rfl)
def own_Q_latToC (Z : State) (t : Addr) (kt : ClassId) (N2 : Int32) (vs : List Value) (cs : List Int32) (h0 : Heap) (n0 : Nat) (vq : Option Value) (h : Heap) (Lq : List Loc) : Prop := ∃ (a : Addr) (ka : ClassId) (ws : List Value), (vq = some (.ref a)) ∧ (Fr n0 Lq) ∧ (Keep h0 h []) ∧ (h0.size ≤ a) ∧ (Arv Z h a ka .char N2 ws (.int 0)) ∧ (own_chl cs ws)
abbrev own_R_latToC : Room := { frames := 1, cells := 1, slots := 4, locals := 17 }
set_option maxRecDepth 65536 in
set_option maxHeartbeats 40000000 in
theorem own_rm_latToC (l : Launch) (Z : State) (a0 : Array Value) (hw : ∀ d ∈ tables_1, d.before a0 Z = true) (wsq : List Jvm.Cond) (t : Addr) (kt : ClassId) (N2 : Int32) (vs : List Value) (cs : List Int32) (h0 : Heap) (n0 : Nat) (Z0 : n0 ≤ h0.size) (Va : Arv Z h0 t kt .byte N2 vs (.int 0)) (hN : N2 = Int32.ofNat cs.length) (hn : cs.length ≤ 4) (hth : own_thin cs vs) (hr : own_chs cs) :
    MetFree l (⟨"java/lang/StringLatin1", "toChars", "([B)[C"⟩ : MethodName) (head1 (Jvm.Cond.code (⟨"java/lang/StringLatin1", "toChars", "([B)[C"⟩ : MethodName) jdk_43_method_9_code 2 (some (.array .char)) :: wsq) own_R_latToC) (fun aq Uq => aq = #[(.ref t)] ∧ Z.Warmed39 Uq.vm ∧ Uq.heap = h0) (fun _ _ _ _ _ => True) (fun _ Uq oq Uq' => ∃ vq Lq, oq = .returned vq ∧ own_Q_latToC Z t kt N2 vs cs h0 n0 vq Uq'.heap Lq ∧ FrameEnd Uq oq Uq' Lq own_R_latToC.cells own_R_latToC.slots) := by
  refine MetFree.of_bodySF (plainFor_of_name own_pn2) hisR ?_
  intro p e s m args below meth cde s₁ Bd hml0 hP hK
  obtain ⟨rfl, hZ, hh⟩ := hP
  have hx := Bd.exec
  have hby := Bd.bytes
  have hml : cde.maxLocals = 2 := hml0
  have hown : s.vm.findClass "java/lang/StringLatin1" = some m.cls := findClass_of_methodNamed Bd.named
  have hnm := (name_of_methodNamed Bd.named Bd.method).1
  have X0 : Stand p l e own_R_latToC s m #[(.ref t)] below meth cde s₁ [] 0 0 := Stand.of_body Bd
  have e0 : s₁.heap = h0 := by rw [← hh, Bd.state]; rfl
  have N0 := Fr.nil n0
  show own_Fin p e s below (own_Q_latToC Z t kt N2 vs cs h0 n0) own_R_latToC.cells own_R_latToC.slots s₁ (entryFrame m #[(.ref t)] 2)
  rw [own_ef_latToC m t]
  refine own_via (fun _ kq => XS.aloadN X0.here hx rfl (hb hby own_d288) rfl rfl kq) ?_
  show own_Fin _ _ _ _ _ _ _ s₁ (mkF m 1 #[.val (.ref t), .unset] [(.ref t)])
  obtain ⟨c1_, Ar1_, -, S1_, M1_, -, -⟩ := (id Va)
  refine own_via (fun _ kq => X0.arraylength hx (own_eq e0 Ar1_.1) (State.isArrayOf_alike hZ.alike Ar1_.2.1) (g := (mkF m 1 #[.val (.ref t), .unset] [(.ref t)])) rfl rfl (hb hby own_d289) _ (by rw [len_of S1_ M1_]; exact kq)) ?_
  show own_Fin _ _ _ _ _ _ _ s₁ (mkF m 2 #[.val (.ref t), .unset] [(.int N2)])
  obtain ⟨T2_, h2_, k2_, X2_, e2_, E2_, A2_, st2_⟩ := newP X0 hx hZ (own_w hw 11 rfl) e0 (g := (mkF m 2 #[.val (.ref t), .unset] [(.int N2)])) rfl (hb hby own_d290) rfl (own_nneg hN (by omega)) (cap := 4) (by rw [own_clamp hN (by omega)]; exact hn) (by decide) (by decide) (by decide)
  obtain ⟨b2_, g2_⟩ : ∃ z, z = h0.size := ⟨_, rfl⟩
  rw [← g2_] at A2_ st2_
  have V2_ : Arv Z h2_ b2_ k2_ .char N2 (List.replicate cs.length (.int (0 : Int32))) (.int (0 : Int32)) := (Arv.new A2_ (own_nneg hN (by omega))).pad (pad_rep [] (.int (0 : Int32)) cs.length)
  refine own_via (fun _ kq => st2_ _ kq) ?_
  show own_Fin _ _ _ _ _ _ _ T2_ (mkF m 4 #[.val (.ref t), .unset] [(.ref b2_)])
  refine own_via (fun _ kq => XS.astoreN X2_.here hx rfl (hb hby own_d291) rfl rfl (l' := #[.val (.ref t), .val (.ref b2_)]) rfl kq) ?_
  refine own_via (fun _ kq => XS.aloadN X2_.here hx rfl (hb hby own_d292) rfl rfl kq) ?_
  refine own_via (fun _ kq => XS.iconst X2_.here hx rfl (hb hby own_d293) kq) ?_
  refine own_via (fun _ kq => XS.aloadN X2_.here hx rfl (hb hby own_d294) rfl rfl kq) ?_
  refine own_via (fun _ kq => XS.iconst X2_.here hx rfl (hb hby own_d295) kq) ?_
  refine own_via (fun _ kq => XS.aloadN X2_.here hx rfl (hb hby own_d296) rfl rfl kq) ?_
  show own_Fin _ _ _ _ _ _ _ T2_ (mkF m 10 #[.val (.ref t), .val (.ref b2_)] [(.ref t), (.int (0 : Int32)), (.ref b2_), (.int (0 : Int32)), (.ref t)])
  obtain ⟨c3_, Ar3_, -, S3_, M3_, -, -⟩ := (id (Va.ext E2_))
  refine own_via (fun _ kq => X2_.arraylength hx (own_eq e2_ Ar3_.1) (State.isArrayOf_alike hZ.alike Ar3_.2.1) (g := (mkF m 10 #[.val (.ref t), .val (.ref b2_)] [(.ref t), (.int (0 : Int32)), (.ref b2_), (.int (0 : Int32)), (.ref t)])) rfl rfl (hb hby own_d297) _ (by rw [len_of S3_ M3_]; exact kq)) ?_
  show own_Fin _ _ _ _ _ _ _ T2_ (mkF m 11 #[.val (.ref t), .val (.ref b2_)] [(.int N2), (.int (0 : Int32)), (.ref b2_), (.int (0 : Int32)), (.ref t)])
  have q4_ : t ≠ b2_ := Nat.ne_of_lt (Nat.lt_of_lt_of_le Va.lt (Nat.le_of_eq g2_.symm))
  have g6_ : n0 ≤ b2_ := Nat.le_trans Z0 (Nat.le_of_eq g2_.symm)
  obtain ⟨_, _, ⟨T5_, L5_, k5_, n5_⟩, -, X5_, ⟨Lc5_, hQ5_, l5_, y5_, z5_⟩, st5_⟩ := Jvm.LawKit.callS X2_ hx (y := (⟨"java/lang/StringLatin1", "inflate", "([BI[CII)V"⟩ : MethodName)) hown (mvT hZ (own_w hw 77 rfl)) (mvT hZ (own_w hw 78 rfl)) (mvT hZ (own_w hw 75 rfl)) (mvT hZ (own_w hw 79 rfl)) (by decide) (backOf (W := 0) (own_rm_latInf l Z a0 hw [] t kt N2 vs cs b2_ k2_ N2 (List.replicate cs.length (.int (0 : Int32))) h2_ n0 (Nat.le_trans Z0 E2_.1) (Va.ext E2_) hN hn hth hr V2_ g6_ q4_ List.length_replicate hN) hZ (own_w hw 79 rfl) (own_w hw 75 rfl) (by decide) (by decide)) (g := (mkF m 11 #[.val (.ref t), .val (.ref b2_)] [(.int N2), (.int (0 : Int32)), (.ref b2_), (.int (0 : Int32)), (.ref t)])) rfl (by rw [hml]; rfl) (argsL := [(.ref t), (.int (0 : Int32)), (.ref b2_), (.int (0 : Int32)), (.int N2)]) (rest := []) (lenOf own_pd15 rfl) rfl (by show 2 * 0 + _ ≤ _; exact Nat.le_of_eq rfl) (hb hby own_d298) (fun _ _ => ⟨rfl, e2_, (by decide : 0 + 1 + 0 ≤ _), (by decide : 0 + 4 + 0 ≤ _)⟩)
  dsimp only [Pt.U, Pt.locs, Pt.cells, Pt.slots] at X5_ l5_ y5_ z5_ st5_ hQ5_
  subst l5_ y5_ z5_
  obtain ⟨ws, rfl, Nq5_, K5_, r7_, hx_⟩ := hQ5_
  have N5_ := Fr.app N0 Nq5_
  refine own_via (fun _ kq => st5_ _ kq) ?_
  show own_Fin _ _ _ _ _ _ _ T5_ (mkF m 14 #[.val (.ref t), .val (.ref b2_)] [])
  refine own_via (fun _ kq => XS.aloadN X5_.here hx rfl (hb hby own_d299) rfl rfl kq) ?_
  show own_Fin _ _ _ _ _ _ _ T5_ (mkF m 15 #[.val (.ref t), .val (.ref b2_)] [(.ref b2_)])
  exact own_retA X5_ hx Bd.returns Bd.notSynchronized rfl rfl (hb hby own_d300) rfl ⟨b2_, k2_, ws, rfl, N5_, (((Keep.refl h0 []).ext E2_).trans K5_ (allS (Or.inr (Nat.le_of_eq g2_.symm)) all0)), (Nat.le_of_eq g2_.symm), r7_, hx_⟩ (by decide) (by decide)
theorem own_d301 : decode jdk_41_method_13_code 0 = .ok (.iload_n 2, 1) := by decide +kernel
theorem own_d302 : decode jdk_41_method_13_code 1 = .ok (.iload_n 0, 1) := by decide +kernel
theorem own_d303 : decode jdk_41_method_13_code 2 = .ok (.ior, 1) := by decide +kernel
theorem own_d304 : decode jdk_41_method_13_code 3 = .ok (.iload_n 1, 1) := by decide +kernel
theorem own_d305 : decode jdk_41_method_13_code 4 = .ok (.ior, 1) := by decide +kernel
theorem own_d306 : decode jdk_41_method_13_code 5 = .ok (.ifCond .lt 10, 3) := by decide +kernel
theorem own_d307 : decode jdk_41_method_13_code 8 = .ok (.iload_n 1, 1) := by decide +kernel
theorem own_d308 : decode jdk_41_method_13_code 9 = .ok (.iload_n 2, 1) := by decide +kernel
theorem own_d309 : decode jdk_41_method_13_code 10 = .ok (.iload_n 0, 1) := by decide +kernel
theorem own_d310 : decode jdk_41_method_13_code 11 = .ok (.isub, 1) := by decide +kernel
theorem own_d311 : decode jdk_41_method_13_code 12 = .ok (.if_icmp .le 11, 3) := by decide +kernel
theorem own_d312 : decode jdk_41_method_13_code 23 = .ok (.iload_n 0, 1) := by decide +kernel
theorem own_d313 : decode jdk_41_method_13_code 24 = .ok (.ireturn, 1) := by decide +kernel
theorem own_ef_chkF (m : MethodId) (k : Int32) (nn : Int32) (fm : Value) (r_fm : fm.isRef = true) : entryFrame m #[(.int (0 : Int32)), (.int k), (.int nn), fm] 4 = mkF m 0 #[.val (.int (0 : Int32)), .val (.int k), .val (.int nn), .val fm] [] := by cases fm <;> first | (cases r_fm; done) | (first | (simp [entryFrame, mkF, argsToLocals, Value.category]; done) | rfl)
def own_Q_chkF (Z : State) (k : Int32) (nn : Int32) (i : Nat) (n : Nat) (fm : Value) (h0 : Heap) (n0 : Nat) (vq : Option Value) (h : Heap) (Lq : List Loc) : Prop := (vq = some (.int (0 : Int32))) ∧ (Fr n0 Lq) ∧ (h = h0)
abbrev own_R_chkF : Room := { frames := 0, cells := 0, slots := 0, locals := 0 }
set_option maxRecDepth 65536 in
set_option maxHeartbeats 40000000 in
theorem own_rm_chkF (l : Launch) (Z : State) (a0 : Array Value) (hw : ∀ d ∈ tables_1, d.before a0 Z = true) (wsq : List Jvm.Cond) (k : Int32) (nn : Int32) (i : Nat) (n : Nat) (fm : Value) (h0 : Heap) (n0 : Nat) (Z0 : n0 ≤ h0.size) (hk : k = Int32.ofNat i) (hm : nn = Int32.ofNat n) (hi : i ≤ n) (hn : n ≤ 4000) (r_fm : fm.isRef = true) :
    MetFree l (⟨"jdk/internal/util/Preconditions", "checkFromIndexSize", "(IIILjava/util/function/BiFunction;)I"⟩ : MethodName) (head1 (Jvm.Cond.code (⟨"jdk/internal/util/Preconditions", "checkFromIndexSize", "(IIILjava/util/function/BiFunction;)I"⟩ : MethodName) jdk_41_method_13_code 4 (some .int) :: wsq) own_R_chkF) (fun aq Uq => aq = #[(.int (0 : Int32)), (.int k), (.int nn), fm] ∧ Z.Warmed39 Uq.vm ∧ Uq.heap = h0) (fun _ _ _ _ _ => True) (fun _ Uq oq Uq' => ∃ vq Lq, oq = .returned vq ∧ own_Q_chkF Z k nn i n fm h0 n0 vq Uq'.heap Lq ∧ FrameEnd Uq oq Uq' Lq own_R_chkF.cells own_R_chkF.slots) := by
  refine MetFree.of_bodySF (plainFor_of_name own_pn1) hisR ?_
  intro p e s m args below meth cde s₁ Bd hml0 hP hK
  obtain ⟨rfl, hZ, hh⟩ := hP
  have hx := Bd.exec
  have hby := Bd.bytes
  have hml : cde.maxLocals = 4 := hml0
  have hown : s.vm.findClass "jdk/internal/util/Preconditions" = some m.cls := findClass_of_methodNamed Bd.named
  have hnm := (name_of_methodNamed Bd.named Bd.method).1
  have X0 : Stand p l e own_R_chkF s m #[(.int (0 : Int32)), (.int k), (.int nn), fm] below meth cde s₁ [] 0 0 := Stand.of_body Bd
  have e0 : s₁.heap = h0 := by rw [← hh, Bd.state]; rfl
  have N0 := Fr.nil n0
  show own_Fin p e s below (own_Q_chkF Z k nn i n fm h0 n0) own_R_chkF.cells own_R_chkF.slots s₁ (entryFrame m #[(.int (0 : Int32)), (.int k), (.int nn), fm] 4)
  rw [own_ef_chkF m k nn fm r_fm]
  refine own_via (fun _ kq => XS.iloadN X0.here hx rfl (hb hby own_d301) rfl kq) ?_
  refine own_via (fun _ kq => XS.iloadN X0.here hx rfl (hb hby own_d302) rfl kq) ?_
  refine own_via (fun _ kq => XS.ior X0.here hx rfl (hb hby own_d303) rfl kq) ?_
  refine own_via (fun _ kq => XS.iloadN X0.here hx rfl (hb hby own_d304) rfl kq) ?_
  refine own_via (fun _ kq => XS.ior X0.here hx rfl (hb hby own_d305) rfl kq) ?_
  refine own_via (fun _ kq => XS.ifNo X0.here hx rfl (hb hby own_d306) rfl ((if0 _ _).trans (flt (own_orneg hk hm hi hn)).1) kq) ?_
  show own_Fin _ _ _ _ _ _ _ s₁ (mkF m 8 #[.val (.int (0 : Int32)), .val (.int k), .val (.int nn), .val fm] [])
  refine own_via (fun _ kq => XS.iloadN X0.here hx rfl (hb hby own_d307) rfl kq) ?_
  refine own_via (fun _ kq => XS.iloadN X0.here hx rfl (hb hby own_d308) rfl kq) ?_
  refine own_via (fun _ kq => XS.iloadN X0.here hx rfl (hb hby own_d309) rfl kq) ?_
  refine own_via (fun _ kq => XS.isub X0.here hx rfl (hb hby own_d310) rfl kq) ?_
  show own_Fin _ _ _ _ _ _ _ s₁ (mkF m 12 #[.val (.int (0 : Int32)), .val (.int k), .val (.int nn), .val fm] [(.int (nn - (0 : Int32))), (.int k)])
  refine own_via (fun _ kq => XS.icmpYes X0.here hx rfl (pc0 := 12) (pc' := 23) rfl (hb hby own_d311) rfl (flt (own_subn hk hm hi hn)).2.2.2 (by decide) (by decide) kq) ?_
  show own_Fin _ _ _ _ _ _ _ s₁ (mkF m 23 #[.val (.int (0 : Int32)), .val (.int k), .val (.int nn), .val fm] [])
  refine own_via (fun _ kq => XS.iloadN X0.here hx rfl (hb hby own_d312) rfl kq) ?_
  show own_Fin _ _ _ _ _ _ _ s₁ (mkF m 24 #[.val (.int (0 : Int32)), .val (.int k), .val (.int nn), .val fm] [(.int (0 : Int32))])
  exact own_retI X0 hx Bd.returns Bd.notSynchronized (hb hby own_d313) e0 rfl ⟨rfl, N0, rfl⟩ (by decide) (by decide)
theorem own_d314 : decode jdk_42_method_157_code 0 = .ok (.iload_n 0, 1) := by decide +kernel
theorem own_d315 : decode jdk_42_method_157_code 1 = .ok (.iload_n 1, 1) := by decide +kernel
theorem own_d316 : decode jdk_42_method_157_code 2 = .ok (.iload_n 2, 1) := by decide +kernel
theorem own_d317 : decode jdk_42_method_157_code 3 = .ok (.getstatic 1053, 3) := by decide +kernel
theorem own_d318 : decode jdk_42_method_157_code 6 = .ok (.invokestatic 1065, 3) := by decide +kernel
theorem own_pd16 : parseMethodDescriptor "(IIILjava/util/function/BiFunction;)I" = some ⟨[.int, .int, .int, (.object "java/util/function/BiFunction")], some .int⟩ := by decide +kernel
theorem own_d319 : decode jdk_42_method_157_code 9 = .ok (.ireturn, 1) := by decide +kernel
theorem own_ef_chkO (m : MethodId) (k : Int32) (nn : Int32) : entryFrame m #[(.int (0 : Int32)), (.int k), (.int nn)] 3 = mkF m 0 #[.val (.int (0 : Int32)), .val (.int k), .val (.int nn)] [] := by (first | (simp [entryFrame, mkF, argsToLocals, Value.category]; done) | rfl)
def own_Q_chkO (Z : State) (k : Int32) (nn : Int32) (i : Nat) (n : Nat) (fm : Value) (h0 : Heap) (n0 : Nat) (vq : Option Value) (h : Heap) (Lq : List Loc) : Prop := (vq = some (.int (0 : Int32))) ∧ (Fr n0 Lq) ∧ (h = h0)
abbrev own_R_chkO : Room := { frames := 1, cells := 0, slots := 0, locals := 15 }
set_option maxRecDepth 65536 in
set_option maxHeartbeats 40000000 in
theorem own_rm_chkO (l : Launch) (Z : State) (a0 : Array Value) (hw : ∀ d ∈ tables_1, d.before a0 Z = true) (wsq : List Jvm.Cond) (k : Int32) (nn : Int32) (i : Nat) (n : Nat) (fm : Value) (h0 : Heap) (n0 : Nat) (Z0 : n0 ≤ h0.size) (O0 : Old Z n0 h0) (S2 : Sta Z Z.heap "jdk/internal/util/Preconditions" "SIOOBE_FORMATTER" "Ljava/util/function/BiFunction;" fm) (r_fm : fm.isRef = true) (hk : k = Int32.ofNat i) (hm : nn = Int32.ofNat n) (hi : i ≤ n) (hn : n ≤ 4000) :
    MetFree l (⟨"java/lang/String", "checkBoundsOffCount", "(III)I"⟩ : MethodName) (head1 (Jvm.Cond.code (⟨"java/lang/String", "checkBoundsOffCount", "(III)I"⟩ : MethodName) jdk_42_method_157_code 3 (some .int) :: wsq) own_R_chkO) (fun aq Uq => aq = #[(.int (0 : Int32)), (.int k), (.int nn)] ∧ Z.Warmed39 Uq.vm ∧ Uq.heap = h0) (fun _ _ _ _ _ => True) (fun _ Uq oq Uq' => ∃ vq Lq, oq = .returned vq ∧ own_Q_chkO Z k nn i n fm h0 n0 vq Uq'.heap Lq ∧ FrameEnd Uq oq Uq' Lq own_R_chkO.cells own_R_chkO.slots) := by
  refine MetFree.of_bodySF (plainFor_of_name own_pn0) hisR ?_
  intro p e s m args below meth cde s₁ Bd hml0 hP hK
  obtain ⟨rfl, hZ, hh⟩ := hP
  have hx := Bd.exec
  have hby := Bd.bytes
  have hml : cde.maxLocals = 3 := hml0
  have hown : s.vm.findClass "java/lang/String" = some m.cls := findClass_of_methodNamed Bd.named
  have hnm := (name_of_methodNamed Bd.named Bd.method).1
  have X0 : Stand p l e own_R_chkO s m #[(.int (0 : Int32)), (.int k), (.int nn)] below meth cde s₁ [] 0 0 := Stand.of_body Bd
  have e0 : s₁.heap = h0 := by rw [← hh, Bd.state]; rfl
  have N0 := Fr.nil n0
  show own_Fin p e s below (own_Q_chkO Z k nn i n fm h0 n0) own_R_chkO.cells own_R_chkO.slots s₁ (entryFrame m #[(.int (0 : Int32)), (.int k), (.int nn)] 3)
  rw [own_ef_chkO m k nn]
  refine own_via (fun _ kq => XS.iloadN X0.here hx rfl (hb hby own_d314) rfl kq) ?_
  refine own_via (fun _ kq => XS.iloadN X0.here hx rfl (hb hby own_d315) rfl kq) ?_
  refine own_via (fun _ kq => XS.iloadN X0.here hx rfl (hb hby own_d316) rfl kq) ?_
  show own_Fin _ _ _ _ _ _ _ s₁ (mkF m 3 #[.val (.int (0 : Int32)), .val (.int k), .val (.int nn)] [(.int nn), (.int k), (.int (0 : Int32))])
  obtain ⟨T1_, X1_, e1_, st1_⟩ := getS2 X0 hx hZ hown (host := "") (Or.inl (own_w hw 166 rfl)) Via.refl e0 (S2.ext O0.2) (g := (mkF m 3 #[.val (.int (0 : Int32)), .val (.int k), .val (.int nn)] [(.int nn), (.int k), (.int (0 : Int32))])) rfl (hb hby own_d317)
  refine own_via (fun _ kq => st1_ _ kq) ?_
  show own_Fin _ _ _ _ _ _ _ T1_ (mkF m 6 #[.val (.int (0 : Int32)), .val (.int k), .val (.int nn)] [fm, (.int nn), (.int k), (.int (0 : Int32))])
  obtain ⟨_, _, ⟨T2_, L2_, k2_, n2_⟩, -, X2_, ⟨Lc2_, hQ2_, l2_, y2_, z2_⟩, st2_⟩ := Jvm.LawKit.callS X1_ hx (y := (⟨"jdk/internal/util/Preconditions", "checkFromIndexSize", "(IIILjava/util/function/BiFunction;)I"⟩ : MethodName)) hown (mvT hZ (own_w hw 208 rfl)) (mvT hZ (own_w hw 209 rfl)) (mvT hZ (own_w hw 167 rfl)) (mvT hZ (own_w hw 210 rfl)) (by decide) (backOf (W := 0) (own_rm_chkF l Z a0 hw [] k nn i n fm h0 n0 Z0 hk hm hi hn r_fm) hZ (own_w hw 210 rfl) (own_w hw 167 rfl) (by decide) (by decide)) (g := (mkF m 6 #[.val (.int (0 : Int32)), .val (.int k), .val (.int nn)] [fm, (.int nn), (.int k), (.int (0 : Int32))])) rfl (by rw [hml]; rfl) (argsL := [(.int (0 : Int32)), (.int k), (.int nn), fm]) (rest := []) (lenOf own_pd16 rfl) rfl (by show 2 * 0 + _ ≤ _; exact Nat.le_of_eq rfl) (hb hby own_d318) (fun _ _ => ⟨rfl, e1_, (by decide : 0 + 0 ≤ _), (by decide : 0 + 0 ≤ _)⟩)
  dsimp only [Pt.U, Pt.locs, Pt.cells, Pt.slots] at X2_ l2_ y2_ z2_ st2_ hQ2_
  subst l2_ y2_ z2_
  obtain ⟨rfl, Nq2_, hh2_⟩ := hQ2_
  have N2_ := Fr.app N0 Nq2_
  refine own_via (fun _ kq => st2_ _ kq) ?_
  show own_Fin _ _ _ _ _ _ _ T2_ (mkF m 9 #[.val (.int (0 : Int32)), .val (.int k), .val (.int nn)] [(.int (0 : Int32))])
  exact own_retI X2_ hx Bd.returns Bd.notSynchronized (hb hby own_d319) hh2_ rfl ⟨rfl, N2_, rfl⟩ (by decide) (by decide)
theorem own_d320 : decode jdk_52_method_94_code 0 = .ok (.iload_n 0, 1) := by decide +kernel
theorem own_d321 : decode jdk_52_method_94_code 1 = .ok (.iload_n 1, 1) := by decide +kernel
theorem own_d322 : decode jdk_52_method_94_code 2 = .ok (.aload_n 2, 1) := by decide +kernel
theorem own_d323 : decode jdk_52_method_94_code 3 = .ok (.invokestatic 48, 3) := by decide +kernel
theorem own_d324 : decode jdk_52_method_94_code 6 = .ok (.invokestatic 419, 3) := by decide +kernel
theorem own_pd17 : parseMethodDescriptor "(III)I" = some ⟨[.int, .int, .int], some .int⟩ := by decide +kernel
theorem own_d325 : decode jdk_52_method_94_code 9 = .ok (.pop, 1) := by decide +kernel
theorem own_d326 : decode jdk_52_method_94_code 10 = .ok (.return_, 1) := by decide +kernel
theorem own_ef_u16chkO (m : MethodId) (k : Int32) (t : Addr) : entryFrame m #[(.int (0 : Int32)), (.int k), (.ref t)] 3 = mkF m 0 #[.val (.int (0 : Int32)), .val (.int k), .val (.ref t)] [] := by (first | (simp [entryFrame, mkF, argsToLocals, Value.category]; done) | rfl)
def own_Q_u16chkO (Z : State) (k : Int32) (i : Nat) (n : Nat) (fm : Value) (t : Addr) (kt : ClassId) (N2 : Int32) (vs : List Value) (h0 : Heap) (n0 : Nat) (vq : Option Value) (h : Heap) (Lq : List Loc) : Prop := (vq = none) ∧ (Fr n0 Lq) ∧ (h = h0)
abbrev own_R_u16chkO : Room := { frames := 2, cells := 0, slots := 0, locals := 29 }
set_option maxRecDepth 65536 in
set_option maxHeartbeats 40000000 in
theorem own_rm_u16chkO (l : Launch) (Z : State) (a0 : Array Value) (hw : ∀ d ∈ tables_1, d.before a0 Z = true) (wsq : List Jvm.Cond) (k : Int32) (i : Nat) (n : Nat) (fm : Value) (t : Addr) (kt : ClassId) (N2 : Int32) (vs : List Value) (h0 : Heap) (n0 : Nat) (Z0 : n0 ≤ h0.size) (O0 : Old Z n0 h0) (S2 : Sta Z Z.heap "jdk/internal/util/Preconditions" "SIOOBE_FORMATTER" "Ljava/util/function/BiFunction;" fm) (r_fm : fm.isRef = true) (Va : Arv Z h0 t kt .byte N2 vs (.int 0)) (hN : N2 = Int32.ofNat (2 * n)) (hk : k = Int32.ofNat i) (hi : i ≤ n) (hn : n ≤ 4000) :
    MetFree l (⟨"java/lang/StringUTF16", "checkBoundsOffCount", "(II[B)V"⟩ : MethodName) (head1 (Jvm.Cond.code (⟨"java/lang/StringUTF16", "checkBoundsOffCount", "(II[B)V"⟩ : MethodName) jdk_52_method_94_code 3 none :: wsq) own_R_u16chkO) (fun aq Uq => aq = #[(.int (0 : Int32)), (.int k), (.ref t)] ∧ Z.Warmed39 Uq.vm ∧ Uq.heap = h0) (fun _ _ _ _ _ => True) (fun _ Uq oq Uq' => ∃ vq Lq, oq = .returned vq ∧ own_Q_u16chkO Z k i n fm t kt N2 vs h0 n0 vq Uq'.heap Lq ∧ FrameEnd Uq oq Uq' Lq own_R_u16chkO.cells own_R_u16chkO.slots) := by
  refine MetFree.of_bodySF (plainFor_of_name own_pn3) hisR ?_
  intro p e s m args below meth cde s₁ Bd hml0 hP hK
  obtain ⟨rfl, hZ, hh⟩ := hP
  have hx := Bd.exec
  have hby := Bd.bytes
  have hml : cde.maxLocals = 3 := hml0
  have hown : s.vm.findClass "java/lang/StringUTF16" = some m.cls := findClass_of_methodNamed Bd.named
  have hnm := (name_of_methodNamed Bd.named Bd.method).1
  have X0 : Stand p l e own_R_u16chkO s m #[(.int (0 : Int32)), (.int k), (.ref t)] below meth cde s₁ [] 0 0 := Stand.of_body Bd
  have e0 : s₁.heap = h0 := by rw [← hh, Bd.state]; rfl
  have N0 := Fr.nil n0
  show own_Fin p e s below (own_Q_u16chkO Z k i n fm t kt N2 vs h0 n0) own_R_u16chkO.cells own_R_u16chkO.slots s₁ (entryFrame m #[(.int (0 : Int32)), (.int k), (.ref t)] 3)
  rw [own_ef_u16chkO m k t]
  refine own_via (fun _ kq => XS.iloadN X0.here hx rfl (hb hby own_d320) rfl kq) ?_
  refine own_via (fun _ kq => XS.iloadN X0.here hx rfl (hb hby own_d321) rfl kq) ?_
  refine own_via (fun _ kq => XS.aloadN X0.here hx rfl (hb hby own_d322) rfl rfl kq) ?_
  show own_Fin _ _ _ _ _ _ _ s₁ (mkF m 3 #[.val (.int (0 : Int32)), .val (.int k), .val (.ref t)] [(.ref t), (.int k), (.int (0 : Int32))])
  obtain ⟨_, _, ⟨T1_, L1_, k1_, n1_⟩, -, X1_, ⟨Lc1_, hQ1_, l1_, y1_, z1_⟩, st1_⟩ := Jvm.LawKit.callS X0 hx (y := (⟨"java/lang/StringUTF16", "length", "([B)I"⟩ : MethodName)) hown (mvT hZ (own_w hw 202 rfl)) (mvT hZ (own_w hw 203 rfl)) (mvT hZ (own_w hw 129 rfl)) (mvT hZ (own_w hw 204 rfl)) (by decide) (backOf (W := 2) (own_rm_u16len l Z a0 hw [] t kt N2 vs n h0 n0 Z0 Va hN hn) hZ (own_w hw 204 rfl) (own_w hw 129 rfl) (by decide) (by decide)) (g := (mkF m 3 #[.val (.int (0 : Int32)), .val (.int k), .val (.ref t)] [(.ref t), (.int k), (.int (0 : Int32))])) rfl (by rw [hml]; rfl) (argsL := [(.ref t)]) (rest := [(.int k), (.int (0 : Int32))]) (lenOf own_pd3 rfl) rfl (by show 2 * 0 + _ ≤ _; exact Nat.le_of_eq rfl) (hb hby own_d323) (fun _ _ => ⟨rfl, e0, (by decide : 0 + 0 ≤ _), (by decide : 0 + 0 ≤ _)⟩)
  dsimp only [Pt.U, Pt.locs, Pt.cells, Pt.slots] at X1_ l1_ y1_ z1_ st1_ hQ1_
  subst l1_ y1_ z1_
  obtain ⟨rfl, Nq1_, hh1_⟩ := hQ1_
  have N1_ := Fr.app N0 Nq1_
  refine own_via (fun _ kq => st1_ _ kq) ?_
  show own_Fin _ _ _ _ _ _ _ T1_ (mkF m 6 #[.val (.int (0 : Int32)), .val (.int k), .val (.ref t)] [(.int (Int32.ofNat n)), (.int k), (.int (0 : Int32))])
  obtain ⟨_, _, ⟨T2_, L2_, k2_, n2_⟩, -, X2_, ⟨Lc2_, hQ2_, l2_, y2_, z2_⟩, st2_⟩ := Jvm.LawKit.callS X1_ hx (y := (⟨"java/lang/String", "checkBoundsOffCount", "(III)I"⟩ : MethodName)) hown (mvT hZ (own_w hw 205 rfl)) (mvT hZ (own_w hw 206 rfl)) (mvT hZ (own_w hw 10 rfl)) (mvT hZ (own_w hw 207 rfl)) (by decide) (backOf (W := 0) (own_rm_chkO l Z a0 hw [] k (Int32.ofNat n) i n fm h0 n0 Z0 O0 S2 r_fm hk rfl hi hn) hZ (own_w hw 207 rfl) (own_w hw 10 rfl) (by decide) (by decide)) (g := (mkF m 6 #[.val (.int (0 : Int32)), .val (.int k), .val (.ref t)] [(.int (Int32.ofNat n)), (.int k), (.int (0 : Int32))])) rfl (by rw [hml]; rfl) (argsL := [(.int (0 : Int32)), (.int k), (.int (Int32.ofNat n))]) (rest := []) (lenOf own_pd17 rfl) rfl (by show 2 * 0 + _ ≤ _; exact Nat.le_of_eq rfl) (hb hby own_d324) (fun _ _ => ⟨rfl, hh1_, (by decide : 0 + 0 + 0 ≤ _), (by decide : 0 + 0 + 0 ≤ _)⟩)
  dsimp only [Pt.U, Pt.locs, Pt.cells, Pt.slots] at X2_ l2_ y2_ z2_ st2_ hQ2_
  subst l2_ y2_ z2_
  obtain ⟨rfl, Nq2_, hh2_⟩ := hQ2_
  have N2_ := Fr.app N1_ Nq2_
  refine own_via (fun _ kq => st2_ _ kq) ?_
  show own_Fin _ _ _ _ _ _ _ T2_ (mkF m 9 #[.val (.int (0 : Int32)), .val (.int k), .val (.ref t)] [(.int (0 : Int32))])
  refine own_via (fun _ kq => XS.pop X2_.here hx rfl (hb hby own_d325) rfl rfl kq) ?_
  show own_Fin _ _ _ _ _ _ _ T2_ (mkF m 10 #[.val (.int (0 : Int32)), .val (.int k), .val (.ref t)] [])
  exact own_ret0 X2_ hx Bd.returns Bd.notSynchronized (hb hby own_d326) hh2_ ⟨rfl, N2_, rfl⟩ (by decide) (by decide)
theorem own_d327 : decode jdk_52_method_26_code 0 = .ok (.iload_n 1, 1) := by decide +kernel
theorem own_d328 : decode jdk_52_method_26_code 1 = .ok (.iload_n 2, 1) := by decide +kernel
theorem own_d329 : decode jdk_52_method_26_code 2 = .ok (.if_icmp .ge 11, 3) := by decide +kernel
theorem own_d330 : decode jdk_52_method_26_code 5 = .ok (.iload_n 1, 1) := by decide +kernel
theorem own_d331 : decode jdk_52_method_26_code 6 = .ok (.iload_n 2, 1) := by decide +kernel
theorem own_d332 : decode jdk_52_method_26_code 7 = .ok (.iload_n 1, 1) := by decide +kernel
theorem own_d333 : decode jdk_52_method_26_code 8 = .ok (.isub, 1) := by decide +kernel
theorem own_d334 : decode jdk_52_method_26_code 9 = .ok (.aload_n 0, 1) := by decide +kernel
theorem own_d335 : decode jdk_52_method_26_code 10 = .ok (.invokestatic 173, 3) := by decide +kernel
theorem own_pd18 : parseMethodDescriptor "(II[B)V" = some ⟨[.int, .int, (.array .byte)], none⟩ := by decide +kernel
theorem own_d336 : decode jdk_52_method_26_code 13 = .ok (.iload_n 1, 1) := by decide +kernel
theorem own_d337 : decode jdk_52_method_26_code 14 = .ok (.istore 5, 2) := by decide +kernel
theorem own_d338 : decode jdk_52_method_26_code 16 = .ok (.iload 5, 2) := by decide +kernel
theorem own_d339 : decode jdk_52_method_26_code 18 = .ok (.iload_n 2, 1) := by decide +kernel
theorem own_d340 : decode jdk_52_method_26_code 19 = .ok (.if_icmp .ge 22, 3) := by decide +kernel
theorem own_d341 : decode jdk_52_method_26_code 41 = .ok (.return_, 1) := by decide +kernel
theorem own_d342 : decode jdk_52_method_26_code 22 = .ok (.aload_n 3, 1) := by decide +kernel
theorem own_d343 : decode jdk_52_method_26_code 23 = .ok (.iload 4, 2) := by decide +kernel
theorem own_d344 : decode jdk_52_method_26_code 25 = .ok (.iinc 4 1, 3) := by decide +kernel
theorem own_d345 : decode jdk_52_method_26_code 28 = .ok (.aload_n 0, 1) := by decide +kernel
theorem own_d346 : decode jdk_52_method_26_code 29 = .ok (.iload 5, 2) := by decide +kernel
theorem own_d347 : decode jdk_52_method_26_code 31 = .ok (.invokestatic 71, 3) := by decide +kernel
theorem own_d348 : decode jdk_52_method_26_code 34 = .ok (.castore, 1) := by decide +kernel
theorem own_d349 : decode jdk_52_method_26_code 35 = .ok (.iinc 5 1, 3) := by decide +kernel
theorem own_d350 : decode jdk_52_method_26_code 38 = .ok (.goto (-22), 3) := by decide +kernel
theorem own_ef_getCs (m : MethodId) (t : Addr) (N : Int32) (a : Addr) : entryFrame m #[(.ref t), (.int (0 : Int32)), (.int N), (.ref a), (.int (0 : Int32))] 6 = mkF m 0 #[.val (.ref t), .val (.int (0 : Int32)), .val (.int N), .val (.ref a), .val (.int (0 : Int32)), .unset] [] := by (first | (simp [entryFrame, mkF, argsToLocals, Value.category]; done) | rfl)
def own_Q_getCs (Z : State) (t : Addr) (kt : ClassId) (N2 : Int32) (vs : List Value) (cs : List Int32) (a : Addr) (ka : ClassId) (N : Int32) (xs : List Value) (fm : Value) (h0 : Heap) (n0 : Nat) (vq : Option Value) (h : Heap) (Lq : List Loc) : Prop := ∃ (ws : List Value), (vq = none) ∧ (Fr n0 Lq) ∧ (Keep h0 h [a]) ∧ (Arv Z h a ka .char N ws (.int 0)) ∧ (own_chl cs ws)
abbrev own_R_getCs : Room := { frames := 3, cells := 0, slots := 0, locals := 43 }
set_option maxRecDepth 65536 in
set_option maxHeartbeats 40000000 in
theorem own_rm_getCs (l : Launch) (Z : State) (a0 : Array Value) (hw : ∀ d ∈ tables_1, d.before a0 Z = true) (wsq : List Jvm.Cond) (t : Addr) (kt : ClassId) (N2 : Int32) (vs : List Value) (cs : List Int32) (a : Addr) (ka : ClassId) (N : Int32) (xs : List Value) (fm : Value) (h0 : Heap) (n0 : Nat) (Z0 : n0 ≤ h0.size) (O0 : Old Z n0 h0) (S2 : Sta Z Z.heap "jdk/internal/util/Preconditions" "SIOOBE_FORMATTER" "Ljava/util/function/BiFunction;" fm) (r_fm : fm.isRef = true) (S3 : Sta Z Z.heap "java/lang/StringUTF16" "$assertionsDisabled" "Z" (.int (1 : Int32))) (S4 : Sta Z Z.heap "java/lang/StringUTF16" "HI_BYTE_SHIFT" "I" (.int (0 : Int32))) (S5 : Sta Z Z.heap "java/lang/StringUTF16" "LO_BYTE_SHIFT" "I" (.int (8 : Int32))) (Va : Arv Z h0 t kt .byte N2 vs (.int 0)) (hN : N2 = Int32.ofNat (2 * cs.length)) (hn : cs.length ≤ 4) (hp : 0 < cs.length) (hW : own_wide cs vs) (hr : own_chs cs) (Vx : Arv Z h0 a ka .char N xs (.int 0)) (ga : n0 ≤ a) (hne : t ≠ a) (hxl : xs.length = cs.length) (hNN : N = Int32.ofNat cs.length) :
    MetFree l (⟨"java/lang/StringUTF16", "getChars", "([BII[CI)V"⟩ : MethodName) (head1 (Jvm.Cond.code (⟨"java/lang/StringUTF16", "getChars", "([BII[CI)V"⟩ : MethodName) jdk_52_method_26_code 6 none :: wsq) own_R_getCs) (fun aq Uq => aq = #[(.ref t), (.int (0 : Int32)), (.int N), (.ref a), (.int (0 : Int32))] ∧ Z.Warmed39 Uq.vm ∧ Uq.heap = h0) (fun _ _ _ _ _ => True) (fun _ Uq oq Uq' => ∃ vq Lq, oq = .returned vq ∧ own_Q_getCs Z t kt N2 vs cs a ka N xs fm h0 n0 vq Uq'.heap Lq ∧ FrameEnd Uq oq Uq' Lq own_R_getCs.cells own_R_getCs.slots) := by
  refine MetFree.of_bodySF (plainFor_of_name own_pn3) hisR ?_
  intro p e s m args below meth cde s₁ Bd hml0 hP hK
  obtain ⟨rfl, hZ, hh⟩ := hP
  have hx := Bd.exec
  have hby := Bd.bytes
  have hml : cde.maxLocals = 6 := hml0
  have hown : s.vm.findClass "java/lang/StringUTF16" = some m.cls := findClass_of_methodNamed Bd.named
  have hnm := (name_of_methodNamed Bd.named Bd.method).1
  have X0 : Stand p l e own_R_getCs s m #[(.ref t), (.int (0 : Int32)), (.int N), (.ref a), (.int (0 : Int32))] below meth cde s₁ [] 0 0 := Stand.of_body Bd
  have e0 : s₁.heap = h0 := by rw [← hh, Bd.state]; rfl
  have N0 := Fr.nil n0
  show own_Fin p e s below (own_Q_getCs Z t kt N2 vs cs a ka N xs fm h0 n0) own_R_getCs.cells own_R_getCs.slots s₁ (entryFrame m #[(.ref t), (.int (0 : Int32)), (.int N), (.ref a), (.int (0 : Int32))] 6)
  rw [own_ef_getCs m t N a]
  refine own_via (fun _ kq => XS.iloadN X0.here hx rfl (hb hby own_d327) rfl kq) ?_
  refine own_via (fun _ kq => XS.iloadN X0.here hx rfl (hb hby own_d328) rfl kq) ?_
  refine own_via (fun _ kq => XS.icmpNo X0.here hx rfl (hb hby own_d329) rfl (tlt (own_posN hNN hp (by omega))).2.1 kq) ?_
  show own_Fin _ _ _ _ _ _ _ s₁ (mkF m 5 #[.val (.ref t), .val (.int (0 : Int32)), .val (.int N), .val (.ref a), .val (.int (0 : Int32)), .unset] [])
  refine own_via (fun _ kq => XS.iloadN X0.here hx rfl (hb hby own_d330) rfl kq) ?_
  refine own_via (fun _ kq => XS.iloadN X0.here hx rfl (hb hby own_d331) rfl kq) ?_
  refine own_via (fun _ kq => XS.iloadN X0.here hx rfl (hb hby own_d332) rfl kq) ?_
  refine own_via (fun _ kq => XS.isub X0.here hx rfl (hb hby own_d333) rfl kq) ?_
  refine own_via (fun _ kq => XS.aloadN X0.here hx rfl (hb hby own_d334) rfl rfl kq) ?_
  show own_Fin _ _ _ _ _ _ _ s₁ (mkF m 10 #[.val (.ref t), .val (.int (0 : Int32)), .val (.int N), .val (.ref a), .val (.int (0 : Int32)), .unset] [(.ref t), (.int (N - (0 : Int32))), (.int (0 : Int32))])
  obtain ⟨_, _, ⟨T1_, L1_, k1_, n1_⟩, -, X1_, ⟨Lc1_, hQ1_, l1_, y1_, z1_⟩, st1_⟩ := Jvm.LawKit.callS X0 hx (y := (⟨"java/lang/StringUTF16", "checkBoundsOffCount", "(II[B)V"⟩ : MethodName)) hown (mvT hZ (own_w hw 199 rfl)) (mvT hZ (own_w hw 200 rfl)) (mvT hZ (own_w hw 129 rfl)) (mvT hZ (own_w hw 201 rfl)) (by decide) (backOf (W := 0) (own_rm_u16chkO l Z a0 hw [] (N - (0 : Int32)) cs.length cs.length fm t kt N2 vs h0 n0 Z0 O0 S2 r_fm Va hN (own_sub0 hNN) (Nat.le_refl _) (by omega)) hZ (own_w hw 201 rfl) (own_w hw 129 rfl) (by decide) (by decide)) (g := (mkF m 10 #[.val (.ref t), .val (.int (0 : Int32)), .val (.int N), .val (.ref a), .val (.int (0 : Int32)), .unset] [(.ref t), (.int (N - (0 : Int32))), (.int (0 : Int32))])) rfl (by rw [hml]; rfl) (argsL := [(.int (0 : Int32)), (.int (N - (0 : Int32))), (.ref t)]) (rest := []) (lenOf own_pd18 rfl) rfl (by show 2 * 0 + _ ≤ _; exact Nat.le_of_eq rfl) (hb hby own_d335) (fun _ _ => ⟨rfl, e0, (by decide : 0 + 0 ≤ _), (by decide : 0 + 0 ≤ _)⟩)
  dsimp only [Pt.U, Pt.locs, Pt.cells, Pt.slots] at X1_ l1_ y1_ z1_ st1_ hQ1_
  subst l1_ y1_ z1_
  obtain ⟨rfl, Nq1_, hh1_⟩ := hQ1_
  have N1_ := Fr.app N0 Nq1_
  refine own_via (fun _ kq => st1_ _ kq) ?_
  show own_Fin _ _ _ _ _ _ _ T1_ (mkF m 13 #[.val (.ref t), .val (.int (0 : Int32)), .val (.int N), .val (.ref a), .val (.int (0 : Int32)), .unset] [])
  refine own_via (fun _ kq => XS.iloadN X1_.here hx rfl (hb hby own_d336) rfl kq) ?_
  refine own_via (fun _ kq => XS.istore X1_.here hx rfl (hb hby own_d337) rfl (l' := #[.val (.ref t), .val (.int (0 : Int32)), .val (.int N), .val (.ref a), .val (.int (0 : Int32)), .val (.int (0 : Int32))]) rfl kq) ?_
  have lp : ∀ (k : Nat) (i : Nat) (j : Int32) (ws : List Value) (Tl : State) (locl : List Loc) (Xl : Stand p l e own_R_getCs s m #[(.ref t), (.int (0 : Int32)), (.int N), (.ref a), (.int (0 : Int32))] below meth cde Tl locl (0 + 0) (0 + 0)) (Nl : Fr n0 locl) (hl : Heap) (el : Tl.heap = hl) (Kl : Keep h0 hl [a]) (Ol : Old Z n0 hl) (Vl : Arv Z hl t kt .byte N2 vs (.int 0)) (Vm : Arv Z hl a ka .char N ws (.int 0)) (hj : j = Int32.ofNat i) (hi : i ≤ cs.length) (hk : cs.length ≤ i + k) (hwl : ws.length = cs.length) (hh_ : ∀ q, q < i → ws.getD q (.int 0) = .int (cs.getD q 0)), own_Fin p e s below (own_Q_getCs Z t kt N2 vs cs a ka N xs fm h0 n0) own_R_getCs.cells own_R_getCs.slots Tl (mkF m 16 #[.val (.ref t), .val (.int (0 : Int32)), .val (.int N), .val (.ref a), .val (.int j), .val (.int j)] []) := by
    intro k
    induction k with
    | zero =>
      intro i j ws Tl locl Xl Nl hl el Kl Ol Vl Vm hj hi hk hwl hh_
      have Zl : n0 ≤ hl.size := Nat.le_trans Z0 Kl.1
      refine own_via (fun _ kq => XS.iload Xl.here hx rfl (hb hby own_d338) rfl kq) ?_
      refine own_via (fun _ kq => XS.iloadN Xl.here hx rfl (hb hby own_d339) rfl kq) ?_
      refine own_via (fun _ kq => XS.icmpYes Xl.here hx rfl (pc0 := 19) (pc' := 41) rfl (hb hby own_d340) rfl (flt (fun q => absurd ((own_ltN hj hNN (by omega) (by omega)).mp q) (by omega))).2.1 (by decide) (by decide) kq) ?_
      show own_Fin _ _ _ _ _ _ _ Tl (mkF m 41 #[.val (.ref t), .val (.int (0 : Int32)), .val (.int N), .val (.ref a), .val (.int j), .val (.int j)] [])
      exact own_ret0 Xl hx Bd.returns Bd.notSynchronized (hb hby own_d341) el ⟨ws, rfl, Nl, Kl, Vm, (fun q hq => hh_ q (by omega))⟩ (by decide) (by decide)
    | succ k ih =>
      intro i j ws Tl locl Xl Nl hl el Kl Ol Vl Vm hj hi hk hwl hh_
      have Zl : n0 ≤ hl.size := Nat.le_trans Z0 Kl.1
      refine own_via (fun _ kq => XS.iload Xl.here hx rfl (hb hby own_d338) rfl kq) ?_
      refine own_via (fun _ kq => XS.iloadN Xl.here hx rfl (hb hby own_d339) rfl kq) ?_
      rcases Classical.em (j < N) with hg | hg
      · refine own_via (fun _ kq => XS.icmpNo Xl.here hx rfl (hb hby own_d340) rfl (tlt hg).2.1 kq) ?_
        show own_Fin _ _ _ _ _ _ _ Tl (mkF m 22 #[.val (.ref t), .val (.int (0 : Int32)), .val (.int N), .val (.ref a), .val (.int j), .val (.int j)] [])
        have hlt : i < cs.length := (own_ltN hj hNN (by omega) (by omega)).mp hg
        refine own_via (fun _ kq => XS.aloadN Xl.here hx rfl (hb hby own_d342) rfl rfl kq) ?_
        refine own_via (fun _ kq => XS.iload Xl.here hx rfl (hb hby own_d343) rfl kq) ?_
        refine own_via (fun _ kq => XS.iinc Xl.here hx rfl (hb hby own_d344) rfl (l' := #[.val (.ref t), .val (.int (0 : Int32)), .val (.int N), .val (.ref a), .val (.int (j + (1 : Int32))), .val (.int j)]) rfl kq) ?_
        refine own_via (fun _ kq => XS.aloadN Xl.here hx rfl (hb hby own_d345) rfl rfl kq) ?_
        refine own_via (fun _ kq => XS.iload Xl.here hx rfl (hb hby own_d346) rfl kq) ?_
        show own_Fin _ _ _ _ _ _ _ Tl (mkF m 31 #[.val (.ref t), .val (.int (0 : Int32)), .val (.int N), .val (.ref a), .val (.int (j + (1 : Int32))), .val (.int j)] [(.int j), (.ref t), (.int j), (.ref a)])
        obtain ⟨_, _, ⟨T2_, L2_, k2_, n2_⟩, -, X2_, ⟨Lc2_, hQ2_, l2_, y2_, z2_⟩, st2_⟩ := Jvm.LawKit.callS Xl hx (y := (⟨"java/lang/StringUTF16", "getChar", "([BI)C"⟩ : MethodName)) hown (mvT hZ (own_w hw 190 rfl)) (mvT hZ (own_w hw 191 rfl)) (mvT hZ (own_w hw 129 rfl)) (mvT hZ (own_w hw 192 rfl)) (by decide) (backOf (W := 2) (own_rm_getCh l Z a0 hw [] t kt N2 vs (cs.getD i 0) j i cs.length hl n0 Zl Ol S3 S4 S5 Vl hj hlt (by omega) hN (hW i hlt).1 (hW i hlt).2 (hr i)) hZ (own_w hw 192 rfl) (own_w hw 129 rfl) (by decide) (by decide)) (g := (mkF m 31 #[.val (.ref t), .val (.int (0 : Int32)), .val (.int N), .val (.ref a), .val (.int (j + (1 : Int32))), .val (.int j)] [(.int j), (.ref t), (.int j), (.ref a)])) rfl (by rw [hml]; rfl) (argsL := [(.ref t), (.int j)]) (rest := [(.int j), (.ref a)]) (lenOf own_pd5 rfl) rfl (by show 2 * 0 + _ ≤ _; exact Nat.le_of_eq rfl) (hb hby own_d347) (fun _ _ => ⟨rfl, el, (by decide : (0 + 0) + 0 ≤ _), (by decide : (0 + 0) + 0 ≤ _)⟩)
        dsimp only [Pt.U, Pt.locs, Pt.cells, Pt.slots] at X2_ l2_ y2_ z2_ st2_ hQ2_
        subst l2_ y2_ z2_
        obtain ⟨rfl, Nq2_, hh2_⟩ := hQ2_
        have N2_ := Fr.app Nl Nq2_
        refine own_via (fun _ kq => st2_ _ kq) ?_
        show own_Fin _ _ _ _ _ _ _ T2_ (mkF m 34 #[.val (.ref t), .val (.int (0 : Int32)), .val (.int N), .val (.ref a), .val (.int (j + (1 : Int32))), .val (.int j)] [(.int (cs.getD i 0)), (.int j), (.ref a)])
        obtain ⟨c3_, Ar3_, q3_, S3_, M3_, H3_, G3_⟩ := (id Vm)
        have hin3_ : ¬ (j < 0 ∨ c3_.slots.size ≤ (j).toNatClampNeg) := inb_of S3_ (own_inb hj hNN hlt (by omega))
        obtain ⟨T3_, h3_, X3_, e3_, W3_, st3_⟩ := stC X2_ hx hZ hh2_ Ar3_ (j := j) hin3_ (g := (mkF m 34 #[.val (.ref t), .val (.int (0 : Int32)), .val (.int N), .val (.ref a), .val (.int (j + (1 : Int32))), .val (.int j)] [(.int (cs.getD i 0)), (.int j), (.ref a)])) rfl rfl (hb hby own_d348)
        have V3_ := Arv.set Ar3_ q3_ S3_ M3_ H3_ G3_ (fits_nar_char _) W3_ i (own_clamp hj (by omega)) (by omega)
        have U3_ : Arv Z h3_ a ka .char N ((ws).set i (.int (cs.getD i 0))) (.int 0) := by
          have hq := V3_
          rw [show nar .char (cs.getD i 0) = (cs.getD i 0) from (own_narch (hr i))] at hq
          exact hq
        have N3_ := Fr.snoc X3_ N2_ ga
        refine own_via (fun _ kq => st3_ _ kq) ?_
        show own_Fin _ _ _ _ _ _ _ T3_ (mkF m 35 #[.val (.ref t), .val (.int (0 : Int32)), .val (.int N), .val (.ref a), .val (.int (j + (1 : Int32))), .val (.int j)] [])
        refine own_via (fun _ kq => XS.iinc X3_.here hx rfl (hb hby own_d349) rfl (l' := #[.val (.ref t), .val (.int (0 : Int32)), .val (.int N), .val (.ref a), .val (.int (j + (1 : Int32))), .val (.int (j + (1 : Int32)))]) rfl kq) ?_
        refine own_via (fun _ kq => XS.goto X3_.here hx rfl (pc0 := 38) (pc' := 16) rfl (hb hby own_d350) (by decide) (by decide) kq) ?_
        exact ih (i + 1) (j + (1 : Int32)) ((ws).set i (.int (cs.getD i 0))) T3_ _ X3_ N3_ _ e3_ (Kl.wr W3_ (Or.inl (List.mem_of_getElem? (i := 0) rfl))) (Ol.wr W3_ ga) (Vl.other W3_ hne) U3_ (own_succ hj) (by omega) (by omega) (by rw [List.length_set]; exact hwl) (own_setc hh_ (by omega))
      · refine own_via (fun _ kq => XS.icmpYes Xl.here hx rfl (pc0 := 19) (pc' := 41) rfl (hb hby own_d340) rfl (flt hg).2.1 (by decide) (by decide) kq) ?_
        show own_Fin _ _ _ _ _ _ _ Tl (mkF m 41 #[.val (.ref t), .val (.int (0 : Int32)), .val (.int N), .val (.ref a), .val (.int j), .val (.int j)] [])
        have hge : cs.length ≤ i := Nat.le_of_not_lt fun q => hg ((own_ltN hj hNN (by omega) (by omega)).mpr q)
        exact own_ret0 Xl hx Bd.returns Bd.notSynchronized (hb hby own_d341) el ⟨ws, rfl, Nl, Kl, Vm, (fun q hq => hh_ q (by omega))⟩ (by decide) (by decide)
  exact lp cs.length 0 (0 : Int32) xs T1_ _ X1_ N1_ _ hh1_ (Keep.refl h0 [a]) O0 Va Vx rfl (by omega) (by omega) hxl (fun q hq => absurd hq (Nat.not_lt_zero q))
theorem own_d351 : decode jdk_52_method_13_code 0 = .ok (.aload_n 0, 1) := by decide +kernel
theorem own_d352 : decode jdk_52_method_13_code 1 = .ok (.arraylength, 1) := by decide +kernel
theorem own_d353 : decode jdk_52_method_13_code 2 = .ok (.iconst 1, 1) := by decide +kernel
theorem own_d354 : decode jdk_52_method_13_code 3 = .ok (.ishr, 1) := by decide +kernel
theorem own_d355 : decode jdk_52_method_13_code 4 = .ok (.newarray .char, 2) := by decide +kernel
theorem own_d356 : decode jdk_52_method_13_code 6 = .ok (.astore_n 1, 1) := by decide +kernel
theorem own_d357 : decode jdk_52_method_13_code 7 = .ok (.aload_n 0, 1) := by decide +kernel
theorem own_d358 : decode jdk_52_method_13_code 8 = .ok (.iconst 0, 1) := by decide +kernel
theorem own_d359 : decode jdk_52_method_13_code 9 = .ok (.aload_n 1, 1) := by decide +kernel
theorem own_d360 : decode jdk_52_method_13_code 10 = .ok (.arraylength, 1) := by decide +kernel
theorem own_d361 : decode jdk_52_method_13_code 11 = .ok (.aload_n 1, 1) := by decide +kernel
theorem own_d362 : decode jdk_52_method_13_code 12 = .ok (.iconst 0, 1) := by decide +kernel
theorem own_d363 : decode jdk_52_method_13_code 13 = .ok (.invokestatic 103, 3) := by decide +kernel
theorem own_pd19 : parseMethodDescriptor "([BII[CI)V" = some ⟨[(.array .byte), .int, .int, (.array .char), .int], none⟩ := by decide +kernel
theorem own_d364 : decode jdk_52_method_13_code 16 = .ok (.aload_n 1, 1) := by decide +kernel
theorem own_d365 : decode jdk_52_method_13_code 17 = .ok (.areturn, 1) := by decide +kernel
theorem own_ef_u16ToC (m : MethodId) (t : Addr) : entryFrame m #[(.ref t)] 2 = mkF m 0 #[.val (.ref t), .unset] [] := by (first | (simp [entryFrame, mkF, argsToLocals, Value.category]; done) | rfl)
def own_Q_u16ToC (Z : State) (t : Addr) (kt : ClassId) (N2 : Int32) (vs : List Value) (cs : List Int32) (fm : Value) (h0 : Heap) (n0 : Nat) (vq : Option Value) (h : Heap) (Lq : List Loc) : Prop := ∃ (a : Addr) (ka : ClassId) (ws : List Value), (vq = some (.ref a)) ∧ (Fr n0 Lq) ∧ (Keep h0 h []) ∧ (h0.size ≤ a) ∧ (Arv Z h a ka .char (Int32.ofNat cs.length) ws (.int 0)) ∧ (own_chl cs ws)
abbrev own_R_u16ToC : Room := { frames := 4, cells := 1, slots := 4, locals := 60 }
set_option maxRecDepth 65536 in
set_option maxHeartbeats 40000000 in
theorem own_rm_u16ToC (l : Launch) (Z : State) (a0 : Array Value) (hw : ∀ d ∈ tables_1, d.before a0 Z = true) (wsq : List Jvm.Cond) (t : Addr) (kt : ClassId) (N2 : Int32) (vs : List Value) (cs : List Int32) (fm : Value) (h0 : Heap) (n0 : Nat) (Z0 : n0 ≤ h0.size) (O0 : Old Z n0 h0) (S2 : Sta Z Z.heap "jdk/internal/util/Preconditions" "SIOOBE_FORMATTER" "Ljava/util/function/BiFunction;" fm) (r_fm : fm.isRef = true) (S3 : Sta Z Z.heap "java/lang/StringUTF16" "$assertionsDisabled" "Z" (.int (1 : Int32))) (S4 : Sta Z Z.heap "java/lang/StringUTF16" "HI_BYTE_SHIFT" "I" (.int (0 : Int32))) (S5 : Sta Z Z.heap "java/lang/StringUTF16" "LO_BYTE_SHIFT" "I" (.int (8 : Int32))) (Va : Arv Z h0 t kt .byte N2 vs (.int 0)) (hN : N2 = Int32.ofNat (2 * cs.length)) (hn : cs.length ≤ 4) (hp : 0 < cs.length) (hW : own_wide cs vs) (hr : own_chs cs) :
    MetFree l (⟨"java/lang/StringUTF16", "toChars", "([B)[C"⟩ : MethodName) (head1 (Jvm.Cond.code (⟨"java/lang/StringUTF16", "toChars", "([B)[C"⟩ : MethodName) jdk_52_method_13_code 2 (some (.array .char)) :: wsq) own_R_u16ToC) (fun aq Uq => aq = #[(.ref t)] ∧ Z.Warmed39 Uq.vm ∧ Uq.heap = h0) (fun _ _ _ _ _ => True) (fun _ Uq oq Uq' => ∃ vq Lq, oq = .returned vq ∧ own_Q_u16ToC Z t kt N2 vs cs fm h0 n0 vq Uq'.heap Lq ∧ FrameEnd Uq oq Uq' Lq own_R_u16ToC.cells own_R_u16ToC.slots) := by
  refine MetFree.of_bodySF (plainFor_of_name own_pn3) hisR ?_
  intro p e s m args below meth cde s₁ Bd hml0 hP hK
  obtain ⟨rfl, hZ, hh⟩ := hP
  have hx := Bd.exec
  have hby := Bd.bytes
  have hml : cde.maxLocals = 2 := hml0
  have hown : s.vm.findClass "java/lang/StringUTF16" = some m.cls := findClass_of_methodNamed Bd.named
  have hnm := (name_of_methodNamed Bd.named Bd.method).1
  have X0 : Stand p l e own_R_u16ToC s m #[(.ref t)] below meth cde s₁ [] 0 0 := Stand.of_body Bd
  have e0 : s₁.heap = h0 := by rw [← hh, Bd.state]; rfl
  have N0 := Fr.nil n0
  show own_Fin p e s below (own_Q_u16ToC Z t kt N2 vs cs fm h0 n0) own_R_u16ToC.cells own_R_u16ToC.slots s₁ (entryFrame m #[(.ref t)] 2)
  rw [own_ef_u16ToC m t]
  refine own_via (fun _ kq => XS.aloadN X0.here hx rfl (hb hby own_d351) rfl rfl kq) ?_
  show own_Fin _ _ _ _ _ _ _ s₁ (mkF m 1 #[.val (.ref t), .unset] [(.ref t)])
  obtain ⟨c1_, Ar1_, -, S1_, M1_, -, -⟩ := (id Va)
  refine own_via (fun _ kq => X0.arraylength hx (own_eq e0 Ar1_.1) (State.isArrayOf_alike hZ.alike Ar1_.2.1) (g := (mkF m 1 #[.val (.ref t), .unset] [(.ref t)])) rfl rfl (hb hby own_d352) _ (by rw [len_of S1_ M1_]; exact kq)) ?_
  show own_Fin _ _ _ _ _ _ _ s₁ (mkF m 2 #[.val (.ref t), .unset] [(.int N2)])
  refine own_via (fun _ kq => XS.iconst X0.here hx rfl (hb hby own_d353) kq) ?_
  refine own_via (fun _ kq => XS.ishr X0.here hx rfl (hb hby own_d354) rfl kq) ?_
  show own_Fin _ _ _ _ _ _ _ s₁ (mkF m 4 #[.val (.ref t), .unset] [(.int (N2 >>> ((1 : Int32) &&& 31)))])
  rw [show (N2 >>> ((1 : Int32) &&& 31)) = (Int32.ofNat cs.length) from (own_half hN (by omega))]
  show own_Fin _ _ _ _ _ _ _ s₁ (mkF m 4 #[.val (.ref t), .unset] [(.int (Int32.ofNat cs.length))])
  obtain ⟨T3_, h3_, k3_, X3_, e3_, E3_, A3_, st3_⟩ := newP X0 hx hZ (own_w hw 11 rfl) e0 (g := (mkF m 4 #[.val (.ref t), .unset] [(.int (Int32.ofNat cs.length))])) rfl (hb hby own_d355) rfl (own_nneg rfl (by omega)) (cap := 4) (by rw [own_clamp rfl (by omega)]; exact hn) (by decide) (by decide) (by decide)
  obtain ⟨b3_, g3_⟩ : ∃ z, z = h0.size := ⟨_, rfl⟩
  rw [← g3_] at A3_ st3_
  have V3_ : Arv Z h3_ b3_ k3_ .char (Int32.ofNat cs.length) (List.replicate cs.length (.int (0 : Int32))) (.int (0 : Int32)) := (Arv.new A3_ (own_nneg rfl (by omega))).pad (pad_rep [] (.int (0 : Int32)) cs.length)
  refine own_via (fun _ kq => st3_ _ kq) ?_
  show own_Fin _ _ _ _ _ _ _ T3_ (mkF m 6 #[.val (.ref t), .unset] [(.ref b3_)])
  refine own_via (fun _ kq => XS.astoreN X3_.here hx rfl (hb hby own_d356) rfl rfl (l' := #[.val (.ref t), .val (.ref b3_)]) rfl kq) ?_
  refine own_via (fun _ kq => XS.aloadN X3_.here hx rfl (hb hby own_d357) rfl rfl kq) ?_
  refine own_via (fun _ kq => XS.iconst X3_.here hx rfl (hb hby own_d358) kq) ?_
  refine own_via (fun _ kq => XS.aloadN X3_.here hx rfl (hb hby own_d359) rfl rfl kq) ?_
  show own_Fin _ _ _ _ _ _ _ T3_ (mkF m 10 #[.val (.ref t), .val (.ref b3_)] [(.ref b3_), (.int (0 : Int32)), (.ref t)])
  obtain ⟨c4_, Ar4_, -, S4_, M4_, -, -⟩ := (id V3_)
  refine own_via (fun _ kq => X3_.arraylength hx (own_eq e3_ Ar4_.1) (State.isArrayOf_alike hZ.alike Ar4_.2.1) (g := (mkF m 10 #[.val (.ref t), .val (.ref b3_)] [(.ref b3_), (.int (0 : Int32)), (.ref t)])) rfl rfl (hb hby own_d360) _ (by rw [len_of S4_ M4_]; exact kq)) ?_
  show own_Fin _ _ _ _ _ _ _ T3_ (mkF m 11 #[.val (.ref t), .val (.ref b3_)] [(.int (Int32.ofNat cs.length)), (.int (0 : Int32)), (.ref t)])
  refine own_via (fun _ kq => XS.aloadN X3_.here hx rfl (hb hby own_d361) rfl rfl kq) ?_
  refine own_via (fun _ kq => XS.iconst X3_.here hx rfl (hb hby own_d362) kq) ?_
  show own_Fin _ _ _ _ _ _ _ T3_ (mkF m 13 #[.val (.ref t), .val (.ref b3_)] [(.int (0 : Int32)), (.ref b3_), (.int (Int32.ofNat cs.length)), (.int (0 : Int32)), (.ref t)])
  have q5_ : t ≠ b3_ := Nat.ne_of_lt (Nat.lt_of_lt_of_le Va.lt (Nat.le_of_eq g3_.symm))
  have g7_ : n0 ≤ b3_ := Nat.le_trans Z0 (Nat.le_of_eq g3_.symm)
  obtain ⟨_, _, ⟨T6_, L6_, k6_, n6_⟩, -, X6_, ⟨Lc6_, hQ6_, l6_, y6_, z6_⟩, st6_⟩ := Jvm.LawKit.callS X3_ hx (y := (⟨"java/lang/StringUTF16", "getChars", "([BII[CI)V"⟩ : MethodName)) hown (mvT hZ (own_w hw 196 rfl)) (mvT hZ (own_w hw 197 rfl)) (mvT hZ (own_w hw 129 rfl)) (mvT hZ (own_w hw 198 rfl)) (by decide) (backOf (W := 0) (own_rm_getCs l Z a0 hw [] t kt N2 vs cs b3_ k3_ (Int32.ofNat cs.length) (List.replicate cs.length (.int (0 : Int32))) fm h3_ n0 (Nat.le_trans Z0 E3_.1) (O0.ext E3_) S2 r_fm S3 S4 S5 (Va.ext E3_) hN hn hp hW hr V3_ g7_ q5_ List.length_replicate rfl) hZ (own_w hw 198 rfl) (own_w hw 129 rfl) (by decide) (by decide)) (g := (mkF m 13 #[.val (.ref t), .val (.ref b3_)] [(.int (0 : Int32)), (.ref b3_), (.int (Int32.ofNat cs.length)), (.int (0 : Int32)), (.ref t)])) rfl (by rw [hml]; rfl) (argsL := [(.ref t), (.int (0 : Int32)), (.int (Int32.ofNat cs.length)), (.ref b3_), (.int (0 : Int32))]) (rest := []) (lenOf own_pd19 rfl) rfl (by show 2 * 0 + _ ≤ _; exact Nat.le_of_eq rfl) (hb hby own_d363) (fun _ _ => ⟨rfl, e3_, (by decide : 0 + 1 + 0 ≤ _), (by decide : 0 + 4 + 0 ≤ _)⟩)
  dsimp only [Pt.U, Pt.locs, Pt.cells, Pt.slots] at X6_ l6_ y6_ z6_ st6_ hQ6_
  subst l6_ y6_ z6_
  obtain ⟨ws, rfl, Nq6_, K6_, r8_, hx_⟩ := hQ6_
  have N6_ := Fr.app N0 Nq6_
  refine own_via (fun _ kq => st6_ _ kq) ?_
  show own_Fin _ _ _ _ _ _ _ T6_ (mkF m 16 #[.val (.ref t), .val (.ref b3_)] [])
  refine own_via (fun _ kq => XS.aloadN X6_.here hx rfl (hb hby own_d364) rfl rfl kq) ?_
  show own_Fin _ _ _ _ _ _ _ T6_ (mkF m 17 #[.val (.ref t), .val (.ref b3_)] [(.ref b3_)])
  exact own_retA X6_ hx Bd.returns Bd.notSynchronized rfl rfl (hb hby own_d365) rfl ⟨b3_, k3_, ws, rfl, N6_, (((Keep.refl h0 []).ext E3_).trans K6_ (allS (Or.inr (Nat.le_of_eq g3_.symm)) all0)), (Nat.le_of_eq g3_.symm), r8_, hx_⟩ (by decide) (by decide)
theorem own_d366 : decode jdk_42_method_129_code 0 = .ok (.aload_n 0, 1) := by decide +kernel
theorem own_d367 : decode jdk_42_method_129_code 1 = .ok (.invokevirtual 492, 3) := by decide +kernel
theorem own_d368 : decode jdk_42_method_129_code 4 = .ok (.ifCond .eq 13, 3) := by decide +kernel
theorem own_d369 : decode jdk_42_method_129_code 7 = .ok (.aload_n 0, 1) := by decide +kernel
theorem own_d370 : decode jdk_42_method_129_code 8 = .ok (.getfield 9, 3) := by decide +kernel
theorem own_d371 : decode jdk_42_method_129_code 11 = .ok (.invokestatic 299, 3) := by decide +kernel
theorem own_pd20 : parseMethodDescriptor "([B)[C" = some ⟨[(.array .byte)], some (.array .char)⟩ := by decide +kernel
theorem own_d372 : decode jdk_42_method_129_code 14 = .ok (.goto 10, 3) := by decide +kernel
theorem own_d373 : decode jdk_42_method_129_code 24 = .ok (.areturn, 1) := by decide +kernel
theorem own_d374 : decode jdk_42_method_129_code 17 = .ok (.aload_n 0, 1) := by decide +kernel
theorem own_d375 : decode jdk_42_method_129_code 18 = .ok (.getfield 9, 3) := by decide +kernel
theorem own_d376 : decode jdk_42_method_129_code 21 = .ok (.invokestatic 303, 3) := by decide +kernel
theorem own_ef_toCA (m : MethodId) (a1 : Addr) : entryFrame m #[(.ref a1)] 1 = mkF m 0 #[.val (.ref a1)] [] := by (first | (simp [entryFrame, mkF, argsToLocals, Value.category]; done) | rfl)
def own_Q_toCA (Z : State) (a1 : Addr) (cz : Int32) (t : Addr) (kt : ClassId) (cd : Int32) (N2 : Int32) (vs : List Value) (cs : List Int32) (fm : Value) (h0 : Heap) (n0 : Nat) (vq : Option Value) (h : Heap) (Lq : List Loc) : Prop := ∃ (a : Addr) (ka : ClassId) (ws : List Value), (vq = some (.ref a)) ∧ (Fr n0 Lq) ∧ (Keep h0 h []) ∧ (h0.size ≤ a) ∧ (Arv Z h a ka .char (Int32.ofNat cs.length) ws (.int 0)) ∧ (own_chl cs ws)
abbrev own_R_toCA : Room := { frames := 5, cells := 1, slots := 4, locals := 73 }
set_option maxRecDepth 65536 in
set_option maxHeartbeats 40000000 in
theorem own_rm_toCA (l : Launch) (Z : State) (a0 : Array Value) (hw : ∀ d ∈ tables_1, d.before a0 Z = true) (wsq : List Jvm.Cond) (a1 : Addr) (cz : Int32) (t : Addr) (kt : ClassId) (cd : Int32) (N2 : Int32) (vs : List Value) (cs : List Int32) (fm : Value) (h0 : Heap) (n0 : Nat) (Z0 : n0 ≤ h0.size) (O0 : Old Z n0 h0) (S1 : Sta Z Z.heap "java/lang/String" "COMPACT_STRINGS" "Z" (.int cz)) (P5 : ¬ cz = (0 : Int32)) (S2 : Sta Z Z.heap "jdk/internal/util/Preconditions" "SIOOBE_FORMATTER" "Ljava/util/function/BiFunction;" fm) (r_fm : fm.isRef = true) (S3 : Sta Z Z.heap "java/lang/StringUTF16" "$assertionsDisabled" "Z" (.int (1 : Int32))) (S4 : Sta Z Z.heap "java/lang/StringUTF16" "HI_BYTE_SHIFT" "I" (.int (0 : Int32))) (S5 : Sta Z Z.heap "java/lang/StringUTF16" "LO_BYTE_SHIFT" "I" (.int (8 : Int32))) (E1 : Exa Z h0 a1 "java/lang/String") (F1 : Fld Z h0 a1 "java/lang/String" "coder" "B" (.int cd)) (F2 : Fld Z h0 a1 "java/lang/String" "value" "[B" (.ref t)) (Va : Arv Z h0 t kt .byte N2 vs (.int 0)) (hc : own_cod cs cd N2 vs) (hlen : cs.length ≤ 4000) (hr : own_chs cs) (hn : cs.length ≤ 4) :
    MetFree l (⟨"java/lang/String", "toCharArray", "()[C"⟩ : MethodName) (head1 (Jvm.Cond.code (⟨"java/lang/String", "toCharArray", "()[C"⟩ : MethodName) jdk_42_method_129_code 1 (some (.array .char)) :: wsq) own_R_toCA) (fun aq Uq => aq = #[(.ref a1)] ∧ Z.Warmed39 Uq.vm ∧ Uq.heap = h0) (fun _ _ _ _ _ => True) (fun _ Uq oq Uq' => ∃ vq Lq, oq = .returned vq ∧ own_Q_toCA Z a1 cz t kt cd N2 vs cs fm h0 n0 vq Uq'.heap Lq ∧ FrameEnd Uq oq Uq' Lq own_R_toCA.cells own_R_toCA.slots) := by
  refine MetFree.of_bodySF (plainFor_of_name own_pn0) hisR ?_
  intro p e s m args below meth cde s₁ Bd hml0 hP hK
  obtain ⟨rfl, hZ, hh⟩ := hP
  have hx := Bd.exec
  have hby := Bd.bytes
  have hml : cde.maxLocals = 1 := hml0
  have hown : s.vm.findClass "java/lang/String" = some m.cls := findClass_of_methodNamed Bd.named
  have hnm := (name_of_methodNamed Bd.named Bd.method).1
  have X0 : Stand p l e own_R_toCA s m #[(.ref a1)] below meth cde s₁ [] 0 0 := Stand.of_body Bd
  have e0 : s₁.heap = h0 := by rw [← hh, Bd.state]; rfl
  have N0 := Fr.nil n0
  show own_Fin p e s below (own_Q_toCA Z a1 cz t kt cd N2 vs cs fm h0 n0) own_R_toCA.cells own_R_toCA.slots s₁ (entryFrame m #[(.ref a1)] 1)
  rw [own_ef_toCA m a1]
  refine own_via (fun _ kq => XS.aloadN X0.here hx rfl (hb hby own_d366) rfl rfl kq) ?_
  show own_Fin _ _ _ _ _ _ _ s₁ (mkF m 1 #[.val (.ref a1)] [(.ref a1)])
  obtain ⟨cq1_, kq1_, q1_a, q1_b, q1_c⟩ := isOf hZ e0 E1
  obtain ⟨_, _, ⟨T1_, L1_, k1_, n1_⟩, -, X1_, ⟨Lc1_, hQ1_, l1_, y1_, z1_⟩, st1_⟩ := X0.virtualBack hx (y := (⟨"java/lang/String", "isLatin1", "()Z"⟩ : MethodName)) (z := (⟨"java/lang/String", "isLatin1", "()Z"⟩ : MethodName)) hown (mvT hZ (own_w hw 68 rfl)) (mvT hZ (own_w hw 69 rfl)) (notFace_of_selects (args := #[]) (mvT hZ (own_w hw 71 rfl))) (mvT hZ (own_w hw 71 rfl)) (mvT hZ (own_w hw 70 rfl)) (by decide) (backOf (W := 0) (own_rm_isLat l Z a0 hw [] a1 cz cd h0 n0 Z0 O0 S1 (by first | assumption | decide) F1) hZ (own_w hw 72 rfl) (own_w hw 10 rfl) (by decide) (by decide)) q1_a q1_c (g := (mkF m 1 #[.val (.ref a1)] [(.ref a1)])) rfl (by rw [hml]; rfl) (Steps.refl _) (argsL := []) (rest := []) (lenOf own_pd6 rfl) rfl (by show 2 * 0 + _ ≤ _; exact Nat.le_of_eq rfl) (hb hby own_d367) (fun _ _ => ⟨rfl, e0, (by decide : 0 + 0 ≤ _), (by decide : 0 + 0 ≤ _)⟩)
  dsimp only [Pt.U, Pt.locs, Pt.cells, Pt.slots] at X1_ l1_ y1_ z1_ st1_ hQ1_
  subst l1_ y1_ z1_
  obtain ⟨r, rfl, Nq1_, hh1_, hq⟩ := hQ1_
  have N1_ := Fr.app N0 Nq1_
  refine own_via (fun _ kq => st1_.trans kq) ?_
  show own_Fin _ _ _ _ _ _ _ T1_ (mkF m 4 #[.val (.ref a1)] [(.int r)])
  rcases Classical.em (r = (0 : Int32)) with hz | hz
  · refine own_via (fun _ kq => XS.ifYes X1_.here hx rfl (pc0 := 4) (pc' := 17) rfl (hb hby own_d368) rfl ((if0 _ _).trans (teq hz).1) (by decide) (by decide) kq) ?_
    show own_Fin _ _ _ _ _ _ _ T1_ (mkF m 17 #[.val (.ref a1)] [])
    have hd : ¬ cd = (0 : Int32) := (hq.resolve_left fun z => absurd (z.1.symm.trans hz) (by decide)).2
    have hA := own_cod_u hc hd
    have hp : 0 < cs.length := by obtain ⟨q, hq1, -⟩ := hA.2.2; omega
    refine own_via (fun _ kq => XS.aloadN X1_.here hx rfl (hb hby own_d374) rfl rfl kq) ?_
    show own_Fin _ _ _ _ _ _ _ T1_ (mkF m 18 #[.val (.ref a1)] [(.ref a1)])
    obtain ⟨T6_, X6_, e6_, st6_⟩ := getF X1_ hx hZ hown (host := "") (Or.inl (own_w hw 28 rfl)) Via.refl hh1_ F2 (g := (mkF m 18 #[.val (.ref a1)] [(.ref a1)])) rfl rfl (hb hby own_d375)
    refine own_via (fun _ kq => st6_ _ kq) ?_
    show own_Fin _ _ _ _ _ _ _ T6_ (mkF m 21 #[.val (.ref a1)] [(.ref t)])
    obtain ⟨_, _, ⟨T7_, L7_, k7_, n7_⟩, -, X7_, ⟨Lc7_, hQ7_, l7_, y7_, z7_⟩, st7_⟩ := Jvm.LawKit.callS X6_ hx (y := (⟨"java/lang/StringUTF16", "toChars", "([B)[C"⟩ : MethodName)) hown (mvT hZ (own_w hw 193 rfl)) (mvT hZ (own_w hw 194 rfl)) (mvT hZ (own_w hw 129 rfl)) (mvT hZ (own_w hw 195 rfl)) (by decide) (backOf (W := 0) (own_rm_u16ToC l Z a0 hw [] t kt N2 vs cs fm h0 n0 Z0 O0 S2 r_fm S3 S4 S5 Va hA.1 hn hp hA.2.1 hr) hZ (own_w hw 195 rfl) (own_w hw 129 rfl) (by decide) (by decide)) (g := (mkF m 21 #[.val (.ref a1)] [(.ref t)])) rfl (by rw [hml]; rfl) (argsL := [(.ref t)]) (rest := []) (lenOf own_pd20 rfl) rfl (by show 2 * 0 + _ ≤ _; exact Nat.le_of_eq rfl) (hb hby own_d376) (fun _ _ => ⟨rfl, e6_, (by decide : 0 + 0 + 1 ≤ _), (by decide : 0 + 0 + 4 ≤ _)⟩)
    dsimp only [Pt.U, Pt.locs, Pt.cells, Pt.slots] at X7_ l7_ y7_ z7_ st7_ hQ7_
    subst l7_ y7_ z7_
    obtain ⟨a, ka, ws, rfl, Nq7_, K7_, r8_, r9_, hx_⟩ := hQ7_
    have N7_ := Fr.app N1_ Nq7_
    refine own_via (fun _ kq => st7_ _ kq) ?_
    show own_Fin _ _ _ _ _ _ _ T7_ (mkF m 24 #[.val (.ref a1)] [(.ref a)])
    exact own_retA X7_ hx Bd.returns Bd.notSynchronized rfl rfl (hb hby own_d373) rfl ⟨a, ka, ws, rfl, N7_, ((Keep.refl h0 []).trans K7_ all0), r8_, r9_, hx_⟩ (by decide) (by decide)
  · refine own_via (fun _ kq => XS.ifNo X1_.here hx rfl (hb hby own_d368) rfl ((if0 _ _).trans (feq hz).1) kq) ?_
    show own_Fin _ _ _ _ _ _ _ T1_ (mkF m 7 #[.val (.ref a1)] [])
    have hd : cd = (0 : Int32) := (hq.resolve_right fun z => hz z.1).2
    have hA := own_cod_l hc hd
    refine own_via (fun _ kq => XS.aloadN X1_.here hx rfl (hb hby own_d369) rfl rfl kq) ?_
    show own_Fin _ _ _ _ _ _ _ T1_ (mkF m 8 #[.val (.ref a1)] [(.ref a1)])
    obtain ⟨T2_, X2_, e2_, st2_⟩ := getF X1_ hx hZ hown (host := "") (Or.inl (own_w hw 28 rfl)) Via.refl hh1_ F2 (g := (mkF m 8 #[.val (.ref a1)] [(.ref a1)])) rfl rfl (hb hby own_d370)
    refine own_via (fun _ kq => st2_ _ kq) ?_
    show own_Fin _ _ _ _ _ _ _ T2_ (mkF m 11 #[.val (.ref a1)] [(.ref t)])
    obtain ⟨_, _, ⟨T3_, L3_, k3_, n3_⟩, -, X3_, ⟨Lc3_, hQ3_, l3_, y3_, z3_⟩, st3_⟩ := Jvm.LawKit.callS X2_ hx (y := (⟨"java/lang/StringLatin1", "toChars", "([B)[C"⟩ : MethodName)) hown (mvT hZ (own_w hw 73 rfl)) (mvT hZ (own_w hw 74 rfl)) (mvT hZ (own_w hw 75 rfl)) (mvT hZ (own_w hw 76 rfl)) (by decide) (backOf (W := 0) (own_rm_latToC l Z a0 hw [] t kt N2 vs cs h0 n0 Z0 Va hA.1 hn hA.2 hr) hZ (own_w hw 76 rfl) (own_w hw 75 rfl) (by decide) (by decide)) (g := (mkF m 11 #[.val (.ref a1)] [(.ref t)])) rfl (by rw [hml]; rfl) (argsL := [(.ref t)]) (rest := []) (lenOf own_pd20 rfl) rfl (by show 2 * 0 + _ ≤ _; exact Nat.le_of_eq rfl) (hb hby own_d371) (fun _ _ => ⟨rfl, e2_, (by decide : 0 + 0 + 1 ≤ _), (by decide : 0 + 0 + 4 ≤ _)⟩)
    dsimp only [Pt.U, Pt.locs, Pt.cells, Pt.slots] at X3_ l3_ y3_ z3_ st3_ hQ3_
    subst l3_ y3_ z3_
    obtain ⟨a, ka, ws, rfl, Nq3_, K3_, r4_, r5_, hx_⟩ := hQ3_
    have N3_ := Fr.app N1_ Nq3_
    refine own_via (fun _ kq => st3_ _ kq) ?_
    show own_Fin _ _ _ _ _ _ _ T3_ (mkF m 14 #[.val (.ref a1)] [(.ref a)])
    refine own_via (fun _ kq => XS.goto X3_.here hx rfl (pc0 := 14) (pc' := 24) rfl (hb hby own_d372) (by decide) (by decide) kq) ?_
    show own_Fin _ _ _ _ _ _ _ T3_ (mkF m 24 #[.val (.ref a1)] [(.ref a)])
    have Vz : Arv Z T3_.heap a ka .char (Int32.ofNat cs.length) ws (.int 0) := by
      have q := r5_
      rw [hA.1] at q
      exact q
    exact own_retA X3_ hx Bd.returns Bd.notSynchronized rfl rfl (hb hby own_d373) rfl ⟨a, ka, ws, rfl, N3_, ((Keep.refl h0 []).trans K3_ all0), r4_, Vz, hx_⟩ (by decide) (by decide)
theorem own_d377 : decode jdk_68_method_64_code 0 = .ok (.aload_n 0, 1) := by decide +kernel
theorem own_d378 : decode jdk_68_method_64_code 1 = .ok (.getfield 15, 3) := by decide +kernel
theorem own_d379 : decode jdk_68_method_64_code 4 = .ok (.areturn, 1) := by decide +kernel
theorem own_ef_getV (m : MethodId) (b : Addr) : entryFrame m #[(.ref b)] 1 = mkF m 0 #[.val (.ref b)] [] := by (first | (simp [entryFrame, mkF, argsToLocals, Value.category]; done) | rfl)
def own_Q_getV (Z : State) (b : Addr) (t : Addr) (h0 : Heap) (n0 : Nat) (vq : Option Value) (h : Heap) (Lq : List Loc) : Prop := (vq = some (.ref t)) ∧ (Fr n0 Lq) ∧ (h = h0)
abbrev own_R_getV : Room := { frames := 0, cells := 0, slots := 0, locals := 0 }
set_option maxRecDepth 65536 in
set_option maxHeartbeats 40000000 in
theorem own_rm_getV (l : Launch) (Z : State) (a0 : Array Value) (hw : ∀ d ∈ tables_1, d.before a0 Z = true) (wsq : List Jvm.Cond) (b : Addr) (t : Addr) (h0 : Heap) (n0 : Nat) (Z0 : n0 ≤ h0.size) (Fv : Fld Z h0 b "java/lang/AbstractStringBuilder" "value" "[B" (.ref t)) :
    MetFree l (⟨"java/lang/AbstractStringBuilder", "getValue", "()[B"⟩ : MethodName) (head1 (Jvm.Cond.code (⟨"java/lang/AbstractStringBuilder", "getValue", "()[B"⟩ : MethodName) jdk_68_method_64_code 1 (some (.array .byte)) :: wsq) own_R_getV) (fun aq Uq => aq = #[(.ref b)] ∧ Z.Warmed39 Uq.vm ∧ Uq.heap = h0) (fun _ _ _ _ _ => True) (fun _ Uq oq Uq' => ∃ vq Lq, oq = .returned vq ∧ own_Q_getV Z b t h0 n0 vq Uq'.heap Lq ∧ FrameEnd Uq oq Uq' Lq own_R_getV.cells own_R_getV.slots) := by
  refine MetFree.of_bodySF (plainFor_of_name own_pn4) hisR ?_
  intro p e s m args below meth cde s₁ Bd hml0 hP hK
  obtain ⟨rfl, hZ, hh⟩ := hP
  have hx := Bd.exec
  have hby := Bd.bytes
  have hml : cde.maxLocals = 1 := hml0
  have hown : s.vm.findClass "java/lang/AbstractStringBuilder" = some m.cls := findClass_of_methodNamed Bd.named
  have hnm := (name_of_methodNamed Bd.named Bd.method).1
  have X0 : Stand p l e own_R_getV s m #[(.ref b)] below meth cde s₁ [] 0 0 := Stand.of_body Bd
  have e0 : s₁.heap = h0 := by rw [← hh, Bd.state]; rfl
  have N0 := Fr.nil n0
  show own_Fin p e s below (own_Q_getV Z b t h0 n0) own_R_getV.cells own_R_getV.slots s₁ (entryFrame m #[(.ref b)] 1)
  rw [own_ef_getV m b]
  refine own_via (fun _ kq => XS.aloadN X0.here hx rfl (hb hby own_d377) rfl rfl kq) ?_
  show own_Fin _ _ _ _ _ _ _ s₁ (mkF m 1 #[.val (.ref b)] [(.ref b)])
  obtain ⟨T1_, X1_, e1_, st1_⟩ := getF X0 hx hZ hown (host := "") (Or.inl (own_w hw 59 rfl)) Via.refl e0 Fv (g := (mkF m 1 #[.val (.ref b)] [(.ref b)])) rfl rfl (hb hby own_d378)
  refine own_via (fun _ kq => st1_ _ kq) ?_
  show own_Fin _ _ _ _ _ _ _ T1_ (mkF m 4 #[.val (.ref b)] [(.ref t)])
  exact own_retA X1_ hx Bd.returns Bd.notSynchronized rfl rfl (hb hby own_d379) e1_ ⟨rfl, N0, rfl⟩ (by decide) (by decide)
theorem own_d380 : decode jdk_68_method_6_code 0 = .ok (.aload_n 0, 1) := by decide +kernel
theorem own_d381 : decode jdk_68_method_6_code 1 = .ok (.getfield 79, 3) := by decide +kernel
theorem own_d382 : decode jdk_68_method_6_code 4 = .ok (.ireturn, 1) := by decide +kernel
theorem own_ef_asbL (m : MethodId) (b : Addr) : entryFrame m #[(.ref b)] 1 = mkF m 0 #[.val (.ref b)] [] := by (first | (simp [entryFrame, mkF, argsToLocals, Value.category]; done) | rfl)
def own_Q_asbL (Z : State) (b : Addr) (N : Int32) (h0 : Heap) (n0 : Nat) (vq : Option Value) (h : Heap) (Lq : List Loc) : Prop := (vq = some (.int N)) ∧ (Fr n0 Lq) ∧ (h = h0)
abbrev own_R_asbL : Room := { frames := 0, cells := 0, slots := 0, locals := 0 }
set_option maxRecDepth 65536 in
set_option maxHeartbeats 40000000 in
theorem own_rm_asbL (l : Launch) (Z : State) (a0 : Array Value) (hw : ∀ d ∈ tables_1, d.before a0 Z = true) (wsq : List Jvm.Cond) (b : Addr) (N : Int32) (h0 : Heap) (n0 : Nat) (Z0 : n0 ≤ h0.size) (Fn : Fld Z h0 b "java/lang/AbstractStringBuilder" "count" "I" (.int N)) :
    MetFree l (⟨"java/lang/AbstractStringBuilder", "length", "()I"⟩ : MethodName) (head1 (Jvm.Cond.code (⟨"java/lang/AbstractStringBuilder", "length", "()I"⟩ : MethodName) jdk_68_method_6_code 1 (some .int) :: wsq) own_R_asbL) (fun aq Uq => aq = #[(.ref b)] ∧ Z.Warmed39 Uq.vm ∧ Uq.heap = h0) (fun _ _ _ _ _ => True) (fun _ Uq oq Uq' => ∃ vq Lq, oq = .returned vq ∧ own_Q_asbL Z b N h0 n0 vq Uq'.heap Lq ∧ FrameEnd Uq oq Uq' Lq own_R_asbL.cells own_R_asbL.slots) := by
  refine MetFree.of_bodySF (plainFor_of_name own_pn4) hisR ?_
  intro p e s m args below meth cde s₁ Bd hml0 hP hK
  obtain ⟨rfl, hZ, hh⟩ := hP
  have hx := Bd.exec
  have hby := Bd.bytes
  have hml : cde.maxLocals = 1 := hml0
  have hown : s.vm.findClass "java/lang/AbstractStringBuilder" = some m.cls := findClass_of_methodNamed Bd.named
  have hnm := (name_of_methodNamed Bd.named Bd.method).1
  have X0 : Stand p l e own_R_asbL s m #[(.ref b)] below meth cde s₁ [] 0 0 := Stand.of_body Bd
  have e0 : s₁.heap = h0 := by rw [← hh, Bd.state]; rfl
  have N0 := Fr.nil n0
  show own_Fin p e s below (own_Q_asbL Z b N h0 n0) own_R_asbL.cells own_R_asbL.slots s₁ (entryFrame m #[(.ref b)] 1)
  rw [own_ef_asbL m b]
  refine own_via (fun _ kq => XS.aloadN X0.here hx rfl (hb hby own_d380) rfl rfl kq) ?_
  show own_Fin _ _ _ _ _ _ _ s₁ (mkF m 1 #[.val (.ref b)] [(.ref b)])
  obtain ⟨T1_, X1_, e1_, st1_⟩ := getF X0 hx hZ hown (host := "") (Or.inl (own_w hw 106 rfl)) Via.refl e0 Fn (g := (mkF m 1 #[.val (.ref b)] [(.ref b)])) rfl rfl (hb hby own_d381)
  refine own_via (fun _ kq => st1_ _ kq) ?_
  show own_Fin _ _ _ _ _ _ _ T1_ (mkF m 4 #[.val (.ref b)] [(.int N)])
  exact own_retI X1_ hx Bd.returns Bd.notSynchronized (hb hby own_d382) e1_ rfl ⟨rfl, N0, rfl⟩ (by decide) (by decide)
theorem own_d383 : decode jdk_67_method_93_code 0 = .ok (.aload_n 0, 1) := by decide +kernel
theorem own_d384 : decode jdk_67_method_93_code 1 = .ok (.invokespecial 343, 3) := by decide +kernel
theorem own_pd21 : parseMethodDescriptor "()I" = some ⟨[], some .int⟩ := by decide +kernel
theorem own_d385 : decode jdk_67_method_93_code 4 = .ok (.ireturn, 1) := by decide +kernel
theorem own_ef_sbL (m : MethodId) (b : Addr) : entryFrame m #[(.ref b)] 1 = mkF m 0 #[.val (.ref b)] [] := by (first | (simp [entryFrame, mkF, argsToLocals, Value.category]; done) | rfl)
def own_Q_sbL (Z : State) (b : Addr) (N : Int32) (h0 : Heap) (n0 : Nat) (vq : Option Value) (h : Heap) (Lq : List Loc) : Prop := (vq = some (.int N)) ∧ (Fr n0 Lq) ∧ (h = h0)
abbrev own_R_sbL : Room := { frames := 1, cells := 0, slots := 0, locals := 12 }
set_option maxRecDepth 65536 in
set_option maxHeartbeats 40000000 in
theorem own_rm_sbL (l : Launch) (Z : State) (a0 : Array Value) (hw : ∀ d ∈ tables_1, d.before a0 Z = true) (wsq : List Jvm.Cond) (b : Addr) (N : Int32) (h0 : Heap) (n0 : Nat) (Z0 : n0 ≤ h0.size) (Eb : Exa Z h0 b "java/lang/StringBuilder") (Fn : Fld Z h0 b "java/lang/AbstractStringBuilder" "count" "I" (.int N)) :
    MetFree l (⟨"java/lang/StringBuilder", "length", "()I"⟩ : MethodName) (head1 (Jvm.Cond.code (⟨"java/lang/StringBuilder", "length", "()I"⟩ : MethodName) jdk_67_method_93_code 1 (some .int) :: wsq) own_R_sbL) (fun aq Uq => aq = #[(.ref b)] ∧ Z.Warmed39 Uq.vm ∧ Uq.heap = h0) (fun _ _ _ _ _ => True) (fun _ Uq oq Uq' => ∃ vq Lq, oq = .returned vq ∧ own_Q_sbL Z b N h0 n0 vq Uq'.heap Lq ∧ FrameEnd Uq oq Uq' Lq own_R_sbL.cells own_R_sbL.slots) := by
  refine MetFree.of_bodySF (plainFor_of_name own_pn5) hisR ?_
  intro p e s m args below meth cde s₁ Bd hml0 hP hK
  obtain ⟨rfl, hZ, hh⟩ := hP
  have hx := Bd.exec
  have hby := Bd.bytes
  have hml : cde.maxLocals = 1 := hml0
  have hown : s.vm.findClass "java/lang/StringBuilder" = some m.cls := findClass_of_methodNamed Bd.named
  have hnm := (name_of_methodNamed Bd.named Bd.method).1
  have X0 : Stand p l e own_R_sbL s m #[(.ref b)] below meth cde s₁ [] 0 0 := Stand.of_body Bd
  have e0 : s₁.heap = h0 := by rw [← hh, Bd.state]; rfl
  have N0 := Fr.nil n0
  show own_Fin p e s below (own_Q_sbL Z b N h0 n0) own_R_sbL.cells own_R_sbL.slots s₁ (entryFrame m #[(.ref b)] 1)
  rw [own_ef_sbL m b]
  refine own_via (fun _ kq => XS.aloadN X0.here hx rfl (hb hby own_d383) rfl rfl kq) ?_
  show own_Fin _ _ _ _ _ _ _ s₁ (mkF m 1 #[.val (.ref b)] [(.ref b)])
  obtain ⟨_, _, ⟨T1_, L1_, k1_, n1_⟩, -, X1_, ⟨Lc1_, hQ1_, l1_, y1_, z1_⟩, st1_⟩ := superBack X0 hx hZ (y := (⟨"java/lang/AbstractStringBuilder", "length", "()I"⟩ : MethodName)) hown (own_w hw 103 rfl) (own_same (own_w hw 99 rfl) (own_w hw 95 rfl) rfl (by decide)) (own_w hw 99 rfl) (own_w hw 104 rfl) (by decide) (backOf (W := 0) (own_rm_asbL l Z a0 hw [] b N h0 n0 Z0 Fn) hZ (own_w hw 105 rfl) (own_w hw 55 rfl) (by decide) (by decide)) e0 (a := b) (Ins.self Eb) (g := (mkF m 1 #[.val (.ref b)] [(.ref b)])) rfl (by rw [hml]; rfl) (own_w hw 105 rfl) (argsL := []) (rest := []) (lenOf own_pd21 rfl) rfl (by show 2 * 0 + _ ≤ _; exact Nat.le_of_eq rfl) (hb hby own_d384) (fun _ _ => ⟨rfl, e0, (by decide : 0 + 0 ≤ _), (by decide : 0 + 0 ≤ _)⟩)
  dsimp only [Pt.U, Pt.locs, Pt.cells, Pt.slots] at X1_ l1_ y1_ z1_ st1_ hQ1_
  subst l1_ y1_ z1_
  obtain ⟨rfl, Nq1_, hh1_⟩ := hQ1_
  have N1_ := Fr.app N0 Nq1_
  refine own_via (fun _ kq => st1_.trans kq) ?_
  show own_Fin _ _ _ _ _ _ _ T1_ (mkF m 4 #[.val (.ref b)] [(.int N)])
  exact own_retI X1_ hx Bd.returns Bd.notSynchronized (hb hby own_d385) hh1_ rfl ⟨rfl, N1_, rfl⟩ (by decide) (by decide)
theorem own_d386 : decode jdk_68_method_68_code 0 = .ok (.getstatic 18, 3) := by decide +kernel
theorem own_d387 : decode jdk_68_method_68_code 3 = .ok (.ifCond .eq 14, 3) := by decide +kernel
theorem own_d388 : decode jdk_68_method_68_code 6 = .ok (.aload_n 0, 1) := by decide +kernel
theorem own_d389 : decode jdk_68_method_68_code 7 = .ok (.getfield 22, 3) := by decide +kernel
theorem own_d390 : decode jdk_68_method_68_code 10 = .ok (.ifCond .ne 7, 3) := by decide +kernel
theorem own_d391 : decode jdk_68_method_68_code 17 = .ok (.iconst 0, 1) := by decide +kernel
theorem own_d392 : decode jdk_68_method_68_code 18 = .ok (.ireturn, 1) := by decide +kernel
theorem own_d393 : decode jdk_68_method_68_code 13 = .ok (.iconst 1, 1) := by decide +kernel
theorem own_d394 : decode jdk_68_method_68_code 14 = .ok (.goto 4, 3) := by decide +kernel
theorem own_ef_asbLat (m : MethodId) (b : Addr) : entryFrame m #[(.ref b)] 1 = mkF m 0 #[.val (.ref b)] [] := by (first | (simp [entryFrame, mkF, argsToLocals, Value.category]; done) | rfl)
def own_Q_asbLat (Z : State) (b : Addr) (cz : Int32) (cd : Int32) (h0 : Heap) (n0 : Nat) (vq : Option Value) (h : Heap) (Lq : List Loc) : Prop := ∃ (r : Int32), (vq = some (.int r)) ∧ (Fr n0 Lq) ∧ (h = h0) ∧ ((r = (1 : Int32) ∧ cd = (0 : Int32)) ∨ (r = (0 : Int32) ∧ ¬ cd = (0 : Int32)))
abbrev own_R_asbLat : Room := { frames := 0, cells := 0, slots := 0, locals := 0 }
set_option maxRecDepth 65536 in
set_option maxHeartbeats 40000000 in
theorem own_rm_asbLat (l : Launch) (Z : State) (a0 : Array Value) (hw : ∀ d ∈ tables_1, d.before a0 Z = true) (wsq : List Jvm.Cond) (b : Addr) (cz : Int32) (cd : Int32) (h0 : Heap) (n0 : Nat) (Z0 : n0 ≤ h0.size) (O0 : Old Z n0 h0) (S1 : Sta Z Z.heap "java/lang/String" "COMPACT_STRINGS" "Z" (.int cz)) (P5 : ¬ cz = (0 : Int32)) (Fc : Fld Z h0 b "java/lang/AbstractStringBuilder" "coder" "B" (.int cd)) :
    MetFree l (⟨"java/lang/AbstractStringBuilder", "isLatin1", "()Z"⟩ : MethodName) (head1 (Jvm.Cond.code (⟨"java/lang/AbstractStringBuilder", "isLatin1", "()Z"⟩ : MethodName) jdk_68_method_68_code 1 (some .boolean) :: wsq) own_R_asbLat) (fun aq Uq => aq = #[(.ref b)] ∧ Z.Warmed39 Uq.vm ∧ Uq.heap = h0) (fun _ _ _ _ _ => True) (fun _ Uq oq Uq' => ∃ vq Lq, oq = .returned vq ∧ own_Q_asbLat Z b cz cd h0 n0 vq Uq'.heap Lq ∧ FrameEnd Uq oq Uq' Lq own_R_asbLat.cells own_R_asbLat.slots) := by
  refine MetFree.of_bodySF (plainFor_of_name own_pn4) hisR ?_
  intro p e s m args below meth cde s₁ Bd hml0 hP hK
  obtain ⟨rfl, hZ, hh⟩ := hP
  have hx := Bd.exec
  have hby := Bd.bytes
  have hml : cde.maxLocals = 1 := hml0
  have hown : s.vm.findClass "java/lang/AbstractStringBuilder" = some m.cls := findClass_of_methodNamed Bd.named
  have hnm := (name_of_methodNamed Bd.named Bd.method).1
  have X0 : Stand p l e own_R_asbLat s m #[(.ref b)] below meth cde s₁ [] 0 0 := Stand.of_body Bd
  have e0 : s₁.heap = h0 := by rw [← hh, Bd.state]; rfl
  have N0 := Fr.nil n0
  show own_Fin p e s below (own_Q_asbLat Z b cz cd h0 n0) own_R_asbLat.cells own_R_asbLat.slots s₁ (entryFrame m #[(.ref b)] 1)
  rw [own_ef_asbLat m b]
  obtain ⟨T1_, X1_, e1_, st1_⟩ := getS2 X0 hx hZ hown (host := "") (Or.inl (own_w hw 58 rfl)) Via.refl e0 (S1.ext O0.2) (g := (mkF m 0 #[.val (.ref b)] [])) rfl (hb hby own_d386)
  refine own_via (fun _ kq => st1_ _ kq) ?_
  show own_Fin _ _ _ _ _ _ _ T1_ (mkF m 3 #[.val (.ref b)] [(.int cz)])
  refine own_via (fun _ kq => XS.ifNo X1_.here hx rfl (hb hby own_d387) rfl ((if0 _ _).trans (feq P5).1) kq) ?_
  show own_Fin _ _ _ _ _ _ _ T1_ (mkF m 6 #[.val (.ref b)] [])
  refine own_via (fun _ kq => XS.aloadN X1_.here hx rfl (hb hby own_d388) rfl rfl kq) ?_
  show own_Fin _ _ _ _ _ _ _ T1_ (mkF m 7 #[.val (.ref b)] [(.ref b)])
  obtain ⟨T2_, X2_, e2_, st2_⟩ := getF X1_ hx hZ hown (host := "") (Or.inl (own_w hw 61 rfl)) Via.refl e1_ Fc (g := (mkF m 7 #[.val (.ref b)] [(.ref b)])) rfl rfl (hb hby own_d389)
  refine own_via (fun _ kq => st2_ _ kq) ?_
  show own_Fin _ _ _ _ _ _ _ T2_ (mkF m 10 #[.val (.ref b)] [(.int cd)])
  rcases Classical.em (cd = (0 : Int32)) with hz | hz
  · refine own_via (fun _ kq => XS.ifNo X2_.here hx rfl (hb hby own_d390) rfl ((if0 _ _).trans (teq hz).2) kq) ?_
    show own_Fin _ _ _ _ _ _ _ T2_ (mkF m 13 #[.val (.ref b)] [])
    refine own_via (fun _ kq => XS.iconst X2_.here hx rfl (hb hby own_d393) kq) ?_
    refine own_via (fun _ kq => XS.goto X2_.here hx rfl (pc0 := 14) (pc' := 18) rfl (hb hby own_d394) (by decide) (by decide) kq) ?_
    show own_Fin _ _ _ _ _ _ _ T2_ (mkF m 18 #[.val (.ref b)] [(.int (1 : Int32))])
    exact own_retN X2_ hx (t := .boolean) Bd.returns Bd.notSynchronized (by simp) (hb hby own_d392) e2_ rfl ⟨(1 : Int32), rfl, N0, rfl, (Or.inl ⟨rfl, hz⟩)⟩ (by decide) (by decide)
  · refine own_via (fun _ kq => XS.ifYes X2_.here hx rfl (pc0 := 10) (pc' := 17) rfl (hb hby own_d390) rfl ((if0 _ _).trans (feq hz).2) (by decide) (by decide) kq) ?_
    show own_Fin _ _ _ _ _ _ _ T2_ (mkF m 17 #[.val (.ref b)] [])
    refine own_via (fun _ kq => XS.iconst X2_.here hx rfl (hb hby own_d391) kq) ?_
    show own_Fin _ _ _ _ _ _ _ T2_ (mkF m 18 #[.val (.ref b)] [(.int (0 : Int32))])
    exact own_retN X2_ hx (t := .boolean) Bd.returns Bd.notSynchronized (by simp) (hb hby own_d392) e2_ rfl ⟨(0 : Int32), rfl, N0, rfl, (Or.inr ⟨rfl, hz⟩)⟩ (by decide) (by decide)
theorem own_d395 : decode jdk_68_method_9_code 0 = .ok (.aload_n 0, 1) := by decide +kernel
theorem own_d396 : decode jdk_68_method_9_code 1 = .ok (.getfield 15, 3) := by decide +kernel
theorem own_d397 : decode jdk_68_method_9_code 4 = .ok (.arraylength, 1) := by decide +kernel
theorem own_d398 : decode jdk_68_method_9_code 5 = .ok (.aload_n 0, 1) := by decide +kernel
theorem own_d399 : decode jdk_68_method_9_code 6 = .ok (.getfield 22, 3) := by decide +kernel
theorem own_d400 : decode jdk_68_method_9_code 9 = .ok (.ishr, 1) := by decide +kernel
theorem own_d401 : decode jdk_68_method_9_code 10 = .ok (.istore_n 2, 1) := by decide +kernel
theorem own_d402 : decode jdk_68_method_9_code 11 = .ok (.iload_n 1, 1) := by decide +kernel
theorem own_d403 : decode jdk_68_method_9_code 12 = .ok (.iload_n 2, 1) := by decide +kernel
theorem own_d404 : decode jdk_68_method_9_code 13 = .ok (.isub, 1) := by decide +kernel
theorem own_d405 : decode jdk_68_method_9_code 14 = .ok (.ifCond .le 24, 3) := by decide +kernel
theorem own_d406 : decode jdk_68_method_9_code 38 = .ok (.return_, 1) := by decide +kernel
theorem own_ef_ensC (m : MethodId) (b : Addr) (k : Int32) : entryFrame m #[(.ref b), (.int k)] 3 = mkF m 0 #[.val (.ref b), .val (.int k), .unset] [] := by (first | (simp [entryFrame, mkF, argsToLocals, Value.category]; done) | rfl)
def own_Q_ensC (Z : State) (b : Addr) (k : Int32) (t : Addr) (kt : ClassId) (cd : Int32) (N2 : Int32) (vs : List Value) (h0 : Heap) (n0 : Nat) (vq : Option Value) (h : Heap) (Lq : List Loc) : Prop := (vq = none) ∧ (Fr n0 Lq) ∧ (h = h0)
abbrev own_R_ensC : Room := { frames := 0, cells := 0, slots := 0, locals := 0 }
set_option maxRecDepth 65536 in
set_option maxHeartbeats 40000000 in
theorem own_rm_ensC (l : Launch) (Z : State) (a0 : Array Value) (hw : ∀ d ∈ tables_1, d.before a0 Z = true) (wsq : List Jvm.Cond) (b : Addr) (k : Int32) (t : Addr) (kt : ClassId) (cd : Int32) (N2 : Int32) (vs : List Value) (h0 : Heap) (n0 : Nat) (Z0 : n0 ≤ h0.size) (Fv : Fld Z h0 b "java/lang/AbstractStringBuilder" "value" "[B" (.ref t)) (Fc : Fld Z h0 b "java/lang/AbstractStringBuilder" "coder" "B" (.int cd)) (Va : Arv Z h0 t kt .byte N2 vs (.int 0)) (hcap : ¬ (0 : Int32) < (k - (N2 >>> (cd &&& 31)))) :
    MetFree l (⟨"java/lang/AbstractStringBuilder", "ensureCapacityInternal", "(I)V"⟩ : MethodName) (head1 (Jvm.Cond.code (⟨"java/lang/AbstractStringBuilder", "ensureCapacityInternal", "(I)V"⟩ : MethodName) jdk_68_method_9_code 3 none :: wsq) own_R_ensC) (fun aq Uq => aq = #[(.ref b), (.int k)] ∧ Z.Warmed39 Uq.vm ∧ Uq.heap = h0) (fun _ _ _ _ _ => True) (fun _ Uq oq Uq' => ∃ vq Lq, oq = .returned vq ∧ own_Q_ensC Z b k t kt cd N2 vs h0 n0 vq Uq'.heap Lq ∧ FrameEnd Uq oq Uq' Lq own_R_ensC.cells own_R_ensC.slots) := by
  refine MetFree.of_bodySF (plainFor_of_name own_pn4) hisR ?_
  intro p e s m args below meth cde s₁ Bd hml0 hP hK
  obtain ⟨rfl, hZ, hh⟩ := hP
  have hx := Bd.exec
  have hby := Bd.bytes
  have hml : cde.maxLocals = 3 := hml0
  have hown : s.vm.findClass "java/lang/AbstractStringBuilder" = some m.cls := findClass_of_methodNamed Bd.named
  have hnm := (name_of_methodNamed Bd.named Bd.method).1
  have X0 : Stand p l e own_R_ensC s m #[(.ref b), (.int k)] below meth cde s₁ [] 0 0 := Stand.of_body Bd
  have e0 : s₁.heap = h0 := by rw [← hh, Bd.state]; rfl
  have N0 := Fr.nil n0
  show own_Fin p e s below (own_Q_ensC Z b k t kt cd N2 vs h0 n0) own_R_ensC.cells own_R_ensC.slots s₁ (entryFrame m #[(.ref b), (.int k)] 3)
  rw [own_ef_ensC m b k]
  refine own_via (fun _ kq => XS.aloadN X0.here hx rfl (hb hby own_d395) rfl rfl kq) ?_
  show own_Fin _ _ _ _ _ _ _ s₁ (mkF m 1 #[.val (.ref b), .val (.int k), .unset] [(.ref b)])
  obtain ⟨T1_, X1_, e1_, st1_⟩ := getF X0 hx hZ hown (host := "") (Or.inl (own_w hw 59 rfl)) Via.refl e0 Fv (g := (mkF m 1 #[.val (.ref b), .val (.int k), .unset] [(.ref b)])) rfl rfl (hb hby own_d396)
  refine own_via (fun _ kq => st1_ _ kq) ?_
  show own_Fin _ _ _ _ _ _ _ T1_ (mkF m 4 #[.val (.ref b), .val (.int k), .unset] [(.ref t)])
  obtain ⟨c2_, Ar2_, -, S2_, M2_, -, -⟩ := (id Va)
  refine own_via (fun _ kq => X1_.arraylength hx (own_eq e1_ Ar2_.1) (State.isArrayOf_alike hZ.alike Ar2_.2.1) (g := (mkF m 4 #[.val (.ref b), .val (.int k), .unset] [(.ref t)])) rfl rfl (hb hby own_d397) _ (by rw [len_of S2_ M2_]; exact kq)) ?_
  show own_Fin _ _ _ _ _ _ _ T1_ (mkF m 5 #[.val (.ref b), .val (.int k), .unset] [(.int N2)])
  refine own_via (fun _ kq => XS.aloadN X1_.here hx rfl (hb hby own_d398) rfl rfl kq) ?_
  show own_Fin _ _ _ _ _ _ _ T1_ (mkF m 6 #[.val (.ref b), .val (.int k), .unset] [(.ref b), (.int N2)])
  obtain ⟨T3_, X3_, e3_, st3_⟩ := getF X1_ hx hZ hown (host := "") (Or.inl (own_w hw 61 rfl)) Via.refl e1_ Fc (g := (mkF m 6 #[.val (.ref b), .val (.int k), .unset] [(.ref b), (.int N2)])) rfl rfl (hb hby own_d399)
  refine own_via (fun _ kq => st3_ _ kq) ?_
  show own_Fin _ _ _ _ _ _ _ T3_ (mkF m 9 #[.val (.ref b), .val (.int k), .unset] [(.int cd), (.int N2)])
  refine own_via (fun _ kq => XS.ishr X3_.here hx rfl (hb hby own_d400) rfl kq) ?_
  refine own_via (fun _ kq => XS.istoreN X3_.here hx rfl (hb hby own_d401) rfl (l' := #[.val (.ref b), .val (.int k), .val (.int (N2 >>> (cd &&& 31)))]) rfl kq) ?_
  refine own_via (fun _ kq => XS.iloadN X3_.here hx rfl (hb hby own_d402) rfl kq) ?_
  refine own_via (fun _ kq => XS.iloadN X3_.here hx rfl (hb hby own_d403) rfl kq) ?_
  refine own_via (fun _ kq => XS.isub X3_.here hx rfl (hb hby own_d404) rfl kq) ?_
  refine own_via (fun _ kq => XS.ifYes X3_.here hx rfl (pc0 := 14) (pc' := 38) rfl (hb hby own_d405) rfl ((if0 _ _).trans (flt hcap).2.2.2) (by decide) (by decide) kq) ?_
  show own_Fin _ _ _ _ _ _ _ T3_ (mkF m 38 #[.val (.ref b), .val (.int k), .val (.int (N2 >>> (cd &&& 31)))] [])
  exact own_ret0 X3_ hx Bd.returns Bd.notSynchronized (hb hby own_d406) e3_ ⟨rfl, N0, rfl⟩ (by decide) (by decide)
theorem own_d407 : decode jdk_43_method_3_code 0 = .ok (.iload_n 0, 1) := by decide +kernel
theorem own_d408 : decode jdk_43_method_3_code 1 = .ok (.sipush 255, 3) := by decide +kernel
theorem own_d409 : decode jdk_43_method_3_code 4 = .ok (.if_icmp .gt 7, 3) := by decide +kernel
theorem own_d410 : decode jdk_43_method_3_code 11 = .ok (.iconst 0, 1) := by decide +kernel
theorem own_d411 : decode jdk_43_method_3_code 12 = .ok (.ireturn, 1) := by decide +kernel
theorem own_d412 : decode jdk_43_method_3_code 7 = .ok (.iconst 1, 1) := by decide +kernel
theorem own_d413 : decode jdk_43_method_3_code 8 = .ok (.goto 4, 3) := by decide +kernel
theorem own_ef_canE (m : MethodId) (c : Int32) : entryFrame m #[(.int c)] 1 = mkF m 0 #[.val (.int c)] [] := by (first | (simp [entryFrame, mkF, argsToLocals, Value.category]; done) | rfl)
def own_Q_canE (Z : State) (c : Int32) (h0 : Heap) (n0 : Nat) (vq : Option Value) (h : Heap) (Lq : List Loc) : Prop := ∃ (r : Int32), (vq = some (.int r)) ∧ (Fr n0 Lq) ∧ (h = h0) ∧ ((r = (1 : Int32) ∧ ¬ (255 : Int32) < c) ∨ (r = (0 : Int32) ∧ (255 : Int32) < c))
abbrev own_R_canE : Room := { frames := 0, cells := 0, slots := 0, locals := 0 }
set_option maxRecDepth 65536 in
set_option maxHeartbeats 40000000 in
theorem own_rm_canE (l : Launch) (Z : State) (a0 : Array Value) (hw : ∀ d ∈ tables_1, d.before a0 Z = true) (wsq : List Jvm.Cond) (c : Int32) (h0 : Heap) (n0 : Nat) (Z0 : n0 ≤ h0.size) :
    MetFree l (⟨"java/lang/StringLatin1", "canEncode", "(C)Z"⟩ : MethodName) (head1 (Jvm.Cond.code (⟨"java/lang/StringLatin1", "canEncode", "(C)Z"⟩ : MethodName) jdk_43_method_3_code 1 (some .boolean) :: wsq) own_R_canE) (fun aq Uq => aq = #[(.int c)] ∧ Z.Warmed39 Uq.vm ∧ Uq.heap = h0) (fun _ _ _ _ _ => True) (fun _ Uq oq Uq' => ∃ vq Lq, oq = .returned vq ∧ own_Q_canE Z c h0 n0 vq Uq'.heap Lq ∧ FrameEnd Uq oq Uq' Lq own_R_canE.cells own_R_canE.slots) := by
  refine MetFree.of_bodySF (plainFor_of_name own_pn2) hisR ?_
  intro p e s m args below meth cde s₁ Bd hml0 hP hK
  obtain ⟨rfl, hZ, hh⟩ := hP
  have hx := Bd.exec
  have hby := Bd.bytes
  have hml : cde.maxLocals = 1 := hml0
  have hown : s.vm.findClass "java/lang/StringLatin1" = some m.cls := findClass_of_methodNamed Bd.named
  have hnm := (name_of_methodNamed Bd.named Bd.method).1
  have X0 : Stand p l e own_R_canE s m #[(.int c)] below meth cde s₁ [] 0 0 := Stand.of_body Bd
  have e0 : s₁.heap = h0 := by rw [← hh, Bd.state]; rfl
  have N0 := Fr.nil n0
  show own_Fin p e s below (own_Q_canE Z c h0 n0) own_R_canE.cells own_R_canE.slots s₁ (entryFrame m #[(.int c)] 1)
  rw [own_ef_canE m c]
  refine own_via (fun _ kq => XS.iloadN X0.here hx rfl (hb hby own_d407) rfl kq) ?_
  refine own_via (fun _ kq => XS.sipush X0.here hx rfl (hb hby own_d408) kq) ?_
  rcases Classical.em ((255 : Int32) < c) with hz | hz
  · refine own_via (fun _ kq => XS.icmpYes X0.here hx rfl (pc0 := 4) (pc' := 11) rfl (hb hby own_d409) rfl (tlt hz).2.2.1 (by decide) (by decide) kq) ?_
    show own_Fin _ _ _ _ _ _ _ s₁ (mkF m 11 #[.val (.int c)] [])
    refine own_via (fun _ kq => XS.iconst X0.here hx rfl (hb hby own_d410) kq) ?_
    show own_Fin _ _ _ _ _ _ _ s₁ (mkF m 12 #[.val (.int c)] [(.int (0 : Int32))])
    exact own_retN X0 hx (t := .boolean) Bd.returns Bd.notSynchronized (by simp) (hb hby own_d411) e0 rfl ⟨(0 : Int32), rfl, N0, rfl, (Or.inr ⟨rfl, hz⟩)⟩ (by decide) (by decide)
  · refine own_via (fun _ kq => XS.icmpNo X0.here hx rfl (hb hby own_d409) rfl (flt hz).2.2.1 kq) ?_
    show own_Fin _ _ _ _ _ _ _ s₁ (mkF m 7 #[.val (.int c)] [])
    refine own_via (fun _ kq => XS.iconst X0.here hx rfl (hb hby own_d412) kq) ?_
    refine own_via (fun _ kq => XS.goto X0.here hx rfl (pc0 := 8) (pc' := 12) rfl (hb hby own_d413) (by decide) (by decide) kq) ?_
    show own_Fin _ _ _ _ _ _ _ s₁ (mkF m 12 #[.val (.int c)] [(.int (1 : Int32))])
    exact own_retN X0 hx (t := .boolean) Bd.returns Bd.notSynchronized (by simp) (hb hby own_d411) e0 rfl ⟨(1 : Int32), rfl, N0, rfl, (Or.inl ⟨rfl, hz⟩)⟩ (by decide) (by decide)
theorem own_d414 : decode jdk_52_method_71_code 0 = .ok (.iload_n 1, 1) := by decide +kernel
theorem own_d415 : decode jdk_52_method_71_code 1 = .ok (.aload_n 0, 1) := by decide +kernel
theorem own_d416 : decode jdk_52_method_71_code 2 = .ok (.invokestatic 67, 3) := by decide +kernel
theorem own_d417 : decode jdk_52_method_71_code 5 = .ok (.aload_n 0, 1) := by decide +kernel
theorem own_d418 : decode jdk_52_method_71_code 6 = .ok (.iload_n 1, 1) := by decide +kernel
theorem own_d419 : decode jdk_52_method_71_code 7 = .ok (.iload_n 2, 1) := by decide +kernel
theorem own_d420 : decode jdk_52_method_71_code 8 = .ok (.invokestatic 111, 3) := by decide +kernel
theorem own_d421 : decode jdk_52_method_71_code 11 = .ok (.return_, 1) := by decide +kernel
theorem own_ef_putSB (m : MethodId) (t : Addr) (j : Int32) (c : Int32) : entryFrame m #[(.ref t), (.int j), (.int c)] 3 = mkF m 0 #[.val (.ref t), .val (.int j), .val (.int c)] [] := by (first | (simp [entryFrame, mkF, argsToLocals, Value.category]; done) | rfl)
def own_Q_putSB (Z : State) (t : Addr) (kt : ClassId) (N2 : Int32) (ws : List Value) (c : Int32) (fm : Value) (j : Int32) (i : Nat) (n : Nat) (h0 : Heap) (n0 : Nat) (vq : Option Value) (h : Heap) (Lq : List Loc) : Prop := (vq = none) ∧ (Fr n0 Lq) ∧ (Keep h0 h [t]) ∧ (Arv Z h t kt .byte N2 ((ws.set (2 * i) (.int (own_lo c))).set (2 * i + 1) (.int (own_hi c))) (.int 0))
abbrev own_R_putSB : Room := { frames := 3, cells := 0, slots := 0, locals := 40 }
set_option maxRecDepth 65536 in
set_option maxHeartbeats 40000000 in
theorem own_rm_putSB (l : Launch) (Z : State) (a0 : Array Value) (hw : ∀ d ∈ tables_1, d.before a0 Z = true) (wsq : List Jvm.Cond) (t : Addr) (kt : ClassId) (N2 : Int32) (ws : List Value) (c : Int32) (fm : Value) (j : Int32) (i : Nat) (n : Nat) (h0 : Heap) (n0 : Nat) (Z0 : n0 ≤ h0.size) (O0 : Old Z n0 h0) (S2 : Sta Z Z.heap "jdk/internal/util/Preconditions" "SIOOBE_FORMATTER" "Ljava/util/function/BiFunction;" fm) (r_fm : fm.isRef = true) (S3 : Sta Z Z.heap "java/lang/StringUTF16" "$assertionsDisabled" "Z" (.int (1 : Int32))) (S4 : Sta Z Z.heap "java/lang/StringUTF16" "HI_BYTE_SHIFT" "I" (.int (0 : Int32))) (S5 : Sta Z Z.heap "java/lang/StringUTF16" "LO_BYTE_SHIFT" "I" (.int (8 : Int32))) (Va : Arv Z h0 t kt .byte N2 ws (.int 0)) (gt : n0 ≤ t) (hj : j = Int32.ofNat i) (hi : i < n) (hn : n ≤ 4000) (hN : N2 = Int32.ofNat (2 * n)) (hwl : ws.length = 2 * n) :
    MetFree l (⟨"java/lang/StringUTF16", "putCharSB", "([BII)V"⟩ : MethodName) (head1 (Jvm.Cond.code (⟨"java/lang/StringUTF16", "putCharSB", "([BII)V"⟩ : MethodName) jdk_52_method_71_code 3 none :: wsq) own_R_putSB) (fun aq Uq => aq = #[(.ref t), (.int j), (.int c)] ∧ Z.Warmed39 Uq.vm ∧ Uq.heap = h0) (fun _ _ _ _ _ => True) (fun _ Uq oq Uq' => ∃ vq Lq, oq = .returned vq ∧ own_Q_putSB Z t kt N2 ws c fm j i n h0 n0 vq Uq'.heap Lq ∧ FrameEnd Uq oq Uq' Lq own_R_putSB.cells own_R_putSB.slots) := by
  refine MetFree.of_bodySF (plainFor_of_name own_pn3) hisR ?_
  intro p e s m args below meth cde s₁ Bd hml0 hP hK
  obtain ⟨rfl, hZ, hh⟩ := hP
  have hx := Bd.exec
  have hby := Bd.bytes
  have hml : cde.maxLocals = 3 := hml0
  have hown : s.vm.findClass "java/lang/StringUTF16" = some m.cls := findClass_of_methodNamed Bd.named
  have hnm := (name_of_methodNamed Bd.named Bd.method).1
  have X0 : Stand p l e own_R_putSB s m #[(.ref t), (.int j), (.int c)] below meth cde s₁ [] 0 0 := Stand.of_body Bd
  have e0 : s₁.heap = h0 := by rw [← hh, Bd.state]; rfl
  have N0 := Fr.nil n0
  show own_Fin p e s below (own_Q_putSB Z t kt N2 ws c fm j i n h0 n0) own_R_putSB.cells own_R_putSB.slots s₁ (entryFrame m #[(.ref t), (.int j), (.int c)] 3)
  rw [own_ef_putSB m t j c]
  refine own_via (fun _ kq => XS.iloadN X0.here hx rfl (hb hby own_d414) rfl kq) ?_
  refine own_via (fun _ kq => XS.aloadN X0.here hx rfl (hb hby own_d415) rfl rfl kq) ?_
  show own_Fin _ _ _ _ _ _ _ s₁ (mkF m 2 #[.val (.ref t), .val (.int j), .val (.int c)] [(.ref t), (.int j)])
  obtain ⟨_, _, ⟨T1_, L1_, k1_, n1_⟩, -, X1_, ⟨Lc1_, hQ1_, l1_, y1_, z1_⟩, st1_⟩ := Jvm.LawKit.callS X0 hx (y := (⟨"java/lang/StringUTF16", "checkIndex", "(I[B)V"⟩ : MethodName)) hown (mvT hZ (own_w hw 226 rfl)) (mvT hZ (own_w hw 227 rfl)) (mvT hZ (own_w hw 129 rfl)) (mvT hZ (own_w hw 228 rfl)) (by decide) (backOf (W := 0) (own_rm_u16chk l Z a0 hw [] t kt N2 ws fm j i n h0 n0 Z0 O0 S2 r_fm Va hj hi hn hN) hZ (own_w hw 228 rfl) (own_w hw 129 rfl) (by decide) (by decide)) (g := (mkF m 2 #[.val (.ref t), .val (.int j), .val (.int c)] [(.ref t), (.int j)])) rfl (by rw [hml]; rfl) (argsL := [(.int j), (.ref t)]) (rest := []) (lenOf own_pd4 rfl) rfl (by show 2 * 0 + _ ≤ _; exact Nat.le_of_eq rfl) (hb hby own_d416) (fun _ _ => ⟨rfl, e0, (by decide : 0 + 0 ≤ _), (by decide : 0 + 0 ≤ _)⟩)
  dsimp only [Pt.U, Pt.locs, Pt.cells, Pt.slots] at X1_ l1_ y1_ z1_ st1_ hQ1_
  subst l1_ y1_ z1_
  obtain ⟨rfl, Nq1_, hh1_⟩ := hQ1_
  have N1_ := Fr.app N0 Nq1_
  refine own_via (fun _ kq => st1_ _ kq) ?_
  show own_Fin _ _ _ _ _ _ _ T1_ (mkF m 5 #[.val (.ref t), .val (.int j), .val (.int c)] [])
  refine own_via (fun _ kq => XS.aloadN X1_.here hx rfl (hb hby own_d417) rfl rfl kq) ?_
  refine own_via (fun _ kq => XS.iloadN X1_.here hx rfl (hb hby own_d418) rfl kq) ?_
  refine own_via (fun _ kq => XS.iloadN X1_.here hx rfl (hb hby own_d419) rfl kq) ?_
  show own_Fin _ _ _ _ _ _ _ T1_ (mkF m 8 #[.val (.ref t), .val (.int j), .val (.int c)] [(.int c), (.int j), (.ref t)])
  obtain ⟨_, _, ⟨T2_, L2_, k2_, n2_⟩, -, X2_, ⟨Lc2_, hQ2_, l2_, y2_, z2_⟩, st2_⟩ := Jvm.LawKit.callS X1_ hx (y := (⟨"java/lang/StringUTF16", "putChar", "([BII)V"⟩ : MethodName)) hown (mvT hZ (own_w hw 184 rfl)) (mvT hZ (own_w hw 185 rfl)) (mvT hZ (own_w hw 129 rfl)) (mvT hZ (own_w hw 186 rfl)) (by decide) (backOf (W := 0) (own_rm_putCh l Z a0 hw [] t kt N2 ws c j i n h0 n0 Z0 O0 S3 S4 S5 Va gt hj hi hn hN hwl) hZ (own_w hw 186 rfl) (own_w hw 129 rfl) (by decide) (by decide)) (g := (mkF m 8 #[.val (.ref t), .val (.int j), .val (.int c)] [(.int c), (.int j), (.ref t)])) rfl (by rw [hml]; rfl) (argsL := [(.ref t), (.int j), (.int c)]) (rest := []) (lenOf own_pd9 rfl) rfl (by show 2 * 0 + _ ≤ _; exact Nat.le_of_eq rfl) (hb hby own_d420) (fun _ _ => ⟨rfl, hh1_, (by decide : 0 + 0 + 0 ≤ _), (by decide : 0 + 0 + 0 ≤ _)⟩)
  dsimp only [Pt.U, Pt.locs, Pt.cells, Pt.slots] at X2_ l2_ y2_ z2_ st2_ hQ2_
  subst l2_ y2_ z2_
  obtain ⟨rfl, Nq2_, K2_, r3_⟩ := hQ2_
  have N2_ := Fr.app N1_ Nq2_
  refine own_via (fun _ kq => st2_ _ kq) ?_
  show own_Fin _ _ _ _ _ _ _ T2_ (mkF m 11 #[.val (.ref t), .val (.int j), .val (.int c)] [])
  exact own_ret0 X2_ hx Bd.returns Bd.notSynchronized (hb hby own_d421) rfl ⟨rfl, N2_, ((Keep.refl h0 [t]).trans K2_ (allS (Or.inl (List.mem_of_getElem? (i := 0) rfl)) all0)), r3_⟩ (by decide) (by decide)
theorem own_d422 : decode jdk_52_method_86_code 0 = .ok (.iload_n 3, 1) := by decide +kernel
theorem own_d423 : decode jdk_52_method_86_code 1 = .ok (.iload 4, 2) := by decide +kernel
theorem own_d424 : decode jdk_52_method_86_code 3 = .ok (.aload_n 2, 1) := by decide +kernel
theorem own_d425 : decode jdk_52_method_86_code 4 = .ok (.invokestatic 173, 3) := by decide +kernel
theorem own_d426 : decode jdk_52_method_86_code 7 = .ok (.iconst 0, 1) := by decide +kernel
theorem own_d427 : decode jdk_52_method_86_code 8 = .ok (.istore 5, 2) := by decide +kernel
theorem own_d428 : decode jdk_52_method_86_code 10 = .ok (.iload 5, 2) := by decide +kernel
theorem own_d429 : decode jdk_52_method_86_code 12 = .ok (.iload 4, 2) := by decide +kernel
theorem own_d430 : decode jdk_52_method_86_code 14 = .ok (.if_icmp .ge 27, 3) := by decide +kernel
theorem own_d431 : decode jdk_52_method_86_code 41 = .ok (.return_, 1) := by decide +kernel
theorem own_d432 : decode jdk_52_method_86_code 17 = .ok (.aload_n 2, 1) := by decide +kernel
theorem own_d433 : decode jdk_52_method_86_code 18 = .ok (.iload_n 3, 1) := by decide +kernel
theorem own_d434 : decode jdk_52_method_86_code 19 = .ok (.iinc 3 1, 3) := by decide +kernel
theorem own_d435 : decode jdk_52_method_86_code 22 = .ok (.aload_n 0, 1) := by decide +kernel
theorem own_d436 : decode jdk_52_method_86_code 23 = .ok (.iload_n 1, 1) := by decide +kernel
theorem own_d437 : decode jdk_52_method_86_code 24 = .ok (.iinc 1 1, 3) := by decide +kernel
theorem own_d438 : decode jdk_52_method_86_code 27 = .ok (.baload, 1) := by decide +kernel
theorem own_d439 : decode jdk_52_method_86_code 28 = .ok (.sipush 255, 3) := by decide +kernel
theorem own_d440 : decode jdk_52_method_86_code 31 = .ok (.iand, 1) := by decide +kernel
theorem own_d441 : decode jdk_52_method_86_code 32 = .ok (.invokestatic 111, 3) := by decide +kernel
theorem own_d442 : decode jdk_52_method_86_code 35 = .ok (.iinc 5 1, 3) := by decide +kernel
theorem own_d443 : decode jdk_52_method_86_code 38 = .ok (.goto (-28), 3) := by decide +kernel
theorem own_ef_u16Inf (m : MethodId) (t : Addr) (a : Addr) (k0 : Int32) : entryFrame m #[(.ref t), (.int (0 : Int32)), (.ref a), (.int (0 : Int32)), (.int k0)] 6 = mkF m 0 #[.val (.ref t), .val (.int (0 : Int32)), .val (.ref a), .val (.int (0 : Int32)), .val (.int k0), .unset] [] := by (first | (simp [entryFrame, mkF, argsToLocals, Value.category]; done) | rfl)
def own_Q_u16Inf (Z : State) (t : Addr) (kt : ClassId) (N2 : Int32) (vs : List Value) (a : Addr) (ka : ClassId) (M2 : Int32) (xs : List Value) (k0 : Int32) (ds : List Int32) (mm : Nat) (n : Nat) (fm : Value) (h0 : Heap) (n0 : Nat) (vq : Option Value) (h : Heap) (Lq : List Loc) : Prop := ∃ (ws : List Value), (vq = none) ∧ (Fr n0 Lq) ∧ (Keep h0 h [a]) ∧ (Arv Z h a ka .byte M2 ws (.int 0)) ∧ (ws.length = 2 * n ∧ ∀ q, q < mm → ws.getD (2 * q) (.int 0) = .int (own_lo (ds.getD q 0)) ∧ ws.getD (2 * q + 1) (.int 0) = .int (own_hi (ds.getD q 0)))
abbrev own_R_u16Inf : Room := { frames := 3, cells := 0, slots := 0, locals := 43 }
set_option maxRecDepth 65536 in
set_option maxHeartbeats 40000000 in
theorem own_rm_u16Inf (l : Launch) (Z : State) (a0 : Array Value) (hw : ∀ d ∈ tables_1, d.before a0 Z = true) (wsq : List Jvm.Cond) (t : Addr) (kt : ClassId) (N2 : Int32) (vs : List Value) (a : Addr) (ka : ClassId) (M2 : Int32) (xs : List Value) (k0 : Int32) (ds : List Int32) (mm : Nat) (n : Nat) (fm : Value) (h0 : Heap) (n0 : Nat) (Z0 : n0 ≤ h0.size) (O0 : Old Z n0 h0) (S2 : Sta Z Z.heap "jdk/internal/util/Preconditions" "SIOOBE_FORMATTER" "Ljava/util/function/BiFunction;" fm) (r_fm : fm.isRef = true) (S3 : Sta Z Z.heap "java/lang/StringUTF16" "$assertionsDisabled" "Z" (.int (1 : Int32))) (S4 : Sta Z Z.heap "java/lang/StringUTF16" "HI_BYTE_SHIFT" "I" (.int (0 : Int32))) (S5 : Sta Z Z.heap "java/lang/StringUTF16" "LO_BYTE_SHIFT" "I" (.int (8 : Int32))) (Va : Arv Z h0 t kt .byte N2 vs (.int 0)) (Vx : Arv Z h0 a ka .byte M2 xs (.int 0)) (ga : n0 ≤ a) (hne : t ≠ a) (hxl : xs.length = 2 * n) (hM : M2 = Int32.ofNat (2 * n)) (hN : N2 = Int32.ofNat n) (hkk : k0 = Int32.ofNat mm) (hm : mm ≤ n) (hn : n ≤ 4) (hth : ∀ q, q < mm → vs.getD q (.int 0) = .int (own_lo (ds.getD q 0)) ∧ ¬ (255 : Int32) < ds.getD q 0) (hr : own_chs ds) :
    MetFree l (⟨"java/lang/StringUTF16", "inflate", "([BI[BII)V"⟩ : MethodName) (head1 (Jvm.Cond.code (⟨"java/lang/StringUTF16", "inflate", "([BI[BII)V"⟩ : MethodName) jdk_52_method_86_code 6 none :: wsq) own_R_u16Inf) (fun aq Uq => aq = #[(.ref t), (.int (0 : Int32)), (.ref a), (.int (0 : Int32)), (.int k0)] ∧ Z.Warmed39 Uq.vm ∧ Uq.heap = h0) (fun _ _ _ _ _ => True) (fun _ Uq oq Uq' => ∃ vq Lq, oq = .returned vq ∧ own_Q_u16Inf Z t kt N2 vs a ka M2 xs k0 ds mm n fm h0 n0 vq Uq'.heap Lq ∧ FrameEnd Uq oq Uq' Lq own_R_u16Inf.cells own_R_u16Inf.slots) := by
  refine MetFree.of_bodySF (plainFor_of_name own_pn3) hisR ?_
  intro p e s m args below meth cde s₁ Bd hml0 hP hK
  obtain ⟨rfl, hZ, hh⟩ := hP
  have hx := Bd.exec
  have hby := Bd.bytes
  have hml : cde.maxLocals = 6 := hml0
  have hown : s.vm.findClass "java/lang/StringUTF16" = some m.cls := findClass_of_methodNamed Bd.named
  have hnm := (name_of_methodNamed Bd.named Bd.method).1
  have X0 : Stand p l e own_R_u16Inf s m #[(.ref t), (.int (0 : Int32)), (.ref a), (.int (0 : Int32)), (.int k0)] below meth cde s₁ [] 0 0 := Stand.of_body Bd
  have e0 : s₁.heap = h0 := by rw [← hh, Bd.state]; rfl
  have N0 := Fr.nil n0
  show own_Fin p e s below (own_Q_u16Inf Z t kt N2 vs a ka M2 xs k0 ds mm n fm h0 n0) own_R_u16Inf.cells own_R_u16Inf.slots s₁ (entryFrame m #[(.ref t), (.int (0 : Int32)), (.ref a), (.int (0 : Int32)), (.int k0)] 6)
  rw [own_ef_u16Inf m t a k0]
  refine own_via (fun _ kq => XS.iloadN X0.here hx rfl (hb hby own_d422) rfl kq) ?_
  refine own_via (fun _ kq => XS.iload X0.here hx rfl (hb hby own_d423) rfl kq) ?_
  refine own_via (fun _ kq => XS.aloadN X0.here hx rfl (hb hby own_d424) rfl rfl kq) ?_
  show own_Fin _ _ _ _ _ _ _ s₁ (mkF m 4 #[.val (.ref t), .val (.int (0 : Int32)), .val (.ref a), .val (.int (0 : Int32)), .val (.int k0), .unset] [(.ref a), (.int k0), (.int (0 : Int32))])
  obtain ⟨_, _, ⟨T1_, L1_, k1_, n1_⟩, -, X1_, ⟨Lc1_, hQ1_, l1_, y1_, z1_⟩, st1_⟩ := Jvm.LawKit.callS X0 hx (y := (⟨"java/lang/StringUTF16", "checkBoundsOffCount", "(II[B)V"⟩ : MethodName)) hown (mvT hZ (own_w hw 199 rfl)) (mvT hZ (own_w hw 200 rfl)) (mvT hZ (own_w hw 129 rfl)) (mvT hZ (own_w hw 201 rfl)) (by decide) (backOf (W := 0) (own_rm_u16chkO l Z a0 hw [] k0 mm n fm a ka M2 xs h0 n0 Z0 O0 S2 r_fm Vx hM hkk hm (by omega)) hZ (own_w hw 201 rfl) (own_w hw 129 rfl) (by decide) (by decide)) (g := (mkF m 4 #[.val (.ref t), .val (.int (0 : Int32)), .val (.ref a), .val (.int (0 : Int32)), .val (.int k0), .unset] [(.ref a), (.int k0), (.int (0 : Int32))])) rfl (by rw [hml]; rfl) (argsL := [(.int (0 : Int32)), (.int k0), (.ref a)]) (rest := []) (lenOf own_pd18 rfl) rfl (by show 2 * 0 + _ ≤ _; exact Nat.le_of_eq rfl) (hb hby own_d425) (fun _ _ => ⟨rfl, e0, (by decide : 0 + 0 ≤ _), (by decide : 0 + 0 ≤ _)⟩)
  dsimp only [Pt.U, Pt.locs, Pt.cells, Pt.slots] at X1_ l1_ y1_ z1_ st1_ hQ1_
  subst l1_ y1_ z1_
  obtain ⟨rfl, Nq1_, hh1_⟩ := hQ1_
  have N1_ := Fr.app N0 Nq1_
  refine own_via (fun _ kq => st1_ _ kq) ?_
  show own_Fin _ _ _ _ _ _ _ T1_ (mkF m 7 #[.val (.ref t), .val (.int (0 : Int32)), .val (.ref a), .val (.int (0 : Int32)), .val (.int k0), .unset] [])
  refine own_via (fun _ kq => XS.iconst X1_.here hx rfl (hb hby own_d426) kq) ?_
  refine own_via (fun _ kq => XS.istore X1_.here hx rfl (hb hby own_d427) rfl (l' := #[.val (.ref t), .val (.int (0 : Int32)), .val (.ref a), .val (.int (0 : Int32)), .val (.int k0), .val (.int (0 : Int32))]) rfl kq) ?_
  have lp : ∀ (k : Nat) (i : Nat) (j : Int32) (ws : List Value) (Tl : State) (locl : List Loc) (Xl : Stand p l e own_R_u16Inf s m #[(.ref t), (.int (0 : Int32)), (.ref a), (.int (0 : Int32)), (.int k0)] below meth cde Tl locl (0 + 0) (0 + 0)) (Nl : Fr n0 locl) (hl : Heap) (el : Tl.heap = hl) (Kl : Keep h0 hl [a]) (Ol : Old Z n0 hl) (Vl : Arv Z hl t kt .byte N2 vs (.int 0)) (Vm : Arv Z hl a ka .byte M2 ws (.int 0)) (hj : j = Int32.ofNat i) (hi : i ≤ mm) (hk : mm ≤ i + k) (hwl : ws.length = 2 * n) (hh_ : ∀ q, q < i → ws.getD (2 * q) (.int 0) = .int (own_lo (ds.getD q 0)) ∧ ws.getD (2 * q + 1) (.int 0) = .int (own_hi (ds.getD q 0))), own_Fin p e s below (own_Q_u16Inf Z t kt N2 vs a ka M2 xs k0 ds mm n fm h0 n0) own_R_u16Inf.cells own_R_u16Inf.slots Tl (mkF m 10 #[.val (.ref t), .val (.int j), .val (.ref a), .val (.int j), .val (.int k0), .val (.int j)] []) := by
    intro k
    induction k with
    | zero =>
      intro i j ws Tl locl Xl Nl hl el Kl Ol Vl Vm hj hi hk hwl hh_
      have Zl : n0 ≤ hl.size := Nat.le_trans Z0 Kl.1
      refine own_via (fun _ kq => XS.iload Xl.here hx rfl (hb hby own_d428) rfl kq) ?_
      refine own_via (fun _ kq => XS.iload Xl.here hx rfl (hb hby own_d429) rfl kq) ?_
      refine own_via (fun _ kq => XS.icmpYes Xl.here hx rfl (pc0 := 14) (pc' := 41) rfl (hb hby own_d430) rfl (flt (fun q => absurd ((own_ltN hj hkk (by omega) (by omega)).mp q) (by omega))).2.1 (by decide) (by decide) kq) ?_
      show own_Fin _ _ _ _ _ _ _ Tl (mkF m 41 #[.val (.ref t), .val (.int j), .val (.ref a), .val (.int j), .val (.int k0), .val (.int j)] [])
      exact own_ret0 Xl hx Bd.returns Bd.notSynchronized (hb hby own_d431) el ⟨ws, rfl, Nl, Kl, Vm, ⟨hwl, fun q hq => hh_ q (by omega)⟩⟩ (by decide) (by decide)
    | succ k ih =>
      intro i j ws Tl locl Xl Nl hl el Kl Ol Vl Vm hj hi hk hwl hh_
      have Zl : n0 ≤ hl.size := Nat.le_trans Z0 Kl.1
      refine own_via (fun _ kq => XS.iload Xl.here hx rfl (hb hby own_d428) rfl kq) ?_
      refine own_via (fun _ kq => XS.iload Xl.here hx rfl (hb hby own_d429) rfl kq) ?_
      rcases Classical.em (j < k0) with hg | hg
      · refine own_via (fun _ kq => XS.icmpNo Xl.here hx rfl (hb hby own_d430) rfl (tlt hg).2.1 kq) ?_
        show own_Fin _ _ _ _ _ _ _ Tl (mkF m 17 #[.val (.ref t), .val (.int j), .val (.ref a), .val (.int j), .val (.int k0), .val (.int j)] [])
        have hlt : i < mm := (own_ltN hj hkk (by omega) (by omega)).mp hg
        refine own_via (fun _ kq => XS.aloadN Xl.here hx rfl (hb hby own_d432) rfl rfl kq) ?_
        refine own_via (fun _ kq => XS.iloadN Xl.here hx rfl (hb hby own_d433) rfl kq) ?_
        refine own_via (fun _ kq => XS.iinc Xl.here hx rfl (hb hby own_d434) rfl (l' := #[.val (.ref t), .val (.int j), .val (.ref a), .val (.int (j + (1 : Int32))), .val (.int k0), .val (.int j)]) rfl kq) ?_
        refine own_via (fun _ kq => XS.aloadN Xl.here hx rfl (hb hby own_d435) rfl rfl kq) ?_
        refine own_via (fun _ kq => XS.iloadN Xl.here hx rfl (hb hby own_d436) rfl kq) ?_
        show own_Fin _ _ _ _ _ _ _ Tl (mkF m 24 #[.val (.ref t), .val (.int j), .val (.ref a), .val (.int (j + (1 : Int32))), .val (.int k0), .val (.int j)] [(.int j), (.ref t), (.int j), (.ref a)])
        refine own_via (fun _ kq => XS.iinc Xl.here hx rfl (hb hby own_d437) rfl (l' := #[.val (.ref t), .val (.int (j + (1 : Int32))), .val (.ref a), .val (.int (j + (1 : Int32))), .val (.int k0), .val (.int j)]) rfl kq) ?_
        show own_Fin _ _ _ _ _ _ _ Tl (mkF m 27 #[.val (.ref t), .val (.int (j + (1 : Int32))), .val (.ref a), .val (.int (j + (1 : Int32))), .val (.int k0), .val (.int j)] [(.int j), (.ref t), (.int j), (.ref a)])
        obtain ⟨c2_, Ar2_, q2_, S2_, M2_, H2_, G2_⟩ := (id Vl)
        have hin2_ : ¬ (j < 0 ∨ c2_.slots.size ≤ (j).toNatClampNeg) := inb_of S2_ (own_inb hj hN (by omega) (by omega))
        have hat2_ : c2_.slots[(j).toNatClampNeg]? = some (.int (own_lo (ds.getD i 0))) := H2_.at hin2_ (by rw [own_clamp hj (by omega)]; exact (hth i hlt).1)
        refine own_via (fun _ kq => Xl.baloadBytes hx (j := j) (v := (.int (own_lo (ds.getD i 0)))) (own_eq el Ar2_.1) (State.isArrayOf_alike hZ.alike Ar2_.2.1) Ar2_.2.2 hin2_ hat2_ (g := (mkF m 27 #[.val (.ref t), .val (.int (j + (1 : Int32))), .val (.ref a), .val (.int (j + (1 : Int32))), .val (.int k0), .val (.int j)] [(.int j), (.ref t), (.int j), (.ref a)])) rfl rfl (hb hby own_d438) _ kq) ?_
        show own_Fin _ _ _ _ _ _ _ Tl (mkF m 28 #[.val (.ref t), .val (.int (j + (1 : Int32))), .val (.ref a), .val (.int (j + (1 : Int32))), .val (.int k0), .val (.int j)] [(.int (own_lo (ds.getD i 0))), (.int j), (.ref a)])
        refine own_via (fun _ kq => XS.sipush Xl.here hx rfl (hb hby own_d439) kq) ?_
        refine own_via (fun _ kq => XS.iand Xl.here hx rfl (hb hby own_d440) rfl kq) ?_
        show own_Fin _ _ _ _ _ _ _ Tl (mkF m 32 #[.val (.ref t), .val (.int (j + (1 : Int32))), .val (.ref a), .val (.int (j + (1 : Int32))), .val (.int k0), .val (.int j)] [(.int ((own_lo (ds.getD i 0)) &&& (255 : Int32))), (.int j), (.ref a)])
        rw [show ((own_lo (ds.getD i 0)) &&& (255 : Int32)) = (ds.getD i 0) from (own_latI (own_lat_of (hr i) (hth i hlt).2))]
        show own_Fin _ _ _ _ _ _ _ Tl (mkF m 32 #[.val (.ref t), .val (.int (j + (1 : Int32))), .val (.ref a), .val (.int (j + (1 : Int32))), .val (.int k0), .val (.int j)] [(.int (ds.getD i 0)), (.int j), (.ref a)])
        obtain ⟨_, _, ⟨T3_, L3_, k3_, n3_⟩, -, X3_, ⟨Lc3_, hQ3_, l3_, y3_, z3_⟩, st3_⟩ := Jvm.LawKit.callS Xl hx (y := (⟨"java/lang/StringUTF16", "putChar", "([BII)V"⟩ : MethodName)) hown (mvT hZ (own_w hw 184 rfl)) (mvT hZ (own_w hw 185 rfl)) (mvT hZ (own_w hw 129 rfl)) (mvT hZ (own_w hw 186 rfl)) (by decide) (backOf (W := 0) (own_rm_putCh l Z a0 hw [] a ka M2 ws (ds.getD i 0) j i n hl n0 Zl Ol S3 S4 S5 Vm ga hj (by omega) (by omega) hM hwl) hZ (own_w hw 186 rfl) (own_w hw 129 rfl) (by decide) (by decide)) (g := (mkF m 32 #[.val (.ref t), .val (.int (j + (1 : Int32))), .val (.ref a), .val (.int (j + (1 : Int32))), .val (.int k0), .val (.int j)] [(.int (ds.getD i 0)), (.int j), (.ref a)])) rfl (by rw [hml]; rfl) (argsL := [(.ref a), (.int j), (.int (ds.getD i 0))]) (rest := []) (lenOf own_pd9 rfl) rfl (by show 2 * 0 + _ ≤ _; exact Nat.le_of_eq rfl) (hb hby own_d441) (fun _ _ => ⟨rfl, el, (by decide : (0 + 0) + 0 ≤ _), (by decide : (0 + 0) + 0 ≤ _)⟩)
        dsimp only [Pt.U, Pt.locs, Pt.cells, Pt.slots] at X3_ l3_ y3_ z3_ st3_ hQ3_
        subst l3_ y3_ z3_
        obtain ⟨rfl, Nq3_, K3_, r4_⟩ := hQ3_
        have N3_ := Fr.app Nl Nq3_
        refine own_via (fun _ kq => st3_ _ kq) ?_
        show own_Fin _ _ _ _ _ _ _ T3_ (mkF m 35 #[.val (.ref t), .val (.int (j + (1 : Int32))), .val (.ref a), .val (.int (j + (1 : Int32))), .val (.int k0), .val (.int j)] [])
        refine own_via (fun _ kq => XS.iinc X3_.here hx rfl (hb hby own_d442) rfl (l' := #[.val (.ref t), .val (.int (j + (1 : Int32))), .val (.ref a), .val (.int (j + (1 : Int32))), .val (.int k0), .val (.int (j + (1 : Int32)))]) rfl kq) ?_
        refine own_via (fun _ kq => XS.goto X3_.here hx rfl (pc0 := 38) (pc' := 10) rfl (hb hby own_d443) (by decide) (by decide) kq) ?_
        exact ih (i + 1) (j + (1 : Int32)) ((ws.set (2 * i) (.int (own_lo (ds.getD i 0)))).set (2 * i + 1) (.int (own_hi (ds.getD i 0)))) T3_ _ X3_ N3_ _ rfl (Kl.trans K3_ (allS (Or.inl (List.mem_of_getElem? (i := 0) rfl)) all0)) (Ol.keep K3_ (allS ga all0)) (Vl.keep K3_ (ninS hne nin0)) r4_ (own_succ hj) (by omega) (by omega) (by rw [List.length_set, List.length_set]; exact hwl) (own_set2 hh_ (by omega))
      · refine own_via (fun _ kq => XS.icmpYes Xl.here hx rfl (pc0 := 14) (pc' := 41) rfl (hb hby own_d430) rfl (flt hg).2.1 (by decide) (by decide) kq) ?_
        show own_Fin _ _ _ _ _ _ _ Tl (mkF m 41 #[.val (.ref t), .val (.int j), .val (.ref a), .val (.int j), .val (.int k0), .val (.int j)] [])
        have hge : mm ≤ i := Nat.le_of_not_lt fun q => hg ((own_ltN hj hkk (by omega) (by omega)).mpr q)
        exact own_ret0 Xl hx Bd.returns Bd.notSynchronized (hb hby own_d431) el ⟨ws, rfl, Nl, Kl, Vm, ⟨hwl, fun q hq => hh_ q (by omega)⟩⟩ (by decide) (by decide)
  exact lp mm 0 (0 : Int32) xs T1_ _ X1_ N1_ _ hh1_ (Keep.refl h0 [a]) O0 Va Vx rfl (by omega) (by omega) hxl (fun q hq => absurd hq (Nat.not_lt_zero q))
theorem own_d444 : decode jdk_43_method_50_code 0 = .ok (.aload_n 0, 1) := by decide +kernel
theorem own_d445 : decode jdk_43_method_50_code 1 = .ok (.iload_n 1, 1) := by decide +kernel
theorem own_d446 : decode jdk_43_method_50_code 2 = .ok (.aload_n 2, 1) := by decide +kernel
theorem own_d447 : decode jdk_43_method_50_code 3 = .ok (.iload_n 3, 1) := by decide +kernel
theorem own_d448 : decode jdk_43_method_50_code 4 = .ok (.iload 4, 2) := by decide +kernel
theorem own_d449 : decode jdk_43_method_50_code 6 = .ok (.invokestatic 240, 3) := by decide +kernel
theorem own_pd22 : parseMethodDescriptor "([BI[BII)V" = some ⟨[(.array .byte), .int, (.array .byte), .int, .int], none⟩ := by decide +kernel
theorem own_d450 : decode jdk_43_method_50_code 9 = .ok (.return_, 1) := by decide +kernel
theorem own_ef_latInf2 (m : MethodId) (t : Addr) (a : Addr) (k0 : Int32) : entryFrame m #[(.ref t), (.int (0 : Int32)), (.ref a), (.int (0 : Int32)), (.int k0)] 5 = mkF m 0 #[.val (.ref t), .val (.int (0 : Int32)), .val (.ref a), .val (.int (0 : Int32)), .val (.int k0)] [] := by (first | (simp [entryFrame, mkF, argsToLocals, Value.category]; done) | rfl)
def own_Q_latInf2 (Z : State) (t : Addr) (kt : ClassId) (N2 : Int32) (vs : List Value) (a : Addr) (ka : ClassId) (M2 : Int32) (xs : List Value) (k0 : Int32) (ds : List Int32) (mm : Nat) (n : Nat) (fm : Value) (h0 : Heap) (n0 : Nat) (vq : Option Value) (h : Heap) (Lq : List Loc) : Prop := ∃ (ws : List Value), (vq = none) ∧ (Fr n0 Lq) ∧ (Keep h0 h [a]) ∧ (Arv Z h a ka .byte M2 ws (.int 0)) ∧ (ws.length = 2 * n ∧ ∀ q, q < mm → ws.getD (2 * q) (.int 0) = .int (own_lo (ds.getD q 0)) ∧ ws.getD (2 * q + 1) (.int 0) = .int (own_hi (ds.getD q 0)))
abbrev own_R_latInf2 : Room := { frames := 4, cells := 0, slots := 0, locals := 60 }
set_option maxRecDepth 65536 in
set_option maxHeartbeats 40000000 in
theorem own_rm_latInf2 (l : Launch) (Z : State) (a0 : Array Value) (hw : ∀ d ∈ tables_1, d.before a0 Z = true) (wsq : List Jvm.Cond) (t : Addr) (kt : ClassId) (N2 : Int32) (vs : List Value) (a : Addr) (ka : ClassId) (M2 : Int32) (xs : List Value) (k0 : Int32) (ds : List Int32) (mm : Nat) (n : Nat) (fm : Value) (h0 : Heap) (n0 : Nat) (Z0 : n0 ≤ h0.size) (O0 : Old Z n0 h0) (S2 : Sta Z Z.heap "jdk/internal/util/Preconditions" "SIOOBE_FORMATTER" "Ljava/util/function/BiFunction;" fm) (r_fm : fm.isRef = true) (S3 : Sta Z Z.heap "java/lang/StringUTF16" "$assertionsDisabled" "Z" (.int (1 : Int32))) (S4 : Sta Z Z.heap "java/lang/StringUTF16" "HI_BYTE_SHIFT" "I" (.int (0 : Int32))) (S5 : Sta Z Z.heap "java/lang/StringUTF16" "LO_BYTE_SHIFT" "I" (.int (8 : Int32))) (Va : Arv Z h0 t kt .byte N2 vs (.int 0)) (Vx : Arv Z h0 a ka .byte M2 xs (.int 0)) (ga : n0 ≤ a) (hne : t ≠ a) (hxl : xs.length = 2 * n) (hM : M2 = Int32.ofNat (2 * n)) (hN : N2 = Int32.ofNat n) (hkk : k0 = Int32.ofNat mm) (hm : mm ≤ n) (hn : n ≤ 4) (hth : ∀ q, q < mm → vs.getD q (.int 0) = .int (own_lo (ds.getD q 0)) ∧ ¬ (255 : Int32) < ds.getD q 0) (hr : own_chs ds) :
    MetFree l (⟨"java/lang/StringLatin1", "inflate", "([BI[BII)V"⟩ : MethodName) (head1 (Jvm.Cond.code (⟨"java/lang/StringLatin1", "inflate", "([BI[BII)V"⟩ : MethodName) jdk_43_method_50_code 5 none :: wsq) own_R_latInf2) (fun aq Uq => aq = #[(.ref t), (.int (0 : Int32)), (.ref a), (.int (0 : Int32)), (.int k0)] ∧ Z.Warmed39 Uq.vm ∧ Uq.heap = h0) (fun _ _ _ _ _ => True) (fun _ Uq oq Uq' => ∃ vq Lq, oq = .returned vq ∧ own_Q_latInf2 Z t kt N2 vs a ka M2 xs k0 ds mm n fm h0 n0 vq Uq'.heap Lq ∧ FrameEnd Uq oq Uq' Lq own_R_latInf2.cells own_R_latInf2.slots) := by
  refine MetFree.of_bodySF (plainFor_of_name own_pn2) hisR ?_
  intro p e s m args below meth cde s₁ Bd hml0 hP hK
  obtain ⟨rfl, hZ, hh⟩ := hP
  have hx := Bd.exec
  have hby := Bd.bytes
  have hml : cde.maxLocals = 5 := hml0
  have hown : s.vm.findClass "java/lang/StringLatin1" = some m.cls := findClass_of_methodNamed Bd.named
  have hnm := (name_of_methodNamed Bd.named Bd.method).1
  have X0 : Stand p l e own_R_latInf2 s m #[(.ref t), (.int (0 : Int32)), (.ref a), (.int (0 : Int32)), (.int k0)] below meth cde s₁ [] 0 0 := Stand.of_body Bd
  have e0 : s₁.heap = h0 := by rw [← hh, Bd.state]; rfl
  have N0 := Fr.nil n0
  show own_Fin p e s below (own_Q_latInf2 Z t kt N2 vs a ka M2 xs k0 ds mm n fm h0 n0) own_R_latInf2.cells own_R_latInf2.slots s₁ (entryFrame m #[(.ref t), (.int (0 : Int32)), (.ref a), (.int (0 : Int32)), (.int k0)] 5)
  rw [own_ef_latInf2 m t a k0]
  refine own_via (fun _ kq => XS.aloadN X0.here hx rfl (hb hby own_d444) rfl rfl kq) ?_
  refine own_via (fun _ kq => XS.iloadN X0.here hx rfl (hb hby own_d445) rfl kq) ?_
  refine own_via (fun _ kq => XS.aloadN X0.here hx rfl (hb hby own_d446) rfl rfl kq) ?_
  refine own_via (fun _ kq => XS.iloadN X0.here hx rfl (hb hby own_d447) rfl kq) ?_
  refine own_via (fun _ kq => XS.iload X0.here hx rfl (hb hby own_d448) rfl kq) ?_
  show own_Fin _ _ _ _ _ _ _ s₁ (mkF m 6 #[.val (.ref t), .val (.int (0 : Int32)), .val (.ref a), .val (.int (0 : Int32)), .val (.int k0)] [(.int k0), (.int (0 : Int32)), (.ref a), (.int (0 : Int32)), (.ref t)])
  obtain ⟨_, _, ⟨T1_, L1_, k1_, n1_⟩, -, X1_, ⟨Lc1_, hQ1_, l1_, y1_, z1_⟩, st1_⟩ := Jvm.LawKit.callS X0 hx (y := (⟨"java/lang/StringUTF16", "inflate", "([BI[BII)V"⟩ : MethodName)) hown (mvT hZ (own_w hw 220 rfl)) (mvT hZ (own_w hw 221 rfl)) (mvT hZ (own_w hw 129 rfl)) (mvT hZ (own_w hw 222 rfl)) (by decide) (backOf (W := 0) (own_rm_u16Inf l Z a0 hw [] t kt N2 vs a ka M2 xs k0 ds mm n fm h0 n0 Z0 O0 S2 r_fm S3 S4 S5 Va Vx ga hne hxl hM hN hkk hm hn hth hr) hZ (own_w hw 222 rfl) (own_w hw 129 rfl) (by decide) (by decide)) (g := (mkF m 6 #[.val (.ref t), .val (.int (0 : Int32)), .val (.ref a), .val (.int (0 : Int32)), .val (.int k0)] [(.int k0), (.int (0 : Int32)), (.ref a), (.int (0 : Int32)), (.ref t)])) rfl (by rw [hml]; rfl) (argsL := [(.ref t), (.int (0 : Int32)), (.ref a), (.int (0 : Int32)), (.int k0)]) (rest := []) (lenOf own_pd22 rfl) rfl (by show 2 * 0 + _ ≤ _; exact Nat.le_of_eq rfl) (hb hby own_d449) (fun _ _ => ⟨rfl, e0, (by decide : 0 + 0 ≤ _), (by decide : 0 + 0 ≤ _)⟩)
  dsimp only [Pt.U, Pt.locs, Pt.cells, Pt.slots] at X1_ l1_ y1_ z1_ st1_ hQ1_
  subst l1_ y1_ z1_
  obtain ⟨ws, rfl, Nq1_, K1_, r2_, hx_⟩ := hQ1_
  have N1_ := Fr.app N0 Nq1_
  refine own_via (fun _ kq => st1_ _ kq) ?_
  show own_Fin _ _ _ _ _ _ _ T1_ (mkF m 9 #[.val (.ref t), .val (.int (0 : Int32)), .val (.ref a), .val (.int (0 : Int32)), .val (.int k0)] [])
  exact own_ret0 X1_ hx Bd.returns Bd.notSynchronized (hb hby own_d450) rfl ⟨ws, rfl, N1_, ((Keep.refl h0 [a]).trans K1_ (allS (Or.inl (List.mem_of_getElem? (i := 0) rfl)) all0)), r2_, hx_⟩ (by decide) (by decide)
theorem own_d451 : decode jdk_68_method_11_code 0 = .ok (.aload_n 0, 1) := by decide +kernel
theorem own_d452 : decode jdk_68_method_11_code 1 = .ok (.invokevirtual 83, 3) := by decide +kernel
theorem own_d453 : decode jdk_68_method_11_code 4 = .ok (.ifCond .ne 4, 3) := by decide +kernel
theorem own_d454 : decode jdk_68_method_11_code 8 = .ok (.aload_n 0, 1) := by decide +kernel
theorem own_d455 : decode jdk_68_method_11_code 9 = .ok (.getfield 15, 3) := by decide +kernel
theorem own_d456 : decode jdk_68_method_11_code 12 = .ok (.arraylength, 1) := by decide +kernel
theorem own_d457 : decode jdk_68_method_11_code 13 = .ok (.invokestatic 26, 3) := by decide +kernel
theorem own_d458 : decode jdk_68_method_11_code 16 = .ok (.astore_n 1, 1) := by decide +kernel
theorem own_d459 : decode jdk_68_method_11_code 17 = .ok (.aload_n 0, 1) := by decide +kernel
theorem own_d460 : decode jdk_68_method_11_code 18 = .ok (.getfield 15, 3) := by decide +kernel
theorem own_d461 : decode jdk_68_method_11_code 21 = .ok (.iconst 0, 1) := by decide +kernel
theorem own_d462 : decode jdk_68_method_11_code 22 = .ok (.aload_n 1, 1) := by decide +kernel
theorem own_d463 : decode jdk_68_method_11_code 23 = .ok (.iconst 0, 1) := by decide +kernel
theorem own_d464 : decode jdk_68_method_11_code 24 = .ok (.aload_n 0, 1) := by decide +kernel
theorem own_d465 : decode jdk_68_method_11_code 25 = .ok (.getfield 79, 3) := by decide +kernel
theorem own_d466 : decode jdk_68_method_11_code 28 = .ok (.invokestatic 125, 3) := by decide +kernel
theorem own_d467 : decode jdk_68_method_11_code 31 = .ok (.aload_n 0, 1) := by decide +kernel
theorem own_d468 : decode jdk_68_method_11_code 32 = .ok (.aload_n 1, 1) := by decide +kernel
theorem own_d469 : decode jdk_68_method_11_code 33 = .ok (.putfield 15, 3) := by decide +kernel
theorem own_d470 : decode jdk_68_method_11_code 36 = .ok (.aload_n 0, 1) := by decide +kernel
theorem own_d471 : decode jdk_68_method_11_code 37 = .ok (.iconst 1, 1) := by decide +kernel
theorem own_d472 : decode jdk_68_method_11_code 38 = .ok (.putfield 22, 3) := by decide +kernel
theorem own_d473 : decode jdk_68_method_11_code 41 = .ok (.return_, 1) := by decide +kernel
theorem own_ef_asbInf (m : MethodId) (b : Addr) : entryFrame m #[(.ref b)] 2 = mkF m 0 #[.val (.ref b), .unset] [] := by (first | (simp [entryFrame, mkF, argsToLocals, Value.category]; done) | rfl)
def own_Q_asbInf (Z : State) (b : Addr) (t : Addr) (kt : ClassId) (N2 : Int32) (vs : List Value) (j : Int32) (ds : List Int32) (i : Nat) (n : Nat) (cz : Int32) (fm : Value) (h0 : Heap) (n0 : Nat) (vq : Option Value) (h : Heap) (Lq : List Loc) : Prop := ∃ (u : Addr) (ku : ClassId) (ws : List Value), (vq = none) ∧ (Fr n0 Lq) ∧ (Keep h0 h [b]) ∧ (Exa Z h b "java/lang/StringBuilder") ∧ (Fld Z h b "java/lang/AbstractStringBuilder" "value" "[B" (.ref u)) ∧ (Fld Z h b "java/lang/AbstractStringBuilder" "coder" "B" (.int (1 : Int32))) ∧ (Fld Z h b "java/lang/AbstractStringBuilder" "count" "I" (.int j)) ∧ (Fld Z h b "java/lang/AbstractStringBuilder" "maybeLatin1" "Z" (.int (0 : Int32))) ∧ (h0.size ≤ u) ∧ (Arv Z h u ku .byte (Int32.ofNat (2 * n)) ws (.int 0)) ∧ (Exa Z h u "[B") ∧ (ws.length = 2 * n ∧ ∀ q, q < i → ws.getD (2 * q) (.int 0) = .int (own_lo (ds.getD q 0)) ∧ ws.getD (2 * q + 1) (.int 0) = .int (own_hi (ds.getD q 0)))
abbrev own_R_asbInf : Room := { frames := 5, cells := 1, slots := 8, locals := 76 }
set_option maxRecDepth 65536 in
set_option maxHeartbeats 40000000 in
theorem own_rm_asbInf (l : Launch) (Z : State) (a0 : Array Value) (hw : ∀ d ∈ tables_1, d.before a0 Z = true) (wsq : List Jvm.Cond) (b : Addr) (t : Addr) (kt : ClassId) (N2 : Int32) (vs : List Value) (j : Int32) (ds : List Int32) (i : Nat) (n : Nat) (cz : Int32) (fm : Value) (h0 : Heap) (n0 : Nat) (Z0 : n0 ≤ h0.size) (O0 : Old Z n0 h0) (S1 : Sta Z Z.heap "java/lang/String" "COMPACT_STRINGS" "Z" (.int cz)) (P5 : ¬ cz = (0 : Int32)) (S2 : Sta Z Z.heap "jdk/internal/util/Preconditions" "SIOOBE_FORMATTER" "Ljava/util/function/BiFunction;" fm) (r_fm : fm.isRef = true) (S3 : Sta Z Z.heap "java/lang/StringUTF16" "$assertionsDisabled" "Z" (.int (1 : Int32))) (S4 : Sta Z Z.heap "java/lang/StringUTF16" "HI_BYTE_SHIFT" "I" (.int (0 : Int32))) (S5 : Sta Z Z.heap "java/lang/StringUTF16" "LO_BYTE_SHIFT" "I" (.int (8 : Int32))) (Eb : Exa Z h0 b "java/lang/StringBuilder") (Fv : Fld Z h0 b "java/lang/AbstractStringBuilder" "value" "[B" (.ref t)) (Fc : Fld Z h0 b "java/lang/AbstractStringBuilder" "coder" "B" (.int (0 : Int32))) (Fn : Fld Z h0 b "java/lang/AbstractStringBuilder" "count" "I" (.int j)) (Fm : Fld Z h0 b "java/lang/AbstractStringBuilder" "maybeLatin1" "Z" (.int (0 : Int32))) (Va : Arv Z h0 t kt .byte N2 vs (.int 0)) (Et : Exa Z h0 t "[B") (gb : n0 ≤ b) (hj : j = Int32.ofNat i) (hi : i ≤ n) (hn : n ≤ 4) (hN : N2 = Int32.ofNat n) (hth : ∀ q, q < i → vs.getD q (.int 0) = .int (own_lo (ds.getD q 0)) ∧ ¬ (255 : Int32) < ds.getD q 0) (hr : own_chs ds) :
    MetFree l (⟨"java/lang/AbstractStringBuilder", "inflate", "()V"⟩ : MethodName) (head1 (Jvm.Cond.code (⟨"java/lang/AbstractStringBuilder", "inflate", "()V"⟩ : MethodName) jdk_68_method_11_code 2 none :: wsq) own_R_asbInf) (fun aq Uq => aq = #[(.ref b)] ∧ Z.Warmed39 Uq.vm ∧ Uq.heap = h0) (fun _ _ _ _ _ => True) (fun _ Uq oq Uq' => ∃ vq Lq, oq = .returned vq ∧ own_Q_asbInf Z b t kt N2 vs j ds i n cz fm h0 n0 vq Uq'.heap Lq ∧ FrameEnd Uq oq Uq' Lq own_R_asbInf.cells own_R_asbInf.slots) := by
  refine MetFree.of_bodySF (plainFor_of_name own_pn4) hisR ?_
  intro p e s m args below meth cde s₁ Bd hml0 hP hK
  obtain ⟨rfl, hZ, hh⟩ := hP
  have hx := Bd.exec
  have hby := Bd.bytes
  have hml : cde.maxLocals = 2 := hml0
  have hown : s.vm.findClass "java/lang/AbstractStringBuilder" = some m.cls := findClass_of_methodNamed Bd.named
  have hnm := (name_of_methodNamed Bd.named Bd.method).1
  have X0 : Stand p l e own_R_asbInf s m #[(.ref b)] below meth cde s₁ [] 0 0 := Stand.of_body Bd
  have e0 : s₁.heap = h0 := by rw [← hh, Bd.state]; rfl
  have N0 := Fr.nil n0
  show own_Fin p e s below (own_Q_asbInf Z b t kt N2 vs j ds i n cz fm h0 n0) own_R_asbInf.cells own_R_asbInf.slots s₁ (entryFrame m #[(.ref b)] 2)
  rw [own_ef_asbInf m b]
  refine own_via (fun _ kq => XS.aloadN X0.here hx rfl (hb hby own_d451) rfl rfl kq) ?_
  show own_Fin _ _ _ _ _ _ _ s₁ (mkF m 1 #[.val (.ref b), .unset] [(.ref b)])
  obtain ⟨cq1_, kq1_, q1_a, q1_b, q1_c⟩ := isOf hZ e0 Eb
  obtain ⟨_, _, ⟨T1_, L1_, k1_, n1_⟩, -, X1_, ⟨Lc1_, hQ1_, l1_, y1_, z1_⟩, st1_⟩ := X0.virtualBack hx (y := (⟨"java/lang/AbstractStringBuilder", "isLatin1", "()Z"⟩ : MethodName)) (z := (⟨"java/lang/AbstractStringBuilder", "isLatin1", "()Z"⟩ : MethodName)) hown (mvT hZ (own_w hw 151 rfl)) (mvT hZ (own_w hw 109 rfl)) (notFace_of_selects (args := #[]) (mvT hZ (own_w hw 111 rfl))) (mvT hZ (own_w hw 111 rfl)) (mvT hZ (own_w hw 110 rfl)) (by decide) (backOf (W := 0) (own_rm_asbLat l Z a0 hw [] b cz (0 : Int32) h0 n0 Z0 O0 S1 (by first | assumption | decide) Fc) hZ (own_w hw 112 rfl) (own_w hw 55 rfl) (by decide) (by decide)) q1_a q1_c (g := (mkF m 1 #[.val (.ref b), .unset] [(.ref b)])) rfl (by rw [hml]; rfl) (Steps.refl _) (argsL := []) (rest := []) (lenOf own_pd6 rfl) rfl (by show 2 * 0 + _ ≤ _; exact Nat.le_of_eq rfl) (hb hby own_d452) (fun _ _ => ⟨rfl, e0, (by decide : 0 + 0 ≤ _), (by decide : 0 + 0 ≤ _)⟩)
  dsimp only [Pt.U, Pt.locs, Pt.cells, Pt.slots] at X1_ l1_ y1_ z1_ st1_ hQ1_
  subst l1_ y1_ z1_
  obtain ⟨r, rfl, Nq1_, hh1_, hq⟩ := hQ1_
  have N1_ := Fr.app N0 Nq1_
  refine own_via (fun _ kq => st1_.trans kq) ?_
  show own_Fin _ _ _ _ _ _ _ T1_ (mkF m 4 #[.val (.ref b), .unset] [(.int r)])
  refine own_via (fun _ kq => XS.ifYes X1_.here hx rfl (pc0 := 4) (pc' := 8) rfl (hb hby own_d453) rfl ((if0 _ _).trans (feq (fun z => absurd rfl (hq.resolve_left fun q => absurd (q.1.symm.trans z) (by decide)).2)).2) (by decide) (by decide) kq) ?_
  show own_Fin _ _ _ _ _ _ _ T1_ (mkF m 8 #[.val (.ref b), .unset] [])
  refine own_via (fun _ kq => XS.aloadN X1_.here hx rfl (hb hby own_d454) rfl rfl kq) ?_
  show own_Fin _ _ _ _ _ _ _ T1_ (mkF m 9 #[.val (.ref b), .unset] [(.ref b)])
  obtain ⟨T2_, X2_, e2_, st2_⟩ := getF X1_ hx hZ hown (host := "") (Or.inl (own_w hw 59 rfl)) Via.refl hh1_ Fv (g := (mkF m 9 #[.val (.ref b), .unset] [(.ref b)])) rfl rfl (hb hby own_d455)
  refine own_via (fun _ kq => st2_ _ kq) ?_
  show own_Fin _ _ _ _ _ _ _ T2_ (mkF m 12 #[.val (.ref b), .unset] [(.ref t)])
  obtain ⟨c3_, Ar3_, -, S3_, M3_, -, -⟩ := (id Va)
  refine own_via (fun _ kq => X2_.arraylength hx (own_eq e2_ Ar3_.1) (State.isArrayOf_alike hZ.alike Ar3_.2.1) (g := (mkF m 12 #[.val (.ref b), .unset] [(.ref t)])) rfl rfl (hb hby own_d456) _ (by rw [len_of S3_ M3_]; exact kq)) ?_
  show own_Fin _ _ _ _ _ _ _ T2_ (mkF m 13 #[.val (.ref b), .unset] [(.int N2)])
  obtain ⟨_, _, ⟨T4_, L4_, k4_, n4_⟩, -, X4_, ⟨Lc4_, hQ4_, l4_, y4_, z4_⟩, st4_⟩ := Jvm.LawKit.callS X2_ hx (y := (⟨"java/lang/StringUTF16", "newBytesFor", "(I)[B"⟩ : MethodName)) hown (mvT hZ (own_w hw 216 rfl)) (mvT hZ (own_w hw 178 rfl)) (mvT hZ (own_w hw 129 rfl)) (mvT hZ (own_w hw 179 rfl)) (by decide) (backOf (W := 0) (own_rm_nbf l Z a0 hw [] N2 n h0 n0 Z0 hN hn) hZ (own_w hw 179 rfl) (own_w hw 129 rfl) (by decide) (by decide)) (g := (mkF m 13 #[.val (.ref b), .unset] [(.int N2)])) rfl (by rw [hml]; rfl) (argsL := [(.int N2)]) (rest := []) (lenOf own_pd8 rfl) rfl (by show 2 * 0 + _ ≤ _; exact Nat.le_of_eq rfl) (hb hby own_d457) (fun _ _ => ⟨rfl, e2_, (by decide : 0 + 0 + 1 ≤ _), (by decide : 0 + 0 + 8 ≤ _)⟩)
  dsimp only [Pt.U, Pt.locs, Pt.cells, Pt.slots] at X4_ l4_ y4_ z4_ st4_ hQ4_
  subst l4_ y4_ z4_
  obtain ⟨u, ku, rfl, Nq4_, K4_, r5_, r6_, r7_⟩ := hQ4_
  have N4_ := Fr.app N1_ Nq4_
  refine own_via (fun _ kq => st4_ _ kq) ?_
  show own_Fin _ _ _ _ _ _ _ T4_ (mkF m 16 #[.val (.ref b), .unset] [(.ref u)])
  refine own_via (fun _ kq => XS.astoreN X4_.here hx rfl (hb hby own_d458) rfl rfl (l' := #[.val (.ref b), .val (.ref u)]) rfl kq) ?_
  refine own_via (fun _ kq => XS.aloadN X4_.here hx rfl (hb hby own_d459) rfl rfl kq) ?_
  show own_Fin _ _ _ _ _ _ _ T4_ (mkF m 18 #[.val (.ref b), .val (.ref u)] [(.ref b)])
  obtain ⟨T8_, X8_, e8_, st8_⟩ := getF X4_ hx hZ hown (host := "") (Or.inl (own_w hw 59 rfl)) Via.refl rfl (Fv.keep K4_ nin0) (g := (mkF m 18 #[.val (.ref b), .val (.ref u)] [(.ref b)])) rfl rfl (hb hby own_d460)
  refine own_via (fun _ kq => st8_ _ kq) ?_
  show own_Fin _ _ _ _ _ _ _ T8_ (mkF m 21 #[.val (.ref b), .val (.ref u)] [(.ref t)])
  refine own_via (fun _ kq => XS.iconst X8_.here hx rfl (hb hby own_d461) kq) ?_
  refine own_via (fun _ kq => XS.aloadN X8_.here hx rfl (hb hby own_d462) rfl rfl kq) ?_
  refine own_via (fun _ kq => XS.iconst X8_.here hx rfl (hb hby own_d463) kq) ?_
  refine own_via (fun _ kq => XS.aloadN X8_.here hx rfl (hb hby own_d464) rfl rfl kq) ?_
  show own_Fin _ _ _ _ _ _ _ T8_ (mkF m 25 #[.val (.ref b), .val (.ref u)] [(.ref b), (.int (0 : Int32)), (.ref u), (.int (0 : Int32)), (.ref t)])
  obtain ⟨T9_, X9_, e9_, st9_⟩ := getF X8_ hx hZ hown (host := "") (Or.inl (own_w hw 106 rfl)) Via.refl e8_ (Fn.keep K4_ nin0) (g := (mkF m 25 #[.val (.ref b), .val (.ref u)] [(.ref b), (.int (0 : Int32)), (.ref u), (.int (0 : Int32)), (.ref t)])) rfl rfl (hb hby own_d465)
  refine own_via (fun _ kq => st9_ _ kq) ?_
  show own_Fin _ _ _ _ _ _ _ T9_ (mkF m 28 #[.val (.ref b), .val (.ref u)] [(.int j), (.int (0 : Int32)), (.ref u), (.int (0 : Int32)), (.ref t)])
  have q10_ : t ≠ u := Nat.ne_of_lt (Nat.lt_of_lt_of_le Et.lt r5_)
  have g12_ : n0 ≤ u := Nat.le_trans Z0 r5_
  obtain ⟨_, _, ⟨T11_, L11_, k11_, n11_⟩, -, X11_, ⟨Lc11_, hQ11_, l11_, y11_, z11_⟩, st11_⟩ := Jvm.LawKit.callS X9_ hx (y := (⟨"java/lang/StringLatin1", "inflate", "([BI[BII)V"⟩ : MethodName)) hown (mvT hZ (own_w hw 217 rfl)) (mvT hZ (own_w hw 218 rfl)) (mvT hZ (own_w hw 75 rfl)) (mvT hZ (own_w hw 219 rfl)) (by decide) (backOf (W := 0) (own_rm_latInf2 l Z a0 hw [] t kt N2 vs u ku (Int32.ofNat (2 * n)) (List.replicate (2 * n) (.int 0)) j ds i n fm T4_.heap n0 (Nat.le_trans Z0 K4_.1) (O0.keep K4_ all0) S2 r_fm S3 S4 S5 (Va.keep K4_ nin0) r6_ g12_ q10_ List.length_replicate rfl hN hj hi hn hth hr) hZ (own_w hw 219 rfl) (own_w hw 75 rfl) (by decide) (by decide)) (g := (mkF m 28 #[.val (.ref b), .val (.ref u)] [(.int j), (.int (0 : Int32)), (.ref u), (.int (0 : Int32)), (.ref t)])) rfl (by rw [hml]; rfl) (argsL := [(.ref t), (.int (0 : Int32)), (.ref u), (.int (0 : Int32)), (.int j)]) (rest := []) (lenOf own_pd22 rfl) rfl (by show 2 * 0 + _ ≤ _; exact Nat.le_of_eq rfl) (hb hby own_d466) (fun _ _ => ⟨rfl, e9_, (by decide : 0 + 0 + 1 + 0 ≤ _), (by decide : 0 + 0 + 8 + 0 ≤ _)⟩)
  dsimp only [Pt.U, Pt.locs, Pt.cells, Pt.slots] at X11_ l11_ y11_ z11_ st11_ hQ11_
  subst l11_ y11_ z11_
  obtain ⟨ws, rfl, Nq11_, K11_, r13_, hx_⟩ := hQ11_
  have N11_ := Fr.app N4_ Nq11_
  refine own_via (fun _ kq => st11_ _ kq) ?_
  show own_Fin _ _ _ _ _ _ _ T11_ (mkF m 31 #[.val (.ref b), .val (.ref u)] [])
  refine own_via (fun _ kq => XS.aloadN X11_.here hx rfl (hb hby own_d467) rfl rfl kq) ?_
  refine own_via (fun _ kq => XS.aloadN X11_.here hx rfl (hb hby own_d468) rfl rfl kq) ?_
  show own_Fin _ _ _ _ _ _ _ T11_ (mkF m 33 #[.val (.ref b), .val (.ref u)] [(.ref u), (.ref b)])
  have q15_ : b ≠ u := Nat.ne_of_lt (Nat.lt_of_lt_of_le Eb.lt r5_)
  obtain ⟨T14_, h14_, X14_, e14_, W14_, st14_⟩ := putF X11_ hx hZ hown (host := "") (Or.inl (own_w hw 59 rfl)) Via.refl rfl ((Fv.keep K4_ nin0).keep K11_ (ninS q15_ nin0)) ((Eb.keep K4_).keep K11_) (Or.inl (own_w hw 60 rfl)) (own_w hw 35 rfl) (ty := (.array .byte)) (by decide) rfl rfl (g := (mkF m 33 #[.val (.ref b), .val (.ref u)] [(.ref u), (.ref b)])) rfl rfl (hb hby own_d469)
  have Fw14_ := ((Fv.keep K4_ nin0).keep K11_ (ninS q15_ nin0)).same W14_
  have N14_ := Fr.snoc X14_ N11_ gb
  refine own_via (fun _ kq => st14_ _ kq) ?_
  show own_Fin _ _ _ _ _ _ _ T14_ (mkF m 36 #[.val (.ref b), .val (.ref u)] [])
  refine own_via (fun _ kq => XS.aloadN X14_.here hx rfl (hb hby own_d470) rfl rfl kq) ?_
  refine own_via (fun _ kq => XS.iconst X14_.here hx rfl (hb hby own_d471) kq) ?_
  show own_Fin _ _ _ _ _ _ _ T14_ (mkF m 38 #[.val (.ref b), .val (.ref u)] [(.int (1 : Int32)), (.ref b)])
  have f17_ := (((Fc.keep K4_ nin0).keep K11_ (ninS q15_ nin0)).other W14_ (Or.inr (slot_ne (Or.inl (own_w hw 62 rfl)) (Or.inl (own_w hw 60 rfl)) (by decide) (t := .byte) (t' := (.array .byte)) (by decide) (by decide))))
  obtain ⟨T16_, h16_, X16_, e16_, W16_, st16_⟩ := putFN X14_ hx hZ hown (own_w hw 61 rfl) Via.refl e14_ f17_ (((Eb.keep K4_).keep K11_).wr W14_) (Or.inl (own_w hw 62 rfl)) (own_w hw 35 rfl) (ty := .byte) (v' := (.int (1 : Int32))) (by decide) rfl (by decide) (g := (mkF m 38 #[.val (.ref b), .val (.ref u)] [(.int (1 : Int32)), (.ref b)])) rfl rfl (hb hby own_d472)
  have Fw16_ := f17_.same W16_
  have N16_ := Fr.snoc X16_ N14_ gb
  refine own_via (fun _ kq => st16_ _ kq) ?_
  show own_Fin _ _ _ _ _ _ _ T16_ (mkF m 41 #[.val (.ref b), .val (.ref u)] [])
  have f18_ := (Fw14_.other W16_ (Or.inr (slot_ne (Or.inl (own_w hw 60 rfl)) (Or.inl (own_w hw 62 rfl)) (by decide) (t := (.array .byte)) (t' := .byte) (by decide) (by decide))))
  have f19_ := ((((Fn.keep K4_ nin0).keep K11_ (ninS q15_ nin0)).other W14_ (Or.inr (slot_ne (Or.inl (own_w hw 107 rfl)) (Or.inl (own_w hw 60 rfl)) (by decide) (t := .int) (t' := (.array .byte)) (by decide) (by decide)))).other W16_ (Or.inr (slot_ne (Or.inl (own_w hw 107 rfl)) (Or.inl (own_w hw 62 rfl)) (by decide) (t := .int) (t' := .byte) (by decide) (by decide))))
  have f20_ := ((((Fm.keep K4_ nin0).keep K11_ (ninS q15_ nin0)).other W14_ (Or.inr (slot_ne (Or.inl (own_w hw 231 rfl)) (Or.inl (own_w hw 60 rfl)) (by decide) (t := .boolean) (t' := (.array .byte)) (by decide) (by decide)))).other W16_ (Or.inr (slot_ne (Or.inl (own_w hw 231 rfl)) (Or.inl (own_w hw 62 rfl)) (by decide) (t := .boolean) (t' := .byte) (by decide) (by decide))))
  exact own_ret0 X16_ hx Bd.returns Bd.notSynchronized (hb hby own_d473) e16_ ⟨u, ku, ws, rfl, N16_, (((((Keep.refl h0 [b]).trans K4_ all0).trans K11_ (allS (Or.inr r5_) all0)).wr W14_ (Or.inl (List.mem_of_getElem? (i := 0) rfl))).wr W16_ (Or.inl (List.mem_of_getElem? (i := 0) rfl))), ((((Eb.keep K4_).keep K11_).wr W14_).wr W16_), f18_, Fw16_, f19_, f20_, r5_, ((r13_.other W14_ (Ne.symm q15_)).other W16_ (Ne.symm q15_)), (((r7_.keep K11_).wr W14_).wr W16_), hx_⟩ (by decide) (by decide)
theorem own_d474 : decode jdk_68_method_31_code 0 = .ok (.aload_n 0, 1) := by decide +kernel
theorem own_d475 : decode jdk_68_method_31_code 1 = .ok (.aload_n 0, 1) := by decide +kernel
theorem own_d476 : decode jdk_68_method_31_code 2 = .ok (.getfield 79, 3) := by decide +kernel
theorem own_d477 : decode jdk_68_method_31_code 5 = .ok (.iconst 1, 1) := by decide +kernel
theorem own_d478 : decode jdk_68_method_31_code 6 = .ok (.iadd, 1) := by decide +kernel
theorem own_d479 : decode jdk_68_method_31_code 7 = .ok (.invokevirtual 100, 3) := by decide +kernel
theorem own_d480 : decode jdk_68_method_31_code 10 = .ok (.aload_n 0, 1) := by decide +kernel
theorem own_d481 : decode jdk_68_method_31_code 11 = .ok (.invokevirtual 83, 3) := by decide +kernel
theorem own_d482 : decode jdk_68_method_31_code 14 = .ok (.ifCond .eq 31, 3) := by decide +kernel
theorem own_d483 : decode jdk_68_method_31_code 17 = .ok (.iload_n 1, 1) := by decide +kernel
theorem own_d484 : decode jdk_68_method_31_code 18 = .ok (.invokestatic 191, 3) := by decide +kernel
theorem own_pd23 : parseMethodDescriptor "(C)Z" = some ⟨[.char], some .boolean⟩ := by decide +kernel
theorem own_d485 : decode jdk_68_method_31_code 21 = .ok (.ifCond .eq 24, 3) := by decide +kernel
theorem own_d486 : decode jdk_68_method_31_code 24 = .ok (.aload_n 0, 1) := by decide +kernel
theorem own_d487 : decode jdk_68_method_31_code 25 = .ok (.getfield 15, 3) := by decide +kernel
theorem own_d488 : decode jdk_68_method_31_code 28 = .ok (.aload_n 0, 1) := by decide +kernel
theorem own_d489 : decode jdk_68_method_31_code 29 = .ok (.dup, 1) := by decide +kernel
theorem own_d490 : decode jdk_68_method_31_code 30 = .ok (.getfield 79, 3) := by decide +kernel
theorem own_d491 : decode jdk_68_method_31_code 33 = .ok (.dup_x1, 1) := by decide +kernel
theorem own_d492 : decode jdk_68_method_31_code 34 = .ok (.iconst 1, 1) := by decide +kernel
theorem own_d493 : decode jdk_68_method_31_code 35 = .ok (.iadd, 1) := by decide +kernel
theorem own_d494 : decode jdk_68_method_31_code 36 = .ok (.putfield 79, 3) := by decide +kernel
theorem own_d495 : decode jdk_68_method_31_code 39 = .ok (.iload_n 1, 1) := by decide +kernel
theorem own_d496 : decode jdk_68_method_31_code 40 = .ok (.i2b, 1) := by decide +kernel
theorem own_d497 : decode jdk_68_method_31_code 41 = .ok (.bastore, 1) := by decide +kernel
theorem own_d498 : decode jdk_68_method_31_code 42 = .ok (.goto 33, 3) := by decide +kernel
theorem own_d499 : decode jdk_68_method_31_code 75 = .ok (.aload_n 0, 1) := by decide +kernel
theorem own_d500 : decode jdk_68_method_31_code 76 = .ok (.areturn, 1) := by decide +kernel
theorem own_d501 : decode jdk_68_method_31_code 45 = .ok (.aload_n 0, 1) := by decide +kernel
theorem own_d502 : decode jdk_68_method_31_code 46 = .ok (.invokevirtual 83, 3) := by decide +kernel
theorem own_d503 : decode jdk_68_method_31_code 49 = .ok (.ifCond .eq 7, 3) := by decide +kernel
theorem own_d504 : decode jdk_68_method_31_code 52 = .ok (.aload_n 0, 1) := by decide +kernel
theorem own_d505 : decode jdk_68_method_31_code 53 = .ok (.invokevirtual 195, 3) := by decide +kernel
theorem own_pd24 : parseMethodDescriptor "()V" = some ⟨[], none⟩ := by decide +kernel
theorem own_d506 : decode jdk_68_method_31_code 56 = .ok (.aload_n 0, 1) := by decide +kernel
theorem own_d507 : decode jdk_68_method_31_code 57 = .ok (.getfield 15, 3) := by decide +kernel
theorem own_d508 : decode jdk_68_method_31_code 60 = .ok (.aload_n 0, 1) := by decide +kernel
theorem own_d509 : decode jdk_68_method_31_code 61 = .ok (.dup, 1) := by decide +kernel
theorem own_d510 : decode jdk_68_method_31_code 62 = .ok (.getfield 79, 3) := by decide +kernel
theorem own_d511 : decode jdk_68_method_31_code 65 = .ok (.dup_x1, 1) := by decide +kernel
theorem own_d512 : decode jdk_68_method_31_code 66 = .ok (.iconst 1, 1) := by decide +kernel
theorem own_d513 : decode jdk_68_method_31_code 67 = .ok (.iadd, 1) := by decide +kernel
theorem own_d514 : decode jdk_68_method_31_code 68 = .ok (.putfield 79, 3) := by decide +kernel
theorem own_d515 : decode jdk_68_method_31_code 71 = .ok (.iload_n 1, 1) := by decide +kernel
theorem own_d516 : decode jdk_68_method_31_code 72 = .ok (.invokestatic 197, 3) := by decide +kernel
theorem own_ef_asbApp (m : MethodId) (b : Addr) (c : Int32) : entryFrame m #[(.ref b), (.int c)] 2 = mkF m 0 #[.val (.ref b), .val (.int c)] [] := by (first | (simp [entryFrame, mkF, argsToLocals, Value.category]; done) | rfl)
def own_Q_asbApp (Z : State) (b : Addr) (c : Int32) (t : Addr) (kt : ClassId) (cd : Int32) (N2 : Int32) (vs : List Value) (j : Int32) (ds : List Int32) (i : Nat) (n : Nat) (cz : Int32) (fm : Value) (h0 : Heap) (n0 : Nat) (vq : Option Value) (h : Heap) (Lq : List Loc) : Prop := ∃ (u : Addr) (ku : ClassId) (cd2 : Int32) (M2 : Int32) (ws : List Value), (vq = some (.ref b)) ∧ (Fr n0 Lq) ∧ (Keep h0 h [b, t]) ∧ (Exa Z h b "java/lang/StringBuilder") ∧ (Fld Z h b "java/lang/AbstractStringBuilder" "value" "[B" (.ref u)) ∧ (Fld Z h b "java/lang/AbstractStringBuilder" "coder" "B" (.int cd2)) ∧ (Fld Z h b "java/lang/AbstractStringBuilder" "count" "I" (.int (j + (1 : Int32)))) ∧ (Fld Z h b "java/lang/AbstractStringBuilder" "maybeLatin1" "Z" (.int (0 : Int32))) ∧ (Arv Z h u ku .byte M2 ws (.int 0)) ∧ (Exa Z h u "[B") ∧ (own_sbp ds (i + 1) n cd2 M2 ws) ∧ (u = t ∨ h0.size ≤ u)
abbrev own_R_asbApp : Room := { frames := 6, cells := 1, slots := 8, locals := 89 }
set_option maxRecDepth 65536 in
set_option maxHeartbeats 40000000 in
theorem own_rm_asbApp (l : Launch) (Z : State) (a0 : Array Value) (hw : ∀ d ∈ tables_1, d.before a0 Z = true) (wsq : List Jvm.Cond) (b : Addr) (c : Int32) (t : Addr) (kt : ClassId) (cd : Int32) (N2 : Int32) (vs : List Value) (j : Int32) (ds : List Int32) (i : Nat) (n : Nat) (cz : Int32) (fm : Value) (h0 : Heap) (n0 : Nat) (Z0 : n0 ≤ h0.size) (O0 : Old Z n0 h0) (S1 : Sta Z Z.heap "java/lang/String" "COMPACT_STRINGS" "Z" (.int cz)) (P5 : ¬ cz = (0 : Int32)) (S2 : Sta Z Z.heap "jdk/internal/util/Preconditions" "SIOOBE_FORMATTER" "Ljava/util/function/BiFunction;" fm) (r_fm : fm.isRef = true) (S3 : Sta Z Z.heap "java/lang/StringUTF16" "$assertionsDisabled" "Z" (.int (1 : Int32))) (S4 : Sta Z Z.heap "java/lang/StringUTF16" "HI_BYTE_SHIFT" "I" (.int (0 : Int32))) (S5 : Sta Z Z.heap "java/lang/StringUTF16" "LO_BYTE_SHIFT" "I" (.int (8 : Int32))) (Eb : Exa Z h0 b "java/lang/StringBuilder") (Fv : Fld Z h0 b "java/lang/AbstractStringBuilder" "value" "[B" (.ref t)) (Fc : Fld Z h0 b "java/lang/AbstractStringBuilder" "coder" "B" (.int cd)) (Fn : Fld Z h0 b "java/lang/AbstractStringBuilder" "count" "I" (.int j)) (Fm : Fld Z h0 b "java/lang/AbstractStringBuilder" "maybeLatin1" "Z" (.int (0 : Int32))) (Va : Arv Z h0 t kt .byte N2 vs (.int 0)) (Et : Exa Z h0 t "[B") (gb : n0 ≤ b) (gt : n0 ≤ t) (hj : j = Int32.ofNat i) (hi : i < n) (hn : n ≤ 4) (hsb : own_sbp ds i n cd N2 vs) (hr : own_chs ds) (hdc : ds.getD i 0 = c) :
    MetFree l (⟨"java/lang/AbstractStringBuilder", "append", "(C)Ljava/lang/AbstractStringBuilder;"⟩ : MethodName) (head1 (Jvm.Cond.code (⟨"java/lang/AbstractStringBuilder", "append", "(C)Ljava/lang/AbstractStringBuilder;"⟩ : MethodName) jdk_68_method_31_code 2 (some (.object "java/lang/AbstractStringBuilder")) :: wsq) own_R_asbApp) (fun aq Uq => aq = #[(.ref b), (.int c)] ∧ Z.Warmed39 Uq.vm ∧ Uq.heap = h0) (fun _ _ _ _ _ => True) (fun _ Uq oq Uq' => ∃ vq Lq, oq = .returned vq ∧ own_Q_asbApp Z b c t kt cd N2 vs j ds i n cz fm h0 n0 vq Uq'.heap Lq ∧ FrameEnd Uq oq Uq' Lq own_R_asbApp.cells own_R_asbApp.slots) := by
  refine MetFree.of_bodySF (plainFor_of_name own_pn4) hisR ?_
  intro p e s m args below meth cde s₁ Bd hml0 hP hK
  obtain ⟨rfl, hZ, hh⟩ := hP
  have hx := Bd.exec
  have hby := Bd.bytes
  have hml : cde.maxLocals = 2 := hml0
  have hown : s.vm.findClass "java/lang/AbstractStringBuilder" = some m.cls := findClass_of_methodNamed Bd.named
  have hnm := (name_of_methodNamed Bd.named Bd.method).1
  have X0 : Stand p l e own_R_asbApp s m #[(.ref b), (.int c)] below meth cde s₁ [] 0 0 := Stand.of_body Bd
  have e0 : s₁.heap = h0 := by rw [← hh, Bd.state]; rfl
  have N0 := Fr.nil n0
  show own_Fin p e s below (own_Q_asbApp Z b c t kt cd N2 vs j ds i n cz fm h0 n0) own_R_asbApp.cells own_R_asbApp.slots s₁ (entryFrame m #[(.ref b), (.int c)] 2)
  rw [own_ef_asbApp m b c]
  refine own_via (fun _ kq => XS.aloadN X0.here hx rfl (hb hby own_d474) rfl rfl kq) ?_
  refine own_via (fun _ kq => XS.aloadN X0.here hx rfl (hb hby own_d475) rfl rfl kq) ?_
  show own_Fin _ _ _ _ _ _ _ s₁ (mkF m 2 #[.val (.ref b), .val (.int c)] [(.ref b), (.ref b)])
  obtain ⟨T1_, X1_, e1_, st1_⟩ := getF X0 hx hZ hown (host := "") (Or.inl (own_w hw 106 rfl)) Via.refl e0 Fn (g := (mkF m 2 #[.val (.ref b), .val (.int c)] [(.ref b), (.ref b)])) rfl rfl (hb hby own_d476)
  refine own_via (fun _ kq => st1_ _ kq) ?_
  show own_Fin _ _ _ _ _ _ _ T1_ (mkF m 5 #[.val (.ref b), .val (.int c)] [(.int j), (.ref b)])
  refine own_via (fun _ kq => XS.iconst X1_.here hx rfl (hb hby own_d477) kq) ?_
  refine own_via (fun _ kq => XS.iadd X1_.here hx rfl (hb hby own_d478) rfl kq) ?_
  show own_Fin _ _ _ _ _ _ _ T1_ (mkF m 7 #[.val (.ref b), .val (.int c)] [(.int (j + (1 : Int32))), (.ref b)])
  obtain ⟨cq2_, q2_, q2_'⟩ := Eb.cell
  obtain ⟨_, _, ⟨T2_, L2_, k2_, n2_⟩, -, X2_, ⟨Lc2_, hQ2_, l2_, y2_, z2_⟩, st2_⟩ := X1_.privateBack hx (y := (⟨"java/lang/AbstractStringBuilder", "ensureCapacityInternal", "(I)V"⟩ : MethodName)) hown (mvT hZ (own_w hw 146 rfl)) (mvT hZ (own_w hw 147 rfl)) (own_selfsel (mvT hZ (own_w hw 149 rfl)) (mvT hZ (own_w hw 147 rfl)) (Cond.privateMethod_at (mvP hZ (own_w hw 148 rfl) (args := #[]))) (by decide)) (Cond.privateMethod_at (mvP hZ (own_w hw 148 rfl) (args := #[]))) (mvT hZ (own_w hw 150 rfl)) (by decide) (backOf (W := 0) (own_rm_ensC l Z a0 hw [] b (j + (1 : Int32)) t kt cd N2 vs h0 n0 Z0 Fv Fc Va (own_sb_cap hsb hj hi hn)) hZ (own_w hw 150 rfl) (own_w hw 55 rfl) (by decide) (by decide)) (g := (mkF m 7 #[.val (.ref b), .val (.int c)] [(.int (j + (1 : Int32))), (.ref b)])) rfl (by rw [hml]; rfl) (Steps.refl _) (a := b) (own_eq e1_ q2_) q2_' (argsL := [(.int (j + (1 : Int32)))]) (rest := []) (lenOf own_pd14 rfl) rfl (by show 2 * 0 + _ ≤ _; exact Nat.le_of_eq rfl) (hb hby own_d479) (fun _ _ => ⟨rfl, e1_, (by decide : 0 + 0 ≤ _), (by decide : 0 + 0 ≤ _)⟩)
  dsimp only [Pt.U, Pt.locs, Pt.cells, Pt.slots] at X2_ l2_ y2_ z2_ st2_ hQ2_
  subst l2_ y2_ z2_
  obtain ⟨rfl, Nq2_, hh2_⟩ := hQ2_
  have N2_ := Fr.app N0 Nq2_
  refine own_via (fun _ kq => st2_.trans kq) ?_
  show own_Fin _ _ _ _ _ _ _ T2_ (mkF m 10 #[.val (.ref b), .val (.int c)] [])
  refine own_via (fun _ kq => XS.aloadN X2_.here hx rfl (hb hby own_d480) rfl rfl kq) ?_
  show own_Fin _ _ _ _ _ _ _ T2_ (mkF m 11 #[.val (.ref b), .val (.int c)] [(.ref b)])
  obtain ⟨cq3_, kq3_, q3_a, q3_b, q3_c⟩ := isOf hZ hh2_ Eb
  obtain ⟨_, _, ⟨T3_, L3_, k3_, n3_⟩, -, X3_, ⟨Lc3_, hQ3_, l3_, y3_, z3_⟩, st3_⟩ := X2_.virtualBack hx (y := (⟨"java/lang/AbstractStringBuilder", "isLatin1", "()Z"⟩ : MethodName)) (z := (⟨"java/lang/AbstractStringBuilder", "isLatin1", "()Z"⟩ : MethodName)) hown (mvT hZ (own_w hw 151 rfl)) (mvT hZ (own_w hw 109 rfl)) (notFace_of_selects (args := #[]) (mvT hZ (own_w hw 111 rfl))) (mvT hZ (own_w hw 111 rfl)) (mvT hZ (own_w hw 110 rfl)) (by decide) (backOf (W := 0) (own_rm_asbLat l Z a0 hw [] b cz cd h0 n0 Z0 O0 S1 (by first | assumption | decide) Fc) hZ (own_w hw 112 rfl) (own_w hw 55 rfl) (by decide) (by decide)) q3_a q3_c (g := (mkF m 11 #[.val (.ref b), .val (.int c)] [(.ref b)])) rfl (by rw [hml]; rfl) (Steps.refl _) (argsL := []) (rest := []) (lenOf own_pd6 rfl) rfl (by show 2 * 0 + _ ≤ _; exact Nat.le_of_eq rfl) (hb hby own_d481) (fun _ _ => ⟨rfl, hh2_, (by decide : 0 + 0 + 0 ≤ _), (by decide : 0 + 0 + 0 ≤ _)⟩)
  dsimp only [Pt.U, Pt.locs, Pt.cells, Pt.slots] at X3_ l3_ y3_ z3_ st3_ hQ3_
  subst l3_ y3_ z3_
  obtain ⟨r1, rfl, Nq3_, hh3_, hq1⟩ := hQ3_
  have N3_ := Fr.app N2_ Nq3_
  refine own_via (fun _ kq => st3_.trans kq) ?_
  show own_Fin _ _ _ _ _ _ _ T3_ (mkF m 14 #[.val (.ref b), .val (.int c)] [(.int r1)])
  rcases Classical.em (r1 = (0 : Int32)) with h1 | h1
  · refine own_via (fun _ kq => XS.ifYes X3_.here hx rfl (pc0 := 14) (pc' := 45) rfl (hb hby own_d482) rfl ((if0 _ _).trans (teq h1).1) (by decide) (by decide) kq) ?_
    show own_Fin _ _ _ _ _ _ _ T3_ (mkF m 45 #[.val (.ref b), .val (.int c)] [])
    have hd : ¬ cd = (0 : Int32) := (hq1.resolve_left fun z => absurd (z.1.symm.trans h1) (by decide)).2
    have hA := own_sb_u hsb hd
    refine own_via (fun _ kq => XS.aloadN X3_.here hx rfl (hb hby own_d501) rfl rfl kq) ?_
    show own_Fin _ _ _ _ _ _ _ T3_ (mkF m 46 #[.val (.ref b), .val (.int c)] [(.ref b)])
    obtain ⟨cq32_, kq32_, q32_a, q32_b, q32_c⟩ := isOf hZ hh3_ Eb
    obtain ⟨_, _, ⟨T32_, L32_, k32_, n32_⟩, -, X32_, ⟨Lc32_, hQ32_, l32_, y32_, z32_⟩, st32_⟩ := X3_.virtualBack hx (y := (⟨"java/lang/AbstractStringBuilder", "isLatin1", "()Z"⟩ : MethodName)) (z := (⟨"java/lang/AbstractStringBuilder", "isLatin1", "()Z"⟩ : MethodName)) hown (mvT hZ (own_w hw 151 rfl)) (mvT hZ (own_w hw 109 rfl)) (notFace_of_selects (args := #[]) (mvT hZ (own_w hw 111 rfl))) (mvT hZ (own_w hw 111 rfl)) (mvT hZ (own_w hw 110 rfl)) (by decide) (backOf (W := 0) (own_rm_asbLat l Z a0 hw [] b cz cd h0 n0 Z0 O0 S1 (by first | assumption | decide) Fc) hZ (own_w hw 112 rfl) (own_w hw 55 rfl) (by decide) (by decide)) q32_a q32_c (g := (mkF m 46 #[.val (.ref b), .val (.int c)] [(.ref b)])) rfl (by rw [hml]; rfl) (Steps.refl _) (argsL := []) (rest := []) (lenOf own_pd6 rfl) rfl (by show 2 * 0 + _ ≤ _; exact Nat.le_of_eq rfl) (hb hby own_d502) (fun _ _ => ⟨rfl, hh3_, (by decide : 0 + 0 + 0 + 0 ≤ _), (by decide : 0 + 0 + 0 + 0 ≤ _)⟩)
    dsimp only [Pt.U, Pt.locs, Pt.cells, Pt.slots] at X32_ l32_ y32_ z32_ st32_ hQ32_
    subst l32_ y32_ z32_
    obtain ⟨r3, rfl, Nq32_, hh32_, hq3⟩ := hQ32_
    have N32_ := Fr.app N3_ Nq32_
    refine own_via (fun _ kq => st32_.trans kq) ?_
    show own_Fin _ _ _ _ _ _ _ T32_ (mkF m 49 #[.val (.ref b), .val (.int c)] [(.int r3)])
    refine own_via (fun _ kq => XS.ifYes X32_.here hx rfl (pc0 := 49) (pc' := 56) rfl (hb hby own_d503) rfl ((if0 _ _).trans (teq (hq3.resolve_left fun q => hd q.2).1).1) (by decide) (by decide) kq) ?_
    show own_Fin _ _ _ _ _ _ _ T32_ (mkF m 56 #[.val (.ref b), .val (.int c)] [])
    refine own_via (fun _ kq => XS.aloadN X32_.here hx rfl (hb hby own_d506) rfl rfl kq) ?_
    show own_Fin _ _ _ _ _ _ _ T32_ (mkF m 57 #[.val (.ref b), .val (.int c)] [(.ref b)])
    obtain ⟨T33_, X33_, e33_, st33_⟩ := getF X32_ hx hZ hown (host := "") (Or.inl (own_w hw 59 rfl)) Via.refl hh32_ Fv (g := (mkF m 57 #[.val (.ref b), .val (.int c)] [(.ref b)])) rfl rfl (hb hby own_d507)
    refine own_via (fun _ kq => st33_ _ kq) ?_
    show own_Fin _ _ _ _ _ _ _ T33_ (mkF m 60 #[.val (.ref b), .val (.int c)] [(.ref t)])
    refine own_via (fun _ kq => XS.aloadN X33_.here hx rfl (hb hby own_d508) rfl rfl kq) ?_
    refine own_via (fun _ kq => XS.dup X33_.here hx rfl (hb hby own_d509) rfl rfl kq) ?_
    show own_Fin _ _ _ _ _ _ _ T33_ (mkF m 62 #[.val (.ref b), .val (.int c)] [(.ref b), (.ref b), (.ref t)])
    obtain ⟨T34_, X34_, e34_, st34_⟩ := getF X33_ hx hZ hown (host := "") (Or.inl (own_w hw 106 rfl)) Via.refl e33_ Fn (g := (mkF m 62 #[.val (.ref b), .val (.int c)] [(.ref b), (.ref b), (.ref t)])) rfl rfl (hb hby own_d510)
    refine own_via (fun _ kq => st34_ _ kq) ?_
    show own_Fin _ _ _ _ _ _ _ T34_ (mkF m 65 #[.val (.ref b), .val (.int c)] [(.int j), (.ref b), (.ref t)])
    refine own_via (fun _ kq => XS.dupX1 X34_.here hx rfl (hb hby own_d511) rfl rfl rfl kq) ?_
    refine own_via (fun _ kq => XS.iconst X34_.here hx rfl (hb hby own_d512) kq) ?_
    refine own_via (fun _ kq => XS.iadd X34_.here hx rfl (hb hby own_d513) rfl kq) ?_
    show own_Fin _ _ _ _ _ _ _ T34_ (mkF m 68 #[.val (.ref b), .val (.int c)] [(.int (j + (1 : Int32))), (.ref b), (.int j), (.ref t)])
    obtain ⟨T35_, h35_, X35_, e35_, W35_, st35_⟩ := putF X34_ hx hZ hown (host := "") (Or.inl (own_w hw 106 rfl)) Via.refl e34_ Fn Eb (Or.inl (own_w hw 107 rfl)) (own_w hw 35 rfl) (ty := .int) (by decide) rfl rfl (g := (mkF m 68 #[.val (.ref b), .val (.int c)] [(.int (j + (1 : Int32))), (.ref b), (.int j), (.ref t)])) rfl rfl (hb hby own_d514)
    have Fw35_ := Fn.same W35_
    have N35_ := Fr.snoc X35_ N32_ gb
    refine own_via (fun _ kq => st35_ _ kq) ?_
    show own_Fin _ _ _ _ _ _ _ T35_ (mkF m 71 #[.val (.ref b), .val (.int c)] [(.int j), (.ref t)])
    refine own_via (fun _ kq => XS.iloadN X35_.here hx rfl (hb hby own_d515) rfl kq) ?_
    show own_Fin _ _ _ _ _ _ _ T35_ (mkF m 72 #[.val (.ref b), .val (.int c)] [(.int c), (.int j), (.ref t)])
    obtain ⟨_, _, ⟨T36_, L36_, k36_, n36_⟩, -, X36_, ⟨Lc36_, hQ36_, l36_, y36_, z36_⟩, st36_⟩ := Jvm.LawKit.callS X35_ hx (y := (⟨"java/lang/StringUTF16", "putCharSB", "([BII)V"⟩ : MethodName)) hown (mvT hZ (own_w hw 223 rfl)) (mvT hZ (own_w hw 224 rfl)) (mvT hZ (own_w hw 129 rfl)) (mvT hZ (own_w hw 225 rfl)) (by decide) (backOf (W := 0) (own_rm_putSB l Z a0 hw [] t kt N2 vs c fm j i n h35_ n0 (Nat.le_trans Z0 (Keep.of_wr W35_).1) (O0.wr W35_ gb) S2 r_fm S3 S4 S5 (Va.other W35_ (ne_exa Et Eb (by decide))) gt hj hi (by omega) hA.1 hA.2.1) hZ (own_w hw 225 rfl) (own_w hw 129 rfl) (by decide) (by decide)) (g := (mkF m 72 #[.val (.ref b), .val (.int c)] [(.int c), (.int j), (.ref t)])) rfl (by rw [hml]; rfl) (argsL := [(.ref t), (.int j), (.int c)]) (rest := []) (lenOf own_pd9 rfl) rfl (by show 2 * 0 + _ ≤ _; exact Nat.le_of_eq rfl) (hb hby own_d516) (fun _ _ => ⟨rfl, e35_, (by decide : 0 + 0 + 0 + 0 + 0 ≤ _), (by decide : 0 + 0 + 0 + 0 + 0 ≤ _)⟩)
    dsimp only [Pt.U, Pt.locs, Pt.cells, Pt.slots] at X36_ l36_ y36_ z36_ st36_ hQ36_
    subst l36_ y36_ z36_
    obtain ⟨rfl, Nq36_, K36_, r37_⟩ := hQ36_
    have N36_ := Fr.app N35_ Nq36_
    refine own_via (fun _ kq => st36_ _ kq) ?_
    show own_Fin _ _ _ _ _ _ _ T36_ (mkF m 75 #[.val (.ref b), .val (.int c)] [])
    refine own_via (fun _ kq => XS.aloadN X36_.here hx rfl (hb hby own_d499) rfl rfl kq) ?_
    show own_Fin _ _ _ _ _ _ _ T36_ (mkF m 76 #[.val (.ref b), .val (.int c)] [(.ref b)])
    have f38_ := ((Fv.other W35_ (Or.inr (slot_ne (Or.inl (own_w hw 60 rfl)) (Or.inl (own_w hw 107 rfl)) (by decide) (t := (.array .byte)) (t' := .int) (by decide) (by decide)))).keep K36_ (ninS (ne_exa Eb Et (by decide)) nin0))
    have f39_ := ((Fc.other W35_ (Or.inr (slot_ne (Or.inl (own_w hw 62 rfl)) (Or.inl (own_w hw 107 rfl)) (by decide) (t := .byte) (t' := .int) (by decide) (by decide)))).keep K36_ (ninS (ne_exa Eb Et (by decide)) nin0))
    have f40_ := ((Fm.other W35_ (Or.inr (slot_ne (Or.inl (own_w hw 231 rfl)) (Or.inl (own_w hw 107 rfl)) (by decide) (t := .boolean) (t' := .int) (by decide) (by decide)))).keep K36_ (ninS (ne_exa Eb Et (by decide)) nin0))
    exact own_retA X36_ hx Bd.returns Bd.notSynchronized rfl rfl (hb hby own_d500) rfl ⟨t, kt, cd, N2, ((vs.set (2 * i) (.int (own_lo c))).set (2 * i + 1) (.int (own_hi c))), rfl, N36_, (((Keep.refl h0 [b, t]).wr W35_ (Or.inl (List.mem_of_getElem? (i := 0) rfl))).trans K36_ (allS (Or.inl (List.mem_of_getElem? (i := 1) rfl)) all0)), ((Eb.wr W35_).keep K36_), f38_, f39_, (Fw35_.keep K36_ (ninS (ne_exa Eb Et (by decide)) nin0)), f40_, r37_, ((Et.wr W35_).keep K36_), (own_sb_putw hsb hd hi hdc), (Or.inl rfl)⟩ (by decide) (by decide)
  · refine own_via (fun _ kq => XS.ifNo X3_.here hx rfl (hb hby own_d482) rfl ((if0 _ _).trans (feq h1).1) kq) ?_
    show own_Fin _ _ _ _ _ _ _ T3_ (mkF m 17 #[.val (.ref b), .val (.int c)] [])
    have hd : cd = (0 : Int32) := (hq1.resolve_right fun z => h1 z.1).2
    have hA := own_sb_l hsb hd
    refine own_via (fun _ kq => XS.iloadN X3_.here hx rfl (hb hby own_d483) rfl kq) ?_
    show own_Fin _ _ _ _ _ _ _ T3_ (mkF m 18 #[.val (.ref b), .val (.int c)] [(.int c)])
    obtain ⟨_, _, ⟨T4_, L4_, k4_, n4_⟩, -, X4_, ⟨Lc4_, hQ4_, l4_, y4_, z4_⟩, st4_⟩ := Jvm.LawKit.callS X3_ hx (y := (⟨"java/lang/StringLatin1", "canEncode", "(C)Z"⟩ : MethodName)) hown (mvT hZ (own_w hw 152 rfl)) (mvT hZ (own_w hw 153 rfl)) (mvT hZ (own_w hw 75 rfl)) (mvT hZ (own_w hw 154 rfl)) (by decide) (backOf (W := 0) (own_rm_canE l Z a0 hw [] c h0 n0 Z0 ) hZ (own_w hw 154 rfl) (own_w hw 75 rfl) (by decide) (by decide)) (g := (mkF m 18 #[.val (.ref b), .val (.int c)] [(.int c)])) rfl (by rw [hml]; rfl) (argsL := [(.int c)]) (rest := []) (lenOf own_pd23 rfl) rfl (by show 2 * 0 + _ ≤ _; exact Nat.le_of_eq rfl) (hb hby own_d484) (fun _ _ => ⟨rfl, hh3_, (by decide : 0 + 0 + 0 + 0 ≤ _), (by decide : 0 + 0 + 0 + 0 ≤ _)⟩)
    dsimp only [Pt.U, Pt.locs, Pt.cells, Pt.slots] at X4_ l4_ y4_ z4_ st4_ hQ4_
    subst l4_ y4_ z4_
    obtain ⟨r2, rfl, Nq4_, hh4_, hq2⟩ := hQ4_
    have N4_ := Fr.app N3_ Nq4_
    refine own_via (fun _ kq => st4_ _ kq) ?_
    show own_Fin _ _ _ _ _ _ _ T4_ (mkF m 21 #[.val (.ref b), .val (.int c)] [(.int r2)])
    rcases Classical.em (r2 = (0 : Int32)) with h2 | h2
    · refine own_via (fun _ kq => XS.ifYes X4_.here hx rfl (pc0 := 21) (pc' := 45) rfl (hb hby own_d485) rfl ((if0 _ _).trans (teq h2).1) (by decide) (by decide) kq) ?_
      show own_Fin _ _ _ _ _ _ _ T4_ (mkF m 45 #[.val (.ref b), .val (.int c)] [])
      have hc : (255 : Int32) < c := (hq2.resolve_left fun z => absurd (z.1.symm.trans h2) (by decide)).2
      refine own_via (fun _ kq => XS.aloadN X4_.here hx rfl (hb hby own_d501) rfl rfl kq) ?_
      show own_Fin _ _ _ _ _ _ _ T4_ (mkF m 46 #[.val (.ref b), .val (.int c)] [(.ref b)])
      obtain ⟨cq12_, kq12_, q12_a, q12_b, q12_c⟩ := isOf hZ hh4_ Eb
      obtain ⟨_, _, ⟨T12_, L12_, k12_, n12_⟩, -, X12_, ⟨Lc12_, hQ12_, l12_, y12_, z12_⟩, st12_⟩ := X4_.virtualBack hx (y := (⟨"java/lang/AbstractStringBuilder", "isLatin1", "()Z"⟩ : MethodName)) (z := (⟨"java/lang/AbstractStringBuilder", "isLatin1", "()Z"⟩ : MethodName)) hown (mvT hZ (own_w hw 151 rfl)) (mvT hZ (own_w hw 109 rfl)) (notFace_of_selects (args := #[]) (mvT hZ (own_w hw 111 rfl))) (mvT hZ (own_w hw 111 rfl)) (mvT hZ (own_w hw 110 rfl)) (by decide) (backOf (W := 0) (own_rm_asbLat l Z a0 hw [] b cz cd h0 n0 Z0 O0 S1 (by first | assumption | decide) Fc) hZ (own_w hw 112 rfl) (own_w hw 55 rfl) (by decide) (by decide)) q12_a q12_c (g := (mkF m 46 #[.val (.ref b), .val (.int c)] [(.ref b)])) rfl (by rw [hml]; rfl) (Steps.refl _) (argsL := []) (rest := []) (lenOf own_pd6 rfl) rfl (by show 2 * 0 + _ ≤ _; exact Nat.le_of_eq rfl) (hb hby own_d502) (fun _ _ => ⟨rfl, hh4_, (by decide : 0 + 0 + 0 + 0 + 0 ≤ _), (by decide : 0 + 0 + 0 + 0 + 0 ≤ _)⟩)
      dsimp only [Pt.U, Pt.locs, Pt.cells, Pt.slots] at X12_ l12_ y12_ z12_ st12_ hQ12_
      subst l12_ y12_ z12_
      obtain ⟨r3, rfl, Nq12_, hh12_, hq3⟩ := hQ12_
      have N12_ := Fr.app N4_ Nq12_
      refine own_via (fun _ kq => st12_.trans kq) ?_
      show own_Fin _ _ _ _ _ _ _ T12_ (mkF m 49 #[.val (.ref b), .val (.int c)] [(.int r3)])
      refine own_via (fun _ kq => XS.ifNo X12_.here hx rfl (hb hby own_d503) rfl ((if0 _ _).trans (feq (fun z => (hq3.resolve_left fun q => absurd (q.1.symm.trans z) (by decide)).2 hd)).1) kq) ?_
      show own_Fin _ _ _ _ _ _ _ T12_ (mkF m 52 #[.val (.ref b), .val (.int c)] [])
      refine own_via (fun _ kq => XS.aloadN X12_.here hx rfl (hb hby own_d504) rfl rfl kq) ?_
      show own_Fin _ _ _ _ _ _ _ T12_ (mkF m 53 #[.val (.ref b), .val (.int c)] [(.ref b)])
      have Fz : Fld Z h0 b "java/lang/AbstractStringBuilder" "coder" "B" (.int (0 : Int32)) := by
        have q := Fc
        rw [hd] at q
        exact q
      obtain ⟨cq13_, q13_, q13_'⟩ := Eb.cell
      obtain ⟨_, _, ⟨T13_, L13_, k13_, n13_⟩, -, X13_, ⟨Lc13_, hQ13_, l13_, y13_, z13_⟩, st13_⟩ := X12_.privateBack hx (y := (⟨"java/lang/AbstractStringBuilder", "inflate", "()V"⟩ : MethodName)) hown (mvT hZ (own_w hw 211 rfl)) (mvT hZ (own_w hw 212 rfl)) (own_selfsel (mvT hZ (own_w hw 214 rfl)) (mvT hZ (own_w hw 212 rfl)) (Cond.privateMethod_at (mvP hZ (own_w hw 213 rfl) (args := #[]))) (by decide)) (Cond.privateMethod_at (mvP hZ (own_w hw 213 rfl) (args := #[]))) (mvT hZ (own_w hw 215 rfl)) (by decide) (backOf (W := 0) (own_rm_asbInf l Z a0 hw [] b t kt N2 vs j ds i n cz fm h0 n0 Z0 O0 S1 (by first | assumption | decide) S2 r_fm S3 S4 S5 Eb Fv Fz Fn Fm Va Et gb hj (Nat.le_of_lt hi) hn hA.1 hA.2.2 hr) hZ (own_w hw 215 rfl) (own_w hw 55 rfl) (by decide) (by decide)) (g := (mkF m 53 #[.val (.ref b), .val (.int c)] [(.ref b)])) rfl (by rw [hml]; rfl) (Steps.refl _) (a := b) (own_eq hh12_ q13_) q13_' (argsL := []) (rest := []) (lenOf own_pd24 rfl) rfl (by show 2 * 0 + _ ≤ _; exact Nat.le_of_eq rfl) (hb hby own_d505) (fun _ _ => ⟨rfl, hh12_, (by decide : 0 + 0 + 0 + 0 + 0 + 1 ≤ _), (by decide : 0 + 0 + 0 + 0 + 0 + 8 ≤ _)⟩)
      dsimp only [Pt.U, Pt.locs, Pt.cells, Pt.slots] at X13_ l13_ y13_ z13_ st13_ hQ13_
      subst l13_ y13_ z13_
      obtain ⟨u, ku, ws, rfl, Nq13_, K13_, r14_, r15_, r16_, r17_, r18_, r19_, r20_, r21_, hx_⟩ := hQ13_
      have N13_ := Fr.app N12_ Nq13_
      refine own_via (fun _ kq => st13_.trans kq) ?_
      show own_Fin _ _ _ _ _ _ _ T13_ (mkF m 56 #[.val (.ref b), .val (.int c)] [])
      refine own_via (fun _ kq => XS.aloadN X13_.here hx rfl (hb hby own_d506) rfl rfl kq) ?_
      show own_Fin _ _ _ _ _ _ _ T13_ (mkF m 57 #[.val (.ref b), .val (.int c)] [(.ref b)])
      obtain ⟨T22_, X22_, e22_, st22_⟩ := getF X13_ hx hZ hown (host := "") (Or.inl (own_w hw 59 rfl)) Via.refl rfl r15_ (g := (mkF m 57 #[.val (.ref b), .val (.int c)] [(.ref b)])) rfl rfl (hb hby own_d507)
      refine own_via (fun _ kq => st22_ _ kq) ?_
      show own_Fin _ _ _ _ _ _ _ T22_ (mkF m 60 #[.val (.ref b), .val (.int c)] [(.ref u)])
      refine own_via (fun _ kq => XS.aloadN X22_.here hx rfl (hb hby own_d508) rfl rfl kq) ?_
      refine own_via (fun _ kq => XS.dup X22_.here hx rfl (hb hby own_d509) rfl rfl kq) ?_
      show own_Fin _ _ _ _ _ _ _ T22_ (mkF m 62 #[.val (.ref b), .val (.int c)] [(.ref b), (.ref b), (.ref u)])
      obtain ⟨T23_, X23_, e23_, st23_⟩ := getF X22_ hx hZ hown (host := "") (Or.inl (own_w hw 106 rfl)) Via.refl e22_ r17_ (g := (mkF m 62 #[.val (.ref b), .val (.int c)] [(.ref b), (.ref b), (.ref u)])) rfl rfl (hb hby own_d510)
      refine own_via (fun _ kq => st23_ _ kq) ?_
      show own_Fin _ _ _ _ _ _ _ T23_ (mkF m 65 #[.val (.ref b), .val (.int c)] [(.int j), (.ref b), (.ref u)])
      refine own_via (fun _ kq => XS.dupX1 X23_.here hx rfl (hb hby own_d511) rfl rfl rfl kq) ?_
      refine own_via (fun _ kq => XS.iconst X23_.here hx rfl (hb hby own_d512) kq) ?_
      refine own_via (fun _ kq => XS.iadd X23_.here hx rfl (hb hby own_d513) rfl kq) ?_
      show own_Fin _ _ _ _ _ _ _ T23_ (mkF m 68 #[.val (.ref b), .val (.int c)] [(.int (j + (1 : Int32))), (.ref b), (.int j), (.ref u)])
      obtain ⟨T24_, h24_, X24_, e24_, W24_, st24_⟩ := putF X23_ hx hZ hown (host := "") (Or.inl (own_w hw 106 rfl)) Via.refl e23_ r17_ r14_ (Or.inl (own_w hw 107 rfl)) (own_w hw 35 rfl) (ty := .int) (by decide) rfl rfl (g := (mkF m 68 #[.val (.ref b), .val (.int c)] [(.int (j + (1 : Int32))), (.ref b), (.int j), (.ref u)])) rfl rfl (hb hby own_d514)
      have Fw24_ := r17_.same W24_
      have N24_ := Fr.snoc X24_ N13_ gb
      refine own_via (fun _ kq => st24_ _ kq) ?_
      show own_Fin _ _ _ _ _ _ _ T24_ (mkF m 71 #[.val (.ref b), .val (.int c)] [(.int j), (.ref u)])
      refine own_via (fun _ kq => XS.iloadN X24_.here hx rfl (hb hby own_d515) rfl kq) ?_
      show own_Fin _ _ _ _ _ _ _ T24_ (mkF m 72 #[.val (.ref b), .val (.int c)] [(.int c), (.int j), (.ref u)])
      have q26_ : b ≠ u := Nat.ne_of_lt (Nat.lt_of_lt_of_le Eb.lt r19_)
      have g27_ : n0 ≤ u := Nat.le_trans Z0 r19_
      obtain ⟨_, _, ⟨T25_, L25_, k25_, n25_⟩, -, X25_, ⟨Lc25_, hQ25_, l25_, y25_, z25_⟩, st25_⟩ := Jvm.LawKit.callS X24_ hx (y := (⟨"java/lang/StringUTF16", "putCharSB", "([BII)V"⟩ : MethodName)) hown (mvT hZ (own_w hw 223 rfl)) (mvT hZ (own_w hw 224 rfl)) (mvT hZ (own_w hw 129 rfl)) (mvT hZ (own_w hw 225 rfl)) (by decide) (backOf (W := 0) (own_rm_putSB l Z a0 hw [] u ku (Int32.ofNat (2 * n)) ws c fm j i n h24_ n0 (Nat.le_trans Z0 (Nat.le_trans K13_.1 (Keep.of_wr W24_).1)) ((O0.keep K13_ (allS gb all0)).wr W24_ gb) S2 r_fm S3 S4 S5 (r20_.other W24_ (Ne.symm q26_)) g27_ hj hi (by omega) rfl hx_.1) hZ (own_w hw 225 rfl) (own_w hw 129 rfl) (by decide) (by decide)) (g := (mkF m 72 #[.val (.ref b), .val (.int c)] [(.int c), (.int j), (.ref u)])) rfl (by rw [hml]; rfl) (argsL := [(.ref u), (.int j), (.int c)]) (rest := []) (lenOf own_pd9 rfl) rfl (by show 2 * 0 + _ ≤ _; exact Nat.le_of_eq rfl) (hb hby own_d516) (fun _ _ => ⟨rfl, e24_, (by decide : 0 + 0 + 0 + 0 + 0 + 1 + 0 ≤ _), (by decide : 0 + 0 + 0 + 0 + 0 + 8 + 0 ≤ _)⟩)
      dsimp only [Pt.U, Pt.locs, Pt.cells, Pt.slots] at X25_ l25_ y25_ z25_ st25_ hQ25_
      subst l25_ y25_ z25_
      obtain ⟨rfl, Nq25_, K25_, r28_⟩ := hQ25_
      have N25_ := Fr.app N24_ Nq25_
      refine own_via (fun _ kq => st25_ _ kq) ?_
      show own_Fin _ _ _ _ _ _ _ T25_ (mkF m 75 #[.val (.ref b), .val (.int c)] [])
      refine own_via (fun _ kq => XS.aloadN X25_.here hx rfl (hb hby own_d499) rfl rfl kq) ?_
      show own_Fin _ _ _ _ _ _ _ T25_ (mkF m 76 #[.val (.ref b), .val (.int c)] [(.ref b)])
      have f29_ := ((r15_.other W24_ (Or.inr (slot_ne (Or.inl (own_w hw 60 rfl)) (Or.inl (own_w hw 107 rfl)) (by decide) (t := (.array .byte)) (t' := .int) (by decide) (by decide)))).keep K25_ (ninS q26_ nin0))
      have f30_ := ((r16_.other W24_ (Or.inr (slot_ne (Or.inl (own_w hw 62 rfl)) (Or.inl (own_w hw 107 rfl)) (by decide) (t := .byte) (t' := .int) (by decide) (by decide)))).keep K25_ (ninS q26_ nin0))
      have f31_ := ((r18_.other W24_ (Or.inr (slot_ne (Or.inl (own_w hw 231 rfl)) (Or.inl (own_w hw 107 rfl)) (by decide) (t := .boolean) (t' := .int) (by decide) (by decide)))).keep K25_ (ninS q26_ nin0))
      exact own_retA X25_ hx Bd.returns Bd.notSynchronized rfl rfl (hb hby own_d500) rfl ⟨u, ku, (1 : Int32), (Int32.ofNat (2 * n)), ((ws.set (2 * i) (.int (own_lo c))).set (2 * i + 1) (.int (own_hi c))), rfl, N25_, ((((Keep.refl h0 [b, t]).trans K13_ (allS (Or.inl (List.mem_of_getElem? (i := 0) rfl)) all0)).wr W24_ (Or.inl (List.mem_of_getElem? (i := 0) rfl))).trans K25_ (allS (Or.inr r19_) all0)), ((r14_.wr W24_).keep K25_), f29_, f30_, (Fw24_.keep K25_ (ninS q26_ nin0)), f31_, r28_, ((r21_.wr W24_).keep K25_), (own_sb_infl hx_.1 hx_.2 hi hdc hc), (Or.inr r19_)⟩ (by decide) (by decide)
    · refine own_via (fun _ kq => XS.ifNo X4_.here hx rfl (hb hby own_d485) rfl ((if0 _ _).trans (feq h2).1) kq) ?_
      show own_Fin _ _ _ _ _ _ _ T4_ (mkF m 24 #[.val (.ref b), .val (.int c)] [])
      have hc : ¬ (255 : Int32) < c := (hq2.resolve_right fun z => h2 z.1).2
      refine own_via (fun _ kq => XS.aloadN X4_.here hx rfl (hb hby own_d486) rfl rfl kq) ?_
      show own_Fin _ _ _ _ _ _ _ T4_ (mkF m 25 #[.val (.ref b), .val (.int c)] [(.ref b)])
      obtain ⟨T5_, X5_, e5_, st5_⟩ := getF X4_ hx hZ hown (host := "") (Or.inl (own_w hw 59 rfl)) Via.refl hh4_ Fv (g := (mkF m 25 #[.val (.ref b), .val (.int c)] [(.ref b)])) rfl rfl (hb hby own_d487)
      refine own_via (fun _ kq => st5_ _ kq) ?_
      show own_Fin _ _ _ _ _ _ _ T5_ (mkF m 28 #[.val (.ref b), .val (.int c)] [(.ref t)])
      refine own_via (fun _ kq => XS.aloadN X5_.here hx rfl (hb hby own_d488) rfl rfl kq) ?_
      refine own_via (fun _ kq => XS.dup X5_.here hx rfl (hb hby own_d489) rfl rfl kq) ?_
      show own_Fin _ _ _ _ _ _ _ T5_ (mkF m 30 #[.val (.ref b), .val (.int c)] [(.ref b), (.ref b), (.ref t)])
      obtain ⟨T6_, X6_, e6_, st6_⟩ := getF X5_ hx hZ hown (host := "") (Or.inl (own_w hw 106 rfl)) Via.refl e5_ Fn (g := (mkF m 30 #[.val (.ref b), .val (.int c)] [(.ref b), (.ref b), (.ref t)])) rfl rfl (hb hby own_d490)
      refine own_via (fun _ kq => st6_ _ kq) ?_
      show own_Fin _ _ _ _ _ _ _ T6_ (mkF m 33 #[.val (.ref b), .val (.int c)] [(.int j), (.ref b), (.ref t)])
      refine own_via (fun _ kq => XS.dupX1 X6_.here hx rfl (hb hby own_d491) rfl rfl rfl kq) ?_
      refine own_via (fun _ kq => XS.iconst X6_.here hx rfl (hb hby own_d492) kq) ?_
      refine own_via (fun _ kq => XS.iadd X6_.here hx rfl (hb hby own_d493) rfl kq) ?_
      show own_Fin _ _ _ _ _ _ _ T6_ (mkF m 36 #[.val (.ref b), .val (.int c)] [(.int (j + (1 : Int32))), (.ref b), (.int j), (.ref t)])
      obtain ⟨T7_, h7_, X7_, e7_, W7_, st7_⟩ := putF X6_ hx hZ hown (host := "") (Or.inl (own_w hw 106 rfl)) Via.refl e6_ Fn Eb (Or.inl (own_w hw 107 rfl)) (own_w hw 35 rfl) (ty := .int) (by decide) rfl rfl (g := (mkF m 36 #[.val (.ref b), .val (.int c)] [(.int (j + (1 : Int32))), (.ref b), (.int j), (.ref t)])) rfl rfl (hb hby own_d494)
      have Fw7_ := Fn.same W7_
      have N7_ := Fr.snoc X7_ N4_ gb
      refine own_via (fun _ kq => st7_ _ kq) ?_
      show own_Fin _ _ _ _ _ _ _ T7_ (mkF m 39 #[.val (.ref b), .val (.int c)] [(.int j), (.ref t)])
      refine own_via (fun _ kq => XS.iloadN X7_.here hx rfl (hb hby own_d495) rfl kq) ?_
      refine own_via (fun _ kq => XS.i2b X7_.here hx rfl (hb hby own_d496) rfl kq) ?_
      show own_Fin _ _ _ _ _ _ _ T7_ (mkF m 41 #[.val (.ref b), .val (.int c)] [(.int (c.toInt8.toInt32)), (.int j), (.ref t)])
      obtain ⟨c8_, Ar8_, q8_, S8_, M8_, H8_, G8_⟩ := (id (Va.other W7_ (ne_exa Et Eb (by decide))))
      have hin8_ : ¬ (j < 0 ∨ c8_.slots.size ≤ (j).toNatClampNeg) := inb_of S8_ (own_inb hj hA.1 hi (by omega))
      obtain ⟨T8_, h8_, X8_, e8_, W8_, st8_⟩ := stB X7_ hx hZ e7_ Ar8_ (j := j) hin8_ (g := (mkF m 41 #[.val (.ref b), .val (.int c)] [(.int (c.toInt8.toInt32)), (.int j), (.ref t)])) rfl rfl (hb hby own_d497)
      have V8_ := Arv.set Ar8_ q8_ S8_ M8_ H8_ G8_ (fits_nar_byte _) W8_ i (own_clamp hj (by omega)) (by have := hA.2.1; omega)
      have U8_ : Arv Z h8_ t kt .byte N2 ((vs).set i (.int (own_lo c))) (.int 0) := by
        have hq := V8_
        rw [show (c.toInt8.toInt32).toInt8.toInt32 = (own_lo c) from (own_st1 _)] at hq
        exact hq
      have N8_ := Fr.snoc X8_ N7_ gt
      refine own_via (fun _ kq => st8_ _ kq) ?_
      show own_Fin _ _ _ _ _ _ _ T8_ (mkF m 42 #[.val (.ref b), .val (.int c)] [])
      refine own_via (fun _ kq => XS.goto X8_.here hx rfl (pc0 := 42) (pc' := 75) rfl (hb hby own_d498) (by decide) (by decide) kq) ?_
      refine own_via (fun _ kq => XS.aloadN X8_.here hx rfl (hb hby own_d499) rfl rfl kq) ?_
      show own_Fin _ _ _ _ _ _ _ T8_ (mkF m 76 #[.val (.ref b), .val (.int c)] [(.ref b)])
      have f9_ := ((Fv.other W7_ (Or.inr (slot_ne (Or.inl (own_w hw 60 rfl)) (Or.inl (own_w hw 107 rfl)) (by decide) (t := (.array .byte)) (t' := .int) (by decide) (by decide)))).other W8_ (Or.inl (ne_exa Eb Et (by decide))))
      have f10_ := ((Fc.other W7_ (Or.inr (slot_ne (Or.inl (own_w hw 62 rfl)) (Or.inl (own_w hw 107 rfl)) (by decide) (t := .byte) (t' := .int) (by decide) (by decide)))).other W8_ (Or.inl (ne_exa Eb Et (by decide))))
      have f11_ := ((Fm.other W7_ (Or.inr (slot_ne (Or.inl (own_w hw 231 rfl)) (Or.inl (own_w hw 107 rfl)) (by decide) (t := .boolean) (t' := .int) (by decide) (by decide)))).other W8_ (Or.inl (ne_exa Eb Et (by decide))))
      exact own_retA X8_ hx Bd.returns Bd.notSynchronized rfl rfl (hb hby own_d500) e8_ ⟨t, kt, cd, N2, (vs.set i (.int (own_lo c))), rfl, N8_, (((Keep.refl h0 [b, t]).wr W7_ (Or.inl (List.mem_of_getElem? (i := 0) rfl))).wr W8_ (Or.inl (List.mem_of_getElem? (i := 1) rfl))), ((Eb.wr W7_).wr W8_), f9_, f10_, (Fw7_.other W8_ (Or.inl (ne_exa Eb Et (by decide)))), f11_, U8_, ((Et.wr W7_).wr W8_), (own_sb_put hsb hd hi hdc hc), (Or.inl rfl)⟩ (by decide) (by decide)
theorem own_d517 : decode jdk_67_method_14_code 0 = .ok (.aload_n 0, 1) := by decide +kernel
theorem own_d518 : decode jdk_67_method_14_code 1 = .ok (.iload_n 1, 1) := by decide +kernel
theorem own_d519 : decode jdk_67_method_14_code 2 = .ok (.invokespecial 50, 3) := by decide +kernel
theorem own_pd25 : parseMethodDescriptor "(C)Ljava/lang/AbstractStringBuilder;" = some ⟨[.char], some (.object "java/lang/AbstractStringBuilder")⟩ := by decide +kernel
theorem own_d520 : decode jdk_67_method_14_code 5 = .ok (.pop, 1) := by decide +kernel
theorem own_d521 : decode jdk_67_method_14_code 6 = .ok (.aload_n 0, 1) := by decide +kernel
theorem own_d522 : decode jdk_67_method_14_code 7 = .ok (.areturn, 1) := by decide +kernel
theorem own_ef_sbApp (m : MethodId) (b : Addr) (c : Int32) : entryFrame m #[(.ref b), (.int c)] 2 = mkF m 0 #[.val (.ref b), .val (.int c)] [] := by (first | (simp [entryFrame, mkF, argsToLocals, Value.category]; done) | rfl)
def own_Q_sbApp (Z : State) (b : Addr) (c : Int32) (t : Addr) (kt : ClassId) (cd : Int32) (N2 : Int32) (vs : List Value) (j : Int32) (ds : List Int32) (i : Nat) (n : Nat) (cz : Int32) (fm : Value) (h0 : Heap) (n0 : Nat) (vq : Option Value) (h : Heap) (Lq : List Loc) : Prop := ∃ (u : Addr) (ku : ClassId) (cd2 : Int32) (M2 : Int32) (ws : List Value), (vq = some (.ref b)) ∧ (Fr n0 Lq) ∧ (Keep h0 h [b, t]) ∧ (Exa Z h b "java/lang/StringBuilder") ∧ (Fld Z h b "java/lang/AbstractStringBuilder" "value" "[B" (.ref u)) ∧ (Fld Z h b "java/lang/AbstractStringBuilder" "coder" "B" (.int cd2)) ∧ (Fld Z h b "java/lang/AbstractStringBuilder" "count" "I" (.int (j + (1 : Int32)))) ∧ (Fld Z h b "java/lang/AbstractStringBuilder" "maybeLatin1" "Z" (.int (0 : Int32))) ∧ (Arv Z h u ku .byte M2 ws (.int 0)) ∧ (Exa Z h u "[B") ∧ (own_sbp ds (i + 1) n cd2 M2 ws) ∧ (u = t ∨ h0.size ≤ u)
abbrev own_R_sbApp : Room := { frames := 7, cells := 1, slots := 8, locals := 102 }
set_option maxRecDepth 65536 in
set_option maxHeartbeats 40000000 in
theorem own_rm_sbApp (l : Launch) (Z : State) (a0 : Array Value) (hw : ∀ d ∈ tables_1, d.before a0 Z = true) (wsq : List Jvm.Cond) (b : Addr) (c : Int32) (t : Addr) (kt : ClassId) (cd : Int32) (N2 : Int32) (vs : List Value) (j : Int32) (ds : List Int32) (i : Nat) (n : Nat) (cz : Int32) (fm : Value) (h0 : Heap) (n0 : Nat) (Z0 : n0 ≤ h0.size) (O0 : Old Z n0 h0) (S1 : Sta Z Z.heap "java/lang/String" "COMPACT_STRINGS" "Z" (.int cz)) (P5 : ¬ cz = (0 : Int32)) (S2 : Sta Z Z.heap "jdk/internal/util/Preconditions" "SIOOBE_FORMATTER" "Ljava/util/function/BiFunction;" fm) (r_fm : fm.isRef = true) (S3 : Sta Z Z.heap "java/lang/StringUTF16" "$assertionsDisabled" "Z" (.int (1 : Int32))) (S4 : Sta Z Z.heap "java/lang/StringUTF16" "HI_BYTE_SHIFT" "I" (.int (0 : Int32))) (S5 : Sta Z Z.heap "java/lang/StringUTF16" "LO_BYTE_SHIFT" "I" (.int (8 : Int32))) (Eb : Exa Z h0 b "java/lang/StringBuilder") (Fv : Fld Z h0 b "java/lang/AbstractStringBuilder" "value" "[B" (.ref t)) (Fc : Fld Z h0 b "java/lang/AbstractStringBuilder" "coder" "B" (.int cd)) (Fn : Fld Z h0 b "java/lang/AbstractStringBuilder" "count" "I" (.int j)) (Fm : Fld Z h0 b "java/lang/AbstractStringBuilder" "maybeLatin1" "Z" (.int (0 : Int32))) (Va : Arv Z h0 t kt .byte N2 vs (.int 0)) (Et : Exa Z h0 t "[B") (gb : n0 ≤ b) (gt : n0 ≤ t) (hj : j = Int32.ofNat i) (hi : i < n) (hn : n ≤ 4) (hsb : own_sbp ds i n cd N2 vs) (hr : own_chs ds) (hdc : ds.getD i 0 = c) :
    MetFree l (⟨"java/lang/StringBuilder", "append", "(C)Ljava/lang/StringBuilder;"⟩ : MethodName) (head1 (Jvm.Cond.code (⟨"java/lang/StringBuilder", "append", "(C)Ljava/lang/StringBuilder;"⟩ : MethodName) jdk_67_method_14_code 2 (some (.object "java/lang/StringBuilder")) :: wsq) own_R_sbApp) (fun aq Uq => aq = #[(.ref b), (.int c)] ∧ Z.Warmed39 Uq.vm ∧ Uq.heap = h0) (fun _ _ _ _ _ => True) (fun _ Uq oq Uq' => ∃ vq Lq, oq = .returned vq ∧ own_Q_sbApp Z b c t kt cd N2 vs j ds i n cz fm h0 n0 vq Uq'.heap Lq ∧ FrameEnd Uq oq Uq' Lq own_R_sbApp.cells own_R_sbApp.slots) := by
  refine MetFree.of_bodySF (plainFor_of_name own_pn5) hisR ?_
  intro p e s m args below meth cde s₁ Bd hml0 hP hK
  obtain ⟨rfl, hZ, hh⟩ := hP
  have hx := Bd.exec
  have hby := Bd.bytes
  have hml : cde.maxLocals = 2 := hml0
  have hown : s.vm.findClass "java/lang/StringBuilder" = some m.cls := findClass_of_methodNamed Bd.named
  have hnm := (name_of_methodNamed Bd.named Bd.method).1
  have X0 : Stand p l e own_R_sbApp s m #[(.ref b), (.int c)] below meth cde s₁ [] 0 0 := Stand.of_body Bd
  have e0 : s₁.heap = h0 := by rw [← hh, Bd.state]; rfl
  have N0 := Fr.nil n0
  show own_Fin p e s below (own_Q_sbApp Z b c t kt cd N2 vs j ds i n cz fm h0 n0) own_R_sbApp.cells own_R_sbApp.slots s₁ (entryFrame m #[(.ref b), (.int c)] 2)
  rw [own_ef_sbApp m b c]
  refine own_via (fun _ kq => XS.aloadN X0.here hx rfl (hb hby own_d517) rfl rfl kq) ?_
  refine own_via (fun _ kq => XS.iloadN X0.here hx rfl (hb hby own_d518) rfl kq) ?_
  show own_Fin _ _ _ _ _ _ _ s₁ (mkF m 2 #[.val (.ref b), .val (.int c)] [(.int c), (.ref b)])
  obtain ⟨_, _, ⟨T1_, L1_, k1_, n1_⟩, -, X1_, ⟨Lc1_, hQ1_, l1_, y1_, z1_⟩, st1_⟩ := superBack X0 hx hZ (y := (⟨"java/lang/AbstractStringBuilder", "append", "(C)Ljava/lang/AbstractStringBuilder;"⟩ : MethodName)) hown (own_w hw 142 rfl) (own_same (own_w hw 143 rfl) (own_w hw 95 rfl) rfl (by decide)) (own_w hw 143 rfl) (own_w hw 104 rfl) (by decide) (backOf (W := 0) (own_rm_asbApp l Z a0 hw [] b c t kt cd N2 vs j ds i n cz fm h0 n0 Z0 O0 S1 (by first | assumption | decide) S2 r_fm S3 S4 S5 Eb Fv Fc Fn Fm Va Et gb gt hj hi hn hsb hr hdc) hZ (own_w hw 145 rfl) (own_w hw 55 rfl) (by decide) (by decide)) e0 (a := b) (Ins.self Eb) (g := (mkF m 2 #[.val (.ref b), .val (.int c)] [(.int c), (.ref b)])) rfl (by rw [hml]; rfl) (own_w hw 145 rfl) (argsL := [(.int c)]) (rest := []) (lenOf own_pd25 rfl) rfl (by show 2 * 0 + _ ≤ _; exact Nat.le_of_eq rfl) (hb hby own_d519) (fun _ _ => ⟨rfl, e0, (by decide : 0 + 1 ≤ _), (by decide : 0 + 8 ≤ _)⟩)
  dsimp only [Pt.U, Pt.locs, Pt.cells, Pt.slots] at X1_ l1_ y1_ z1_ st1_ hQ1_
  subst l1_ y1_ z1_
  obtain ⟨u, ku, cd2, M2, ws, rfl, Nq1_, K1_, r2_, r3_, r4_, r5_, r6_, r7_, r8_, hsb2, hfr⟩ := hQ1_
  have N1_ := Fr.app N0 Nq1_
  refine own_via (fun _ kq => st1_.trans kq) ?_
  show own_Fin _ _ _ _ _ _ _ T1_ (mkF m 5 #[.val (.ref b), .val (.int c)] [(.ref b)])
  refine own_via (fun _ kq => XS.pop X1_.here hx rfl (hb hby own_d520) rfl rfl kq) ?_
  refine own_via (fun _ kq => XS.aloadN X1_.here hx rfl (hb hby own_d521) rfl rfl kq) ?_
  show own_Fin _ _ _ _ _ _ _ T1_ (mkF m 7 #[.val (.ref b), .val (.int c)] [(.ref b)])
  exact own_retA X1_ hx Bd.returns Bd.notSynchronized rfl rfl (hb hby own_d522) rfl ⟨u, ku, cd2, M2, ws, rfl, N1_, ((Keep.refl h0 [b, t]).trans K1_ (allS (Or.inl (List.mem_of_getElem? (i := 0) rfl)) (allS (Or.inl (List.mem_of_getElem? (i := 1) rfl)) all0))), r2_, r3_, r4_, r5_, r6_, r7_, r8_, hsb2, hfr⟩ (by decide) (by decide)
theorem own_d523 : decode jdk_65_method_132_code 0 = .ok (.iload_n 1, 1) := by decide +kernel
theorem own_d524 : decode jdk_65_method_132_code 1 = .ok (.ifCond .ne 9, 3) := by decide +kernel
theorem own_d525 : decode jdk_65_method_132_code 4 = .ok (.iload_n 2, 1) := by decide +kernel
theorem own_d526 : decode jdk_65_method_132_code 5 = .ok (.aload_n 0, 1) := by decide +kernel
theorem own_d527 : decode jdk_65_method_132_code 6 = .ok (.arraylength, 1) := by decide +kernel
theorem own_d528 : decode jdk_65_method_132_code 7 = .ok (.if_icmp .eq 10, 3) := by decide +kernel
theorem own_d529 : decode jdk_65_method_132_code 17 = .ok (.aload_n 0, 1) := by decide +kernel
theorem own_d530 : decode jdk_65_method_132_code 18 = .ok (.invokevirtual 310, 3) := by decide +kernel
theorem own_d531 : decode jdk_65_method_132_code 21 = .ok (.checkcast 311, 3) := by decide +kernel
theorem own_d532 : decode jdk_65_method_132_code 24 = .ok (.areturn, 1) := by decide +kernel
theorem own_pn6 : plainName "java/util/Arrays" = true := by first | (simp [plainName, overriddenIn]; done) | decide +kernel
theorem own_ef_copyR (m : MethodId) (t : Addr) (N : Int32) : entryFrame m #[(.ref t), (.int (0 : Int32)), (.int N)] 3 = mkF m 0 #[.val (.ref t), .val (.int (0 : Int32)), .val (.int N)] [] := by (first | (simp [entryFrame, mkF, argsToLocals, Value.category]; done) | rfl)
def own_Q_copyR (Z : State) (t : Addr) (kt : ClassId) (N : Int32) (vs : List Value) (h0 : Heap) (n0 : Nat) (vq : Option Value) (h : Heap) (Lq : List Loc) : Prop := ∃ (u : Addr), (vq = some (.ref u)) ∧ (Fr n0 Lq) ∧ (Keep h0 h []) ∧ (h0.size ≤ u) ∧ (Arv Z h u kt .byte N vs (.int 0))
abbrev own_R_copyR : Room := { frames := 1, cells := 1, slots := 8, locals := 14 }
set_option maxRecDepth 65536 in
set_option maxHeartbeats 40000000 in
theorem own_rm_copyR (l : Launch) (Z : State) (a0 : Array Value) (hw : ∀ d ∈ tables_1, d.before a0 Z = true) (wsq : List Jvm.Cond) (t : Addr) (kt : ClassId) (N : Int32) (vs : List Value) (h0 : Heap) (n0 : Nat) (Z0 : n0 ≤ h0.size) (Va : Arv Z h0 t kt .byte N vs (.int 0)) (Et : Exa Z h0 t "[B") (hcp : N.toNatClampNeg ≤ 8) :
    MetFree l (⟨"java/util/Arrays", "copyOfRange", "([BII)[B"⟩ : MethodName) (head1 (Jvm.Cond.code (⟨"java/util/Arrays", "copyOfRange", "([BII)[B"⟩ : MethodName) jdk_65_method_132_code 3 (some (.array .byte)) :: wsq) own_R_copyR) (fun aq Uq => aq = #[(.ref t), (.int (0 : Int32)), (.int N)] ∧ Z.Warmed39 Uq.vm ∧ Uq.heap = h0) (fun _ _ _ _ _ => True) (fun _ Uq oq Uq' => ∃ vq Lq, oq = .returned vq ∧ own_Q_copyR Z t kt N vs h0 n0 vq Uq'.heap Lq ∧ FrameEnd Uq oq Uq' Lq own_R_copyR.cells own_R_copyR.slots) := by
  refine MetFree.of_bodySF (plainFor_of_name own_pn6) hisR ?_
  intro p e s m args below meth cde s₁ Bd hml0 hP hK
  obtain ⟨rfl, hZ, hh⟩ := hP
  have hx := Bd.exec
  have hby := Bd.bytes
  have hml : cde.maxLocals = 3 := hml0
  have hown : s.vm.findClass "java/util/Arrays" = some m.cls := findClass_of_methodNamed Bd.named
  have hnm := (name_of_methodNamed Bd.named Bd.method).1
  have X0 : Stand p l e own_R_copyR s m #[(.ref t), (.int (0 : Int32)), (.int N)] below meth cde s₁ [] 0 0 := Stand.of_body Bd
  have e0 : s₁.heap = h0 := by rw [← hh, Bd.state]; rfl
  have N0 := Fr.nil n0
  show own_Fin p e s below (own_Q_copyR Z t kt N vs h0 n0) own_R_copyR.cells own_R_copyR.slots s₁ (entryFrame m #[(.ref t), (.int (0 : Int32)), (.int N)] 3)
  rw [own_ef_copyR m t N]
  refine own_via (fun _ kq => XS.iloadN X0.here hx rfl (hb hby own_d523) rfl kq) ?_
  refine own_via (fun _ kq => XS.ifNo X0.here hx rfl (hb hby own_d524) rfl ((if0 _ _).trans (teq rfl).2) kq) ?_
  show own_Fin _ _ _ _ _ _ _ s₁ (mkF m 4 #[.val (.ref t), .val (.int (0 : Int32)), .val (.int N)] [])
  refine own_via (fun _ kq => XS.iloadN X0.here hx rfl (hb hby own_d525) rfl kq) ?_
  refine own_via (fun _ kq => XS.aloadN X0.here hx rfl (hb hby own_d526) rfl rfl kq) ?_
  show own_Fin _ _ _ _ _ _ _ s₁ (mkF m 6 #[.val (.ref t), .val (.int (0 : Int32)), .val (.int N)] [(.ref t), (.int N)])
  obtain ⟨c1_, Ar1_, -, S1_, M1_, -, -⟩ := (id Va)
  refine own_via (fun _ kq => X0.arraylength hx (own_eq e0 Ar1_.1) (State.isArrayOf_alike hZ.alike Ar1_.2.1) (g := (mkF m 6 #[.val (.ref t), .val (.int (0 : Int32)), .val (.int N)] [(.ref t), (.int N)])) rfl rfl (hb hby own_d527) _ (by rw [len_of S1_ M1_]; exact kq)) ?_
  show own_Fin _ _ _ _ _ _ _ s₁ (mkF m 7 #[.val (.ref t), .val (.int (0 : Int32)), .val (.int N)] [(.int N), (.int N)])
  refine own_via (fun _ kq => XS.icmpYes X0.here hx rfl (pc0 := 7) (pc' := 17) rfl (hb hby own_d528) rfl (teq rfl).1 (by decide) (by decide) kq) ?_
  show own_Fin _ _ _ _ _ _ _ s₁ (mkF m 17 #[.val (.ref t), .val (.int (0 : Int32)), .val (.int N)] [])
  refine own_via (fun _ kq => XS.aloadN X0.here hx rfl (hb hby own_d529) rfl rfl kq) ?_
  show own_Fin _ _ _ _ _ _ _ s₁ (mkF m 18 #[.val (.ref t), .val (.int (0 : Int32)), .val (.int N)] [(.ref t)])
  obtain ⟨T2_, h2_, X2_, e2_, E2_, V2_, Ea2_, st2_⟩ := own_cloneV X0 hx hZ hown (own_w hw 117 rfl) (own_w hw 118 rfl) (own_w hw 122 rfl) (own_w hw 120 rfl) (own_w hw 121 rfl) (own_w hw 123 rfl) e0 Va Et (g := (mkF m 18 #[.val (.ref t), .val (.int (0 : Int32)), .val (.int N)] [(.ref t)])) rfl (by rw [hml]; rfl) rfl (hb hby own_d530) (by decide) (W := 0) (cap := 8) (by show 2 * 0 + _ ≤ _; exact Nat.le_of_eq rfl) (by decide) hcp (by decide) (by decide)
  obtain ⟨b2_, g2_⟩ : ∃ z, z = h0.size := ⟨_, rfl⟩
  rw [← g2_] at V2_ Ea2_ st2_
  refine own_via (fun _ kq => st2_ _ kq) ?_
  show own_Fin _ _ _ _ _ _ _ T2_ (mkF m 21 #[.val (.ref t), .val (.int (0 : Int32)), .val (.int N)] [(.ref b2_)])
  obtain ⟨T3_, X3_, e3_, st3_⟩ := castY X2_ hx hZ hown (own_w hw 124 rfl) e2_ (Ins.self Ea2_) (g := (mkF m 21 #[.val (.ref t), .val (.int (0 : Int32)), .val (.int N)] [(.ref b2_)])) rfl rfl (hb hby own_d531)
  refine own_via (fun _ kq => st3_ _ kq) ?_
  show own_Fin _ _ _ _ _ _ _ T3_ (mkF m 24 #[.val (.ref t), .val (.int (0 : Int32)), .val (.int N)] [(.ref b2_)])
  exact own_retA X3_ hx Bd.returns Bd.notSynchronized rfl rfl (hb hby own_d532) e3_ ⟨b2_, rfl, N0, ((Keep.refl h0 []).ext E2_), (Nat.le_of_eq g2_.symm), V2_⟩ (by decide) (by decide)
theorem own_d533 : decode jdk_42_method_150_code 0 = .ok (.aload_n 0, 1) := by decide +kernel
theorem own_d534 : decode jdk_42_method_150_code 1 = .ok (.invokespecial 1, 3) := by decide +kernel
theorem own_d535 : decode jdk_42_method_150_code 4 = .ok (.aload_n 1, 1) := by decide +kernel
theorem own_d536 : decode jdk_42_method_150_code 5 = .ok (.invokevirtual 552, 3) := by decide +kernel
theorem own_pd26 : parseMethodDescriptor "()[B" = some ⟨[], some (.array .byte)⟩ := by decide +kernel
theorem own_d537 : decode jdk_42_method_150_code 8 = .ok (.astore_n 3, 1) := by decide +kernel
theorem own_d538 : decode jdk_42_method_150_code 9 = .ok (.aload_n 1, 1) := by decide +kernel
theorem own_d539 : decode jdk_42_method_150_code 10 = .ok (.invokevirtual 549, 3) := by decide +kernel
theorem own_d540 : decode jdk_42_method_150_code 13 = .ok (.istore 4, 2) := by decide +kernel
theorem own_d541 : decode jdk_42_method_150_code 15 = .ok (.aload_n 1, 1) := by decide +kernel
theorem own_d542 : decode jdk_42_method_150_code 16 = .ok (.invokevirtual 1047, 3) := by decide +kernel
theorem own_d543 : decode jdk_42_method_150_code 19 = .ok (.ifCond .eq 22, 3) := by decide +kernel
theorem own_d544 : decode jdk_42_method_150_code 22 = .ok (.aload_n 0, 1) := by decide +kernel
theorem own_d545 : decode jdk_42_method_150_code 23 = .ok (.iconst 0, 1) := by decide +kernel
theorem own_d546 : decode jdk_42_method_150_code 24 = .ok (.putfield 15, 3) := by decide +kernel
theorem own_d547 : decode jdk_42_method_150_code 27 = .ok (.aload_n 0, 1) := by decide +kernel
theorem own_d548 : decode jdk_42_method_150_code 28 = .ok (.aload_n 3, 1) := by decide +kernel
theorem own_d549 : decode jdk_42_method_150_code 29 = .ok (.iconst 0, 1) := by decide +kernel
theorem own_d550 : decode jdk_42_method_150_code 30 = .ok (.iload 4, 2) := by decide +kernel
theorem own_d551 : decode jdk_42_method_150_code 32 = .ok (.invokestatic 54, 3) := by decide +kernel
theorem own_pd27 : parseMethodDescriptor "([BII)[B" = some ⟨[(.array .byte), .int, .int], some (.array .byte)⟩ := by decide +kernel
theorem own_d552 : decode jdk_42_method_150_code 35 = .ok (.putfield 9, 3) := by decide +kernel
theorem own_d553 : decode jdk_42_method_150_code 38 = .ok (.goto 59, 3) := by decide +kernel
theorem own_d554 : decode jdk_42_method_150_code 97 = .ok (.return_, 1) := by decide +kernel
theorem own_d555 : decode jdk_42_method_150_code 41 = .ok (.getstatic 38, 3) := by decide +kernel
theorem own_d556 : decode jdk_42_method_150_code 44 = .ok (.ifCond .eq 35, 3) := by decide +kernel
theorem own_d557 : decode jdk_42_method_150_code 47 = .ok (.aload_n 1, 1) := by decide +kernel
theorem own_d558 : decode jdk_42_method_150_code 48 = .ok (.getfield 1048, 3) := by decide +kernel
theorem own_d559 : decode jdk_42_method_150_code 51 = .ok (.ifCond .eq 28, 3) := by decide +kernel
theorem own_d560 : decode jdk_42_method_150_code 79 = .ok (.aload_n 0, 1) := by decide +kernel
theorem own_d561 : decode jdk_42_method_150_code 80 = .ok (.iconst 1, 1) := by decide +kernel
theorem own_d562 : decode jdk_42_method_150_code 81 = .ok (.putfield 15, 3) := by decide +kernel
theorem own_d563 : decode jdk_42_method_150_code 84 = .ok (.aload_n 0, 1) := by decide +kernel
theorem own_d564 : decode jdk_42_method_150_code 85 = .ok (.aload_n 3, 1) := by decide +kernel
theorem own_d565 : decode jdk_42_method_150_code 86 = .ok (.iconst 0, 1) := by decide +kernel
theorem own_d566 : decode jdk_42_method_150_code 87 = .ok (.iload 4, 2) := by decide +kernel
theorem own_d567 : decode jdk_42_method_150_code 89 = .ok (.iconst 1, 1) := by decide +kernel
theorem own_d568 : decode jdk_42_method_150_code 90 = .ok (.ishl, 1) := by decide +kernel
theorem own_d569 : decode jdk_42_method_150_code 91 = .ok (.invokestatic 54, 3) := by decide +kernel
theorem own_d570 : decode jdk_42_method_150_code 94 = .ok (.putfield 9, 3) := by decide +kernel
theorem own_ef_sFromA (m : MethodId) (a1 : Addr) (b : Addr) : entryFrame m #[(.ref a1), (.ref b), .null] 5 = mkF m 0 #[.val (.ref a1), .val (.ref b), .val .null, .unset, .unset] [] := by (first | (simp [entryFrame, mkF, argsToLocals, Value.category]; done) | rfl)
def own_Q_sFromA (Z : State) (a1 : Addr) (u1 : Value) (u2 : Value) (b : Addr) (t : Addr) (kt : ClassId) (cd : Int32) (N2 : Int32) (vs : List Value) (j : Int32) (ds : List Int32) (cz : Int32) (h0 : Heap) (n0 : Nat) (vq : Option Value) (h : Heap) (Lq : List Loc) : Prop := ∃ (u : Addr) (ku : ClassId) (cd2 : Int32) (M2 : Int32) (ws : List Value), (vq = none) ∧ (Fr n0 Lq) ∧ (Keep h0 h [a1]) ∧ (Exa Z h a1 "java/lang/String") ∧ (Fld Z h a1 "java/lang/String" "coder" "B" (.int cd2)) ∧ (Fld Z h a1 "java/lang/String" "value" "[B" (.ref u)) ∧ (h0.size ≤ u) ∧ (Arv Z h u ku .byte M2 ws (.int 0)) ∧ (own_cod ds cd2 M2 ws)
abbrev own_R_sFromA : Room := { frames := 2, cells := 1, slots := 8, locals := 29 }
set_option maxRecDepth 65536 in
set_option maxHeartbeats 40000000 in
theorem own_rm_sFromA (l : Launch) (Z : State) (a0 : Array Value) (hw : ∀ d ∈ tables_1, d.before a0 Z = true) (wsq : List Jvm.Cond) (a1 : Addr) (u1 : Value) (u2 : Value) (b : Addr) (t : Addr) (kt : ClassId) (cd : Int32) (N2 : Int32) (vs : List Value) (j : Int32) (ds : List Int32) (cz : Int32) (h0 : Heap) (n0 : Nat) (Z0 : n0 ≤ h0.size) (O0 : Old Z n0 h0) (S1 : Sta Z Z.heap "java/lang/String" "COMPACT_STRINGS" "Z" (.int cz)) (P5 : ¬ cz = (0 : Int32)) (E1 : Exa Z h0 a1 "java/lang/String") (F1 : Fld Z h0 a1 "java/lang/String" "value" "[B" u1) (F2 : Fld Z h0 a1 "java/lang/String" "coder" "B" u2) (g1 : n0 ≤ a1) (Eb : Exa Z h0 b "java/lang/StringBuilder") (Fv : Fld Z h0 b "java/lang/AbstractStringBuilder" "value" "[B" (.ref t)) (Fc : Fld Z h0 b "java/lang/AbstractStringBuilder" "coder" "B" (.int cd)) (Fn : Fld Z h0 b "java/lang/AbstractStringBuilder" "count" "I" (.int j)) (Fm : Fld Z h0 b "java/lang/AbstractStringBuilder" "maybeLatin1" "Z" (.int (0 : Int32))) (Va : Arv Z h0 t kt .byte N2 vs (.int 0)) (Et : Exa Z h0 t "[B") (hj : j = Int32.ofNat ds.length) (hn : ds.length ≤ 4) (hsb : own_sbp ds ds.length ds.length cd N2 vs) :
    MetFree l (⟨"java/lang/String", "<init>", "(Ljava/lang/AbstractStringBuilder;Ljava/lang/Void;)V"⟩ : MethodName) (head1 (Jvm.Cond.code (⟨"java/lang/String", "<init>", "(Ljava/lang/AbstractStringBuilder;Ljava/lang/Void;)V"⟩ : MethodName) jdk_42_method_150_code 5 none :: wsq) own_R_sFromA) (fun aq Uq => aq = #[(.ref a1), (.ref b), .null] ∧ Z.Warmed39 Uq.vm ∧ Uq.heap = h0) (fun _ _ _ _ _ => True) (fun _ Uq oq Uq' => ∃ vq Lq, oq = .returned vq ∧ own_Q_sFromA Z a1 u1 u2 b t kt cd N2 vs j ds cz h0 n0 vq Uq'.heap Lq ∧ FrameEnd Uq oq Uq' Lq own_R_sFromA.cells own_R_sFromA.slots) := by
  refine MetFree.of_bodySF (plainFor_of_name own_pn0) hisR ?_
  intro p e s m args below meth cde s₁ Bd hml0 hP hK
  obtain ⟨rfl, hZ, hh⟩ := hP
  have hx := Bd.exec
  have hby := Bd.bytes
  have hml : cde.maxLocals = 5 := hml0
  have hown : s.vm.findClass "java/lang/String" = some m.cls := findClass_of_methodNamed Bd.named
  have hnm := (name_of_methodNamed Bd.named Bd.method).1
  have X0 : Stand p l e own_R_sFromA s m #[(.ref a1), (.ref b), .null] below meth cde s₁ [] 0 0 := Stand.of_body Bd
  have e0 : s₁.heap = h0 := by rw [← hh, Bd.state]; rfl
  have N0 := Fr.nil n0
  show own_Fin p e s below (own_Q_sFromA Z a1 u1 u2 b t kt cd N2 vs j ds cz h0 n0) own_R_sFromA.cells own_R_sFromA.slots s₁ (entryFrame m #[(.ref a1), (.ref b), .null] 5)
  rw [own_ef_sFromA m a1 b]
  refine own_via (fun _ kq => XS.aloadN X0.here hx rfl (hb hby own_d533) rfl rfl kq) ?_
  show own_Fin _ _ _ _ _ _ _ s₁ (mkF m 1 #[.val (.ref a1), .val (.ref b), .val .null, .unset, .unset] [(.ref a1)])
  obtain ⟨T1_, X1_, e1_, st1_⟩ := initO X0 hx hZ hown (own_w hw 19 rfl) (own_w hw 20 rfl) (own_w hw 21 rfl) e0 (g := (mkF m 1 #[.val (.ref a1), .val (.ref b), .val .null, .unset, .unset] [(.ref a1)])) rfl (by rw [hml]; rfl) rfl (hb hby own_d534) (by decide) (W := 0) (by show 2 * 0 + _ ≤ _; exact Nat.le_of_eq rfl) (by decide)
  refine own_via (fun _ kq => st1_ _ kq) ?_
  show own_Fin _ _ _ _ _ _ _ T1_ (mkF m 4 #[.val (.ref a1), .val (.ref b), .val .null, .unset, .unset] [])
  refine own_via (fun _ kq => XS.aloadN X1_.here hx rfl (hb hby own_d535) rfl rfl kq) ?_
  show own_Fin _ _ _ _ _ _ _ T1_ (mkF m 5 #[.val (.ref a1), .val (.ref b), .val .null, .unset, .unset] [(.ref b)])
  obtain ⟨cq2_, kq2_, q2_a, q2_b, q2_c⟩ := isOf hZ e1_ Eb
  obtain ⟨_, _, ⟨T2_, L2_, k2_, n2_⟩, -, X2_, ⟨Lc2_, hQ2_, l2_, y2_, z2_⟩, st2_⟩ := X1_.virtualBack hx (y := (⟨"java/lang/AbstractStringBuilder", "getValue", "()[B"⟩ : MethodName)) (z := (⟨"java/lang/AbstractStringBuilder", "getValue", "()[B"⟩ : MethodName)) hown (mvT hZ (own_w hw 92 rfl)) (mvT hZ (own_w hw 93 rfl)) (notFace_of_selects (args := #[]) (mvT hZ (own_w hw 95 rfl))) (mvT hZ (own_w hw 95 rfl)) (mvT hZ (own_w hw 94 rfl)) (by decide) (backOf (W := 0) (own_rm_getV l Z a0 hw [] b t h0 n0 Z0 Fv) hZ (own_w hw 96 rfl) (own_w hw 55 rfl) (by decide) (by decide)) q2_a q2_c (g := (mkF m 5 #[.val (.ref a1), .val (.ref b), .val .null, .unset, .unset] [(.ref b)])) rfl (by rw [hml]; rfl) (Steps.refl _) (argsL := []) (rest := []) (lenOf own_pd26 rfl) rfl (by show 2 * 0 + _ ≤ _; exact Nat.le_of_eq rfl) (hb hby own_d536) (fun _ _ => ⟨rfl, e1_, (by decide : 0 + 0 ≤ _), (by decide : 0 + 0 ≤ _)⟩)
  dsimp only [Pt.U, Pt.locs, Pt.cells, Pt.slots] at X2_ l2_ y2_ z2_ st2_ hQ2_
  subst l2_ y2_ z2_
  obtain ⟨rfl, Nq2_, hh2_⟩ := hQ2_
  have N2_ := Fr.app N0 Nq2_
  refine own_via (fun _ kq => st2_.trans kq) ?_
  show own_Fin _ _ _ _ _ _ _ T2_ (mkF m 8 #[.val (.ref a1), .val (.ref b), .val .null, .unset, .unset] [(.ref t)])
  refine own_via (fun _ kq => XS.astoreN X2_.here hx rfl (hb hby own_d537) rfl rfl (l' := #[.val (.ref a1), .val (.ref b), .val .null, .val (.ref t), .unset]) rfl kq) ?_
  refine own_via (fun _ kq => XS.aloadN X2_.here hx rfl (hb hby own_d538) rfl rfl kq) ?_
  show own_Fin _ _ _ _ _ _ _ T2_ (mkF m 10 #[.val (.ref a1), .val (.ref b), .val .null, .val (.ref t), .unset] [(.ref b)])
  obtain ⟨cq3_, kq3_, q3_a, q3_b, q3_c⟩ := isOf hZ hh2_ Eb
  obtain ⟨_, _, ⟨T3_, L3_, k3_, n3_⟩, -, X3_, ⟨Lc3_, hQ3_, l3_, y3_, z3_⟩, st3_⟩ := X2_.virtualBack hx (y := (⟨"java/lang/AbstractStringBuilder", "length", "()I"⟩ : MethodName)) (z := (⟨"java/lang/StringBuilder", "length", "()I"⟩ : MethodName)) hown (mvT hZ (own_w hw 97 rfl)) (mvT hZ (own_w hw 98 rfl)) (own_notFace (args := #[]) (mvT hZ (own_w hw 95 rfl)) rfl) (mvT hZ (own_w hw 100 rfl)) (mvT hZ (own_w hw 101 rfl)) (by decide) (backOf (W := 0) (own_rm_sbL l Z a0 hw [] b j h0 n0 Z0 Eb Fn) hZ (own_w hw 102 rfl) (own_w hw 36 rfl) (by decide) (by decide)) q3_a q3_c (g := (mkF m 10 #[.val (.ref a1), .val (.ref b), .val .null, .val (.ref t), .unset] [(.ref b)])) rfl (by rw [hml]; rfl) (Steps.refl _) (argsL := []) (rest := []) (lenOf own_pd21 rfl) rfl (by show 2 * 0 + _ ≤ _; exact Nat.le_of_eq rfl) (hb hby own_d539) (fun _ _ => ⟨rfl, hh2_, (by decide : 0 + 0 + 0 ≤ _), (by decide : 0 + 0 + 0 ≤ _)⟩)
  dsimp only [Pt.U, Pt.locs, Pt.cells, Pt.slots] at X3_ l3_ y3_ z3_ st3_ hQ3_
  subst l3_ y3_ z3_
  obtain ⟨rfl, Nq3_, hh3_⟩ := hQ3_
  have N3_ := Fr.app N2_ Nq3_
  refine own_via (fun _ kq => st3_.trans kq) ?_
  show own_Fin _ _ _ _ _ _ _ T3_ (mkF m 13 #[.val (.ref a1), .val (.ref b), .val .null, .val (.ref t), .unset] [(.int j)])
  refine own_via (fun _ kq => XS.istore X3_.here hx rfl (hb hby own_d540) rfl (l' := #[.val (.ref a1), .val (.ref b), .val .null, .val (.ref t), .val (.int j)]) rfl kq) ?_
  refine own_via (fun _ kq => XS.aloadN X3_.here hx rfl (hb hby own_d541) rfl rfl kq) ?_
  show own_Fin _ _ _ _ _ _ _ T3_ (mkF m 16 #[.val (.ref a1), .val (.ref b), .val .null, .val (.ref t), .val (.int j)] [(.ref b)])
  obtain ⟨cq4_, kq4_, q4_a, q4_b, q4_c⟩ := isOf hZ hh3_ Eb
  obtain ⟨_, _, ⟨T4_, L4_, k4_, n4_⟩, -, X4_, ⟨Lc4_, hQ4_, l4_, y4_, z4_⟩, st4_⟩ := X3_.virtualBack hx (y := (⟨"java/lang/AbstractStringBuilder", "isLatin1", "()Z"⟩ : MethodName)) (z := (⟨"java/lang/AbstractStringBuilder", "isLatin1", "()Z"⟩ : MethodName)) hown (mvT hZ (own_w hw 108 rfl)) (mvT hZ (own_w hw 109 rfl)) (notFace_of_selects (args := #[]) (mvT hZ (own_w hw 111 rfl))) (mvT hZ (own_w hw 111 rfl)) (mvT hZ (own_w hw 110 rfl)) (by decide) (backOf (W := 0) (own_rm_asbLat l Z a0 hw [] b cz cd h0 n0 Z0 O0 S1 (by first | assumption | decide) Fc) hZ (own_w hw 112 rfl) (own_w hw 55 rfl) (by decide) (by decide)) q4_a q4_c (g := (mkF m 16 #[.val (.ref a1), .val (.ref b), .val .null, .val (.ref t), .val (.int j)] [(.ref b)])) rfl (by rw [hml]; rfl) (Steps.refl _) (argsL := []) (rest := []) (lenOf own_pd6 rfl) rfl (by show 2 * 0 + _ ≤ _; exact Nat.le_of_eq rfl) (hb hby own_d542) (fun _ _ => ⟨rfl, hh3_, (by decide : 0 + 0 + 0 + 0 ≤ _), (by decide : 0 + 0 + 0 + 0 ≤ _)⟩)
  dsimp only [Pt.U, Pt.locs, Pt.cells, Pt.slots] at X4_ l4_ y4_ z4_ st4_ hQ4_
  subst l4_ y4_ z4_
  obtain ⟨r1, rfl, Nq4_, hh4_, hq1⟩ := hQ4_
  have N4_ := Fr.app N3_ Nq4_
  refine own_via (fun _ kq => st4_.trans kq) ?_
  show own_Fin _ _ _ _ _ _ _ T4_ (mkF m 19 #[.val (.ref a1), .val (.ref b), .val .null, .val (.ref t), .val (.int j)] [(.int r1)])
  rcases Classical.em (r1 = (0 : Int32)) with h1 | h1
  · refine own_via (fun _ kq => XS.ifYes X4_.here hx rfl (pc0 := 19) (pc' := 41) rfl (hb hby own_d543) rfl ((if0 _ _).trans (teq h1).1) (by decide) (by decide) kq) ?_
    show own_Fin _ _ _ _ _ _ _ T4_ (mkF m 41 #[.val (.ref a1), .val (.ref b), .val .null, .val (.ref t), .val (.int j)] [])
    have hd : ¬ cd = (0 : Int32) := (hq1.resolve_left fun z => absurd (z.1.symm.trans h1) (by decide)).2
    have hA := own_sb_u hsb hd
    obtain ⟨T13_, X13_, e13_, st13_⟩ := getS2 X4_ hx hZ hown (host := "") (Or.inl (own_w hw 47 rfl)) Via.refl hh4_ (S1.ext O0.2) (g := (mkF m 41 #[.val (.ref a1), .val (.ref b), .val .null, .val (.ref t), .val (.int j)] [])) rfl (hb hby own_d555)
    refine own_via (fun _ kq => st13_ _ kq) ?_
    show own_Fin _ _ _ _ _ _ _ T13_ (mkF m 44 #[.val (.ref a1), .val (.ref b), .val .null, .val (.ref t), .val (.int j)] [(.int cz)])
    refine own_via (fun _ kq => XS.ifNo X13_.here hx rfl (hb hby own_d556) rfl ((if0 _ _).trans (feq P5).1) kq) ?_
    show own_Fin _ _ _ _ _ _ _ T13_ (mkF m 47 #[.val (.ref a1), .val (.ref b), .val .null, .val (.ref t), .val (.int j)] [])
    refine own_via (fun _ kq => XS.aloadN X13_.here hx rfl (hb hby own_d557) rfl rfl kq) ?_
    show own_Fin _ _ _ _ _ _ _ T13_ (mkF m 48 #[.val (.ref a1), .val (.ref b), .val .null, .val (.ref t), .val (.int j)] [(.ref b)])
    obtain ⟨T14_, X14_, e14_, st14_⟩ := getF X13_ hx hZ hown (host := "") (Or.inl (own_w hw 230 rfl)) Via.refl e13_ Fm (g := (mkF m 48 #[.val (.ref a1), .val (.ref b), .val .null, .val (.ref t), .val (.int j)] [(.ref b)])) rfl rfl (hb hby own_d558)
    refine own_via (fun _ kq => st14_ _ kq) ?_
    show own_Fin _ _ _ _ _ _ _ T14_ (mkF m 51 #[.val (.ref a1), .val (.ref b), .val .null, .val (.ref t), .val (.int j)] [(.int (0 : Int32))])
    refine own_via (fun _ kq => XS.ifYes X14_.here hx rfl (pc0 := 51) (pc' := 79) rfl (hb hby own_d559) rfl ((if0 _ _).trans (teq rfl).1) (by decide) (by decide) kq) ?_
    show own_Fin _ _ _ _ _ _ _ T14_ (mkF m 79 #[.val (.ref a1), .val (.ref b), .val .null, .val (.ref t), .val (.int j)] [])
    refine own_via (fun _ kq => XS.aloadN X14_.here hx rfl (hb hby own_d560) rfl rfl kq) ?_
    refine own_via (fun _ kq => XS.iconst X14_.here hx rfl (hb hby own_d561) kq) ?_
    show own_Fin _ _ _ _ _ _ _ T14_ (mkF m 81 #[.val (.ref a1), .val (.ref b), .val .null, .val (.ref t), .val (.int j)] [(.int (1 : Int32)), (.ref a1)])
    obtain ⟨T15_, h15_, X15_, e15_, W15_, st15_⟩ := putFN X14_ hx hZ hown (own_w hw 29 rfl) Via.refl e14_ F2 E1 (Or.inr ⟨(own_w hw 25 rfl), rfl, hnm⟩) (own_w hw 9 rfl) (ty := .byte) (v' := (.int (1 : Int32))) (by decide) rfl (by decide) (g := (mkF m 81 #[.val (.ref a1), .val (.ref b), .val .null, .val (.ref t), .val (.int j)] [(.int (1 : Int32)), (.ref a1)])) rfl rfl (hb hby own_d562)
    have Fw15_ := F2.same W15_
    have N15_ := Fr.snoc X15_ N4_ g1
    refine own_via (fun _ kq => st15_ _ kq) ?_
    show own_Fin _ _ _ _ _ _ _ T15_ (mkF m 84 #[.val (.ref a1), .val (.ref b), .val .null, .val (.ref t), .val (.int j)] [])
    refine own_via (fun _ kq => XS.aloadN X15_.here hx rfl (hb hby own_d563) rfl rfl kq) ?_
    refine own_via (fun _ kq => XS.aloadN X15_.here hx rfl (hb hby own_d564) rfl rfl kq) ?_
    refine own_via (fun _ kq => XS.iconst X15_.here hx rfl (hb hby own_d565) kq) ?_
    refine own_via (fun _ kq => XS.iload X15_.here hx rfl (hb hby own_d566) rfl kq) ?_
    refine own_via (fun _ kq => XS.iconst X15_.here hx rfl (hb hby own_d567) kq) ?_
    refine own_via (fun _ kq => XS.ishl X15_.here hx rfl (hb hby own_d568) rfl kq) ?_
    show own_Fin _ _ _ _ _ _ _ T15_ (mkF m 91 #[.val (.ref a1), .val (.ref b), .val .null, .val (.ref t), .val (.int j)] [(.int (j <<< ((1 : Int32) &&& 31))), (.int (0 : Int32)), (.ref t), (.ref a1)])
    rw [show (j <<< ((1 : Int32) &&& 31)) = (Int32.ofNat (2 * ds.length)) from (own_dbl2 hj (by omega))]
    show own_Fin _ _ _ _ _ _ _ T15_ (mkF m 91 #[.val (.ref a1), .val (.ref b), .val .null, .val (.ref t), .val (.int j)] [(.int (Int32.ofNat (2 * ds.length))), (.int (0 : Int32)), (.ref t), (.ref a1)])
    have Vz : Arv Z h15_ t kt .byte (Int32.ofNat (2 * ds.length)) vs (.int 0) := by
      have q := (Va.other W15_ (ne_exa Et E1 (by decide)))
      rw [hA.1] at q
      exact q
    obtain ⟨_, _, ⟨T16_, L16_, k16_, n16_⟩, -, X16_, ⟨Lc16_, hQ16_, l16_, y16_, z16_⟩, st16_⟩ := Jvm.LawKit.callS X15_ hx (y := (⟨"java/util/Arrays", "copyOfRange", "([BII)[B"⟩ : MethodName)) hown (mvT hZ (own_w hw 113 rfl)) (mvT hZ (own_w hw 114 rfl)) (mvT hZ (own_w hw 115 rfl)) (mvT hZ (own_w hw 116 rfl)) (by decide) (backOf (W := 1) (own_rm_copyR l Z a0 hw [] t kt (Int32.ofNat (2 * ds.length)) vs h15_ n0 (Nat.le_trans Z0 (Keep.of_wr W15_).1) Vz (Et.wr W15_) (by rw [own_clamp rfl (by omega)]; omega)) hZ (own_w hw 116 rfl) (own_w hw 115 rfl) (by decide) (by decide)) (g := (mkF m 91 #[.val (.ref a1), .val (.ref b), .val .null, .val (.ref t), .val (.int j)] [(.int (Int32.ofNat (2 * ds.length))), (.int (0 : Int32)), (.ref t), (.ref a1)])) rfl (by rw [hml]; rfl) (argsL := [(.ref t), (.int (0 : Int32)), (.int (Int32.ofNat (2 * ds.length)))]) (rest := [(.ref a1)]) (lenOf own_pd27 rfl) rfl (by show 2 * 0 + _ ≤ _; exact Nat.le_of_eq rfl) (hb hby own_d569) (fun _ _ => ⟨rfl, e15_, (by decide : 0 + 0 + 0 + 0 + 1 ≤ _), (by decide : 0 + 0 + 0 + 0 + 8 ≤ _)⟩)
    dsimp only [Pt.U, Pt.locs, Pt.cells, Pt.slots] at X16_ l16_ y16_ z16_ st16_ hQ16_
    subst l16_ y16_ z16_
    obtain ⟨u, rfl, Nq16_, K16_, r17_, r18_⟩ := hQ16_
    have N16_ := Fr.app N15_ Nq16_
    refine own_via (fun _ kq => st16_ _ kq) ?_
    show own_Fin _ _ _ _ _ _ _ T16_ (mkF m 94 #[.val (.ref a1), .val (.ref b), .val .null, .val (.ref t), .val (.int j)] [(.ref u), (.ref a1)])
    have f20_ := ((F1.other W15_ (Or.inr (slot_ne (Or.inr (own_w hw 24 rfl)) (Or.inr (own_w hw 25 rfl)) (by decide) (t := (.array .byte)) (t' := .byte) (by decide) (by decide)))).keep K16_ nin0)
    obtain ⟨T19_, h19_, X19_, e19_, W19_, st19_⟩ := putF X16_ hx hZ hown (host := "") (Or.inl (own_w hw 28 rfl)) Via.refl rfl f20_ ((E1.wr W15_).keep K16_) (Or.inr ⟨(own_w hw 24 rfl), rfl, hnm⟩) (own_w hw 9 rfl) (ty := (.array .byte)) (by decide) rfl rfl (g := (mkF m 94 #[.val (.ref a1), .val (.ref b), .val .null, .val (.ref t), .val (.int j)] [(.ref u), (.ref a1)])) rfl rfl (hb hby own_d570)
    have Fw19_ := f20_.same W19_
    have N19_ := Fr.snoc X19_ N16_ g1
    refine own_via (fun _ kq => st19_ _ kq) ?_
    show own_Fin _ _ _ _ _ _ _ T19_ (mkF m 97 #[.val (.ref a1), .val (.ref b), .val .null, .val (.ref t), .val (.int j)] [])
    have f21_ := ((Fw15_.keep K16_ nin0).other W19_ (Or.inr (slot_ne (Or.inr (own_w hw 25 rfl)) (Or.inr (own_w hw 24 rfl)) (by decide) (t := .byte) (t' := (.array .byte)) (by decide) (by decide))))
    have q22_ : a1 ≠ u := Nat.ne_of_lt (Nat.lt_of_lt_of_le Fw15_.lt r17_)
    exact own_ret0 X19_ hx Bd.returns Bd.notSynchronized (hb hby own_d554) e19_ ⟨u, kt, (1 : Int32), (Int32.ofNat (2 * ds.length)), vs, rfl, N19_, ((((Keep.refl h0 [a1]).wr W15_ (Or.inl (List.mem_of_getElem? (i := 0) rfl))).trans K16_ all0).wr W19_ (Or.inl (List.mem_of_getElem? (i := 0) rfl))), (((E1.wr W15_).keep K16_).wr W19_), f21_, Fw19_, (Nat.le_trans (Keep.of_wr W15_).1 r17_), (r18_.other W19_ (Ne.symm q22_)), (Or.inr ⟨rfl, rfl, hA.2.2.1, hA.2.2.2⟩)⟩ (by decide) (by decide)
  · refine own_via (fun _ kq => XS.ifNo X4_.here hx rfl (hb hby own_d543) rfl ((if0 _ _).trans (feq h1).1) kq) ?_
    show own_Fin _ _ _ _ _ _ _ T4_ (mkF m 22 #[.val (.ref a1), .val (.ref b), .val .null, .val (.ref t), .val (.int j)] [])
    have hd : cd = (0 : Int32) := (hq1.resolve_right fun z => h1 z.1).2
    have hA := own_sb_l hsb hd
    refine own_via (fun _ kq => XS.aloadN X4_.here hx rfl (hb hby own_d544) rfl rfl kq) ?_
    refine own_via (fun _ kq => XS.iconst X4_.here hx rfl (hb hby own_d545) kq) ?_
    show own_Fin _ _ _ _ _ _ _ T4_ (mkF m 24 #[.val (.ref a1), .val (.ref b), .val .null, .val (.ref t), .val (.int j)] [(.int (0 : Int32)), (.ref a1)])
    obtain ⟨T5_, h5_, X5_, e5_, W5_, st5_⟩ := putFN X4_ hx hZ hown (own_w hw 29 rfl) Via.refl hh4_ F2 E1 (Or.inr ⟨(own_w hw 25 rfl), rfl, hnm⟩) (own_w hw 9 rfl) (ty := .byte) (v' := (.int (0 : Int32))) (by decide) rfl (by decide) (g := (mkF m 24 #[.val (.ref a1), .val (.ref b), .val .null, .val (.ref t), .val (.int j)] [(.int (0 : Int32)), (.ref a1)])) rfl rfl (hb hby own_d546)
    have Fw5_ := F2.same W5_
    have N5_ := Fr.snoc X5_ N4_ g1
    refine own_via (fun _ kq => st5_ _ kq) ?_
    show own_Fin _ _ _ _ _ _ _ T5_ (mkF m 27 #[.val (.ref a1), .val (.ref b), .val .null, .val (.ref t), .val (.int j)] [])
    refine own_via (fun _ kq => XS.aloadN X5_.here hx rfl (hb hby own_d547) rfl rfl kq) ?_
    refine own_via (fun _ kq => XS.aloadN X5_.here hx rfl (hb hby own_d548) rfl rfl kq) ?_
    refine own_via (fun _ kq => XS.iconst X5_.here hx rfl (hb hby own_d549) kq) ?_
    refine own_via (fun _ kq => XS.iload X5_.here hx rfl (hb hby own_d550) rfl kq) ?_
    show own_Fin _ _ _ _ _ _ _ T5_ (mkF m 32 #[.val (.ref a1), .val (.ref b), .val .null, .val (.ref t), .val (.int j)] [(.int j), (.int (0 : Int32)), (.ref t), (.ref a1)])
    have Vz : Arv Z h5_ t kt .byte j vs (.int 0) := by
      have q := (Va.other W5_ (ne_exa Et E1 (by decide)))
      rw [hA.1, ← hj] at q
      exact q
    obtain ⟨_, _, ⟨T6_, L6_, k6_, n6_⟩, -, X6_, ⟨Lc6_, hQ6_, l6_, y6_, z6_⟩, st6_⟩ := Jvm.LawKit.callS X5_ hx (y := (⟨"java/util/Arrays", "copyOfRange", "([BII)[B"⟩ : MethodName)) hown (mvT hZ (own_w hw 113 rfl)) (mvT hZ (own_w hw 114 rfl)) (mvT hZ (own_w hw 115 rfl)) (mvT hZ (own_w hw 116 rfl)) (by decide) (backOf (W := 1) (own_rm_copyR l Z a0 hw [] t kt j vs h5_ n0 (Nat.le_trans Z0 (Keep.of_wr W5_).1) Vz (Et.wr W5_) (by rw [own_clamp hj (by omega)]; omega)) hZ (own_w hw 116 rfl) (own_w hw 115 rfl) (by decide) (by decide)) (g := (mkF m 32 #[.val (.ref a1), .val (.ref b), .val .null, .val (.ref t), .val (.int j)] [(.int j), (.int (0 : Int32)), (.ref t), (.ref a1)])) rfl (by rw [hml]; rfl) (argsL := [(.ref t), (.int (0 : Int32)), (.int j)]) (rest := [(.ref a1)]) (lenOf own_pd27 rfl) rfl (by show 2 * 0 + _ ≤ _; exact Nat.le_of_eq rfl) (hb hby own_d551) (fun _ _ => ⟨rfl, e5_, (by decide : 0 + 0 + 0 + 0 + 1 ≤ _), (by decide : 0 + 0 + 0 + 0 + 8 ≤ _)⟩)
    dsimp only [Pt.U, Pt.locs, Pt.cells, Pt.slots] at X6_ l6_ y6_ z6_ st6_ hQ6_
    subst l6_ y6_ z6_
    obtain ⟨u, rfl, Nq6_, K6_, r7_, r8_⟩ := hQ6_
    have N6_ := Fr.app N5_ Nq6_
    refine own_via (fun _ kq => st6_ _ kq) ?_
    show own_Fin _ _ _ _ _ _ _ T6_ (mkF m 35 #[.val (.ref a1), .val (.ref b), .val .null, .val (.ref t), .val (.int j)] [(.ref u), (.ref a1)])
    have f10_ := ((F1.other W5_ (Or.inr (slot_ne (Or.inr (own_w hw 24 rfl)) (Or.inr (own_w hw 25 rfl)) (by decide) (t := (.array .byte)) (t' := .byte) (by decide) (by decide)))).keep K6_ nin0)
    obtain ⟨T9_, h9_, X9_, e9_, W9_, st9_⟩ := putF X6_ hx hZ hown (host := "") (Or.inl (own_w hw 28 rfl)) Via.refl rfl f10_ ((E1.wr W5_).keep K6_) (Or.inr ⟨(own_w hw 24 rfl), rfl, hnm⟩) (own_w hw 9 rfl) (ty := (.array .byte)) (by decide) rfl rfl (g := (mkF m 35 #[.val (.ref a1), .val (.ref b), .val .null, .val (.ref t), .val (.int j)] [(.ref u), (.ref a1)])) rfl rfl (hb hby own_d552)
    have Fw9_ := f10_.same W9_
    have N9_ := Fr.snoc X9_ N6_ g1
    refine own_via (fun _ kq => st9_ _ kq) ?_
    show own_Fin _ _ _ _ _ _ _ T9_ (mkF m 38 #[.val (.ref a1), .val (.ref b), .val .null, .val (.ref t), .val (.int j)] [])
    refine own_via (fun _ kq => XS.goto X9_.here hx rfl (pc0 := 38) (pc' := 97) rfl (hb hby own_d553) (by decide) (by decide) kq) ?_
    show own_Fin _ _ _ _ _ _ _ T9_ (mkF m 97 #[.val (.ref a1), .val (.ref b), .val .null, .val (.ref t), .val (.int j)] [])
    have f11_ := ((Fw5_.keep K6_ nin0).other W9_ (Or.inr (slot_ne (Or.inr (own_w hw 25 rfl)) (Or.inr (own_w hw 24 rfl)) (by decide) (t := .byte) (t' := (.array .byte)) (by decide) (by decide))))
    have q12_ : a1 ≠ u := Nat.ne_of_lt (Nat.lt_of_lt_of_le Fw5_.lt r7_)
    exact own_ret0 X9_ hx Bd.returns Bd.notSynchronized (hb hby own_d554) e9_ ⟨u, kt, (0 : Int32), j, vs, rfl, N9_, ((((Keep.refl h0 [a1]).wr W5_ (Or.inl (List.mem_of_getElem? (i := 0) rfl))).trans K6_ all0).wr W9_ (Or.inl (List.mem_of_getElem? (i := 0) rfl))), (((E1.wr W5_).keep K6_).wr W9_), f11_, Fw9_, (Nat.le_trans (Keep.of_wr W5_).1 r7_), (r8_.other W9_ (Ne.symm q12_)), (Or.inl ⟨rfl, hj, hA.2.2⟩)⟩ (by decide) (by decide)
theorem own_d571 : decode jdk_42_method_53_code 0 = .ok (.aload_n 0, 1) := by decide +kernel
theorem own_d572 : decode jdk_42_method_53_code 1 = .ok (.aload_n 1, 1) := by decide +kernel
theorem own_d573 : decode jdk_42_method_53_code 2 = .ok (.aconst_null, 1) := by decide +kernel
theorem own_d574 : decode jdk_42_method_53_code 3 = .ok (.invokespecial 489, 3) := by decide +kernel
theorem own_pd28 : parseMethodDescriptor "(Ljava/lang/AbstractStringBuilder;Ljava/lang/Void;)V" = some ⟨[(.object "java/lang/AbstractStringBuilder"), (.object "java/lang/Void")], none⟩ := by decide +kernel
theorem own_d575 : decode jdk_42_method_53_code 6 = .ok (.return_, 1) := by decide +kernel
theorem own_ef_sFromB (m : MethodId) (a1 : Addr) (b : Addr) : entryFrame m #[(.ref a1), (.ref b)] 2 = mkF m 0 #[.val (.ref a1), .val (.ref b)] [] := by (first | (simp [entryFrame, mkF, argsToLocals, Value.category]; done) | rfl)
def own_Q_sFromB (Z : State) (a1 : Addr) (u1 : Value) (u2 : Value) (b : Addr) (t : Addr) (kt : ClassId) (cd : Int32) (N2 : Int32) (vs : List Value) (j : Int32) (ds : List Int32) (cz : Int32) (h0 : Heap) (n0 : Nat) (vq : Option Value) (h : Heap) (Lq : List Loc) : Prop := ∃ (u : Addr) (ku : ClassId) (cd2 : Int32) (M2 : Int32) (ws : List Value), (vq = none) ∧ (Fr n0 Lq) ∧ (Keep h0 h [a1]) ∧ (Exa Z h a1 "java/lang/String") ∧ (Fld Z h a1 "java/lang/String" "coder" "B" (.int cd2)) ∧ (Fld Z h a1 "java/lang/String" "value" "[B" (.ref u)) ∧ (h0.size ≤ u) ∧ (Arv Z h u ku .byte M2 ws (.int 0)) ∧ (own_cod ds cd2 M2 ws)
abbrev own_R_sFromB : Room := { frames := 3, cells := 1, slots := 8, locals := 45 }
set_option maxRecDepth 65536 in
set_option maxHeartbeats 40000000 in
theorem own_rm_sFromB (l : Launch) (Z : State) (a0 : Array Value) (hw : ∀ d ∈ tables_1, d.before a0 Z = true) (wsq : List Jvm.Cond) (a1 : Addr) (u1 : Value) (u2 : Value) (b : Addr) (t : Addr) (kt : ClassId) (cd : Int32) (N2 : Int32) (vs : List Value) (j : Int32) (ds : List Int32) (cz : Int32) (h0 : Heap) (n0 : Nat) (Z0 : n0 ≤ h0.size) (O0 : Old Z n0 h0) (S1 : Sta Z Z.heap "java/lang/String" "COMPACT_STRINGS" "Z" (.int cz)) (P5 : ¬ cz = (0 : Int32)) (E1 : Exa Z h0 a1 "java/lang/String") (F1 : Fld Z h0 a1 "java/lang/String" "value" "[B" u1) (F2 : Fld Z h0 a1 "java/lang/String" "coder" "B" u2) (g1 : n0 ≤ a1) (Eb : Exa Z h0 b "java/lang/StringBuilder") (Fv : Fld Z h0 b "java/lang/AbstractStringBuilder" "value" "[B" (.ref t)) (Fc : Fld Z h0 b "java/lang/AbstractStringBuilder" "coder" "B" (.int cd)) (Fn : Fld Z h0 b "java/lang/AbstractStringBuilder" "count" "I" (.int j)) (Fm : Fld Z h0 b "java/lang/AbstractStringBuilder" "maybeLatin1" "Z" (.int (0 : Int32))) (Va : Arv Z h0 t kt .byte N2 vs (.int 0)) (Et : Exa Z h0 t "[B") (hj : j = Int32.ofNat ds.length) (hn : ds.length ≤ 4) (hsb : own_sbp ds ds.length ds.length cd N2 vs) :
    MetFree l (⟨"java/lang/String", "<init>", "(Ljava/lang/StringBuilder;)V"⟩ : MethodName) (head1 (Jvm.Cond.code (⟨"java/lang/String", "<init>", "(Ljava/lang/StringBuilder;)V"⟩ : MethodName) jdk_42_method_53_code 2 none :: wsq) own_R_sFromB) (fun aq Uq => aq = #[(.ref a1), (.ref b)] ∧ Z.Warmed39 Uq.vm ∧ Uq.heap = h0) (fun _ _ _ _ _ => True) (fun _ Uq oq Uq' => ∃ vq Lq, oq = .returned vq ∧ own_Q_sFromB Z a1 u1 u2 b t kt cd N2 vs j ds cz h0 n0 vq Uq'.heap Lq ∧ FrameEnd Uq oq Uq' Lq own_R_sFromB.cells own_R_sFromB.slots) := by
  refine MetFree.of_bodySF (plainFor_of_name own_pn0) hisR ?_
  intro p e s m args below meth cde s₁ Bd hml0 hP hK
  obtain ⟨rfl, hZ, hh⟩ := hP
  have hx := Bd.exec
  have hby := Bd.bytes
  have hml : cde.maxLocals = 2 := hml0
  have hown : s.vm.findClass "java/lang/String" = some m.cls := findClass_of_methodNamed Bd.named
  have hnm := (name_of_methodNamed Bd.named Bd.method).1
  have X0 : Stand p l e own_R_sFromB s m #[(.ref a1), (.ref b)] below meth cde s₁ [] 0 0 := Stand.of_body Bd
  have e0 : s₁.heap = h0 := by rw [← hh, Bd.state]; rfl
  have N0 := Fr.nil n0
  show own_Fin p e s below (own_Q_sFromB Z a1 u1 u2 b t kt cd N2 vs j ds cz h0 n0) own_R_sFromB.cells own_R_sFromB.slots s₁ (entryFrame m #[(.ref a1), (.ref b)] 2)
  rw [own_ef_sFromB m a1 b]
  refine own_via (fun _ kq => XS.aloadN X0.here hx rfl (hb hby own_d571) rfl rfl kq) ?_
  refine own_via (fun _ kq => XS.aloadN X0.here hx rfl (hb hby own_d572) rfl rfl kq) ?_
  refine own_via (fun _ kq => XS.aconstNull X0.here hx rfl (hb hby own_d573) kq) ?_
  show own_Fin _ _ _ _ _ _ _ s₁ (mkF m 3 #[.val (.ref a1), .val (.ref b)] [.null, (.ref b), (.ref a1)])
  obtain ⟨_, _, ⟨T1_, L1_, k1_, n1_⟩, -, X1_, ⟨Lc1_, hQ1_, l1_, y1_, z1_⟩, st1_⟩ := X0.specialBack hx (y := (⟨"java/lang/String", "<init>", "(Ljava/lang/AbstractStringBuilder;Ljava/lang/Void;)V"⟩ : MethodName)) rfl hown (mvT hZ (own_w hw 89 rfl)) (mvT hZ (own_w hw 90 rfl)) (mvT hZ (own_w hw 91 rfl)) (by decide) (backOf (W := 0) (own_rm_sFromA l Z a0 hw [] a1 u1 u2 b t kt cd N2 vs j ds cz h0 n0 Z0 O0 S1 (by first | assumption | decide) E1 F1 F2 g1 Eb Fv Fc Fn Fm Va Et hj hn hsb) hZ (own_w hw 91 rfl) (own_w hw 10 rfl) (by decide) (by decide)) (g := (mkF m 3 #[.val (.ref a1), .val (.ref b)] [.null, (.ref b), (.ref a1)])) rfl (by rw [hml]; rfl) (Steps.refl _) (a := a1) (argsL := [(.ref b), .null]) (rest := []) (lenOf own_pd28 rfl) rfl (by show 2 * 0 + _ ≤ _; exact Nat.le_of_eq rfl) (hb hby own_d574) (fun _ _ => ⟨rfl, e0, (by decide : 0 + 1 ≤ _), (by decide : 0 + 8 ≤ _)⟩)
  dsimp only [Pt.U, Pt.locs, Pt.cells, Pt.slots] at X1_ l1_ y1_ z1_ st1_ hQ1_
  subst l1_ y1_ z1_
  obtain ⟨u, ku, cd2, M2, ws, rfl, Nq1_, K1_, r2_, r3_, r4_, r5_, r6_, hcod⟩ := hQ1_
  have N1_ := Fr.app N0 Nq1_
  refine own_via (fun _ kq => st1_.trans kq) ?_
  show own_Fin _ _ _ _ _ _ _ T1_ (mkF m 6 #[.val (.ref a1), .val (.ref b)] [])
  exact own_ret0 X1_ hx Bd.returns Bd.notSynchronized (hb hby own_d575) rfl ⟨u, ku, cd2, M2, ws, rfl, N1_, ((Keep.refl h0 [a1]).trans K1_ (allS (Or.inl (List.mem_of_getElem? (i := 0) rfl)) all0)), r2_, r3_, r4_, r5_, r6_, hcod⟩ (by decide) (by decide)
theorem own_d576 : decode jdk_67_method_42_code 0 = .ok (.new 18, 3) := by decide +kernel
theorem own_d577 : decode jdk_67_method_42_code 3 = .ok (.dup, 1) := by decide +kernel
theorem own_d578 : decode jdk_67_method_42_code 4 = .ok (.aload_n 0, 1) := by decide +kernel
theorem own_d579 : decode jdk_67_method_42_code 5 = .ok (.invokespecial 137, 3) := by decide +kernel
theorem own_pd29 : parseMethodDescriptor "(Ljava/lang/StringBuilder;)V" = some ⟨[(.object "java/lang/StringBuilder")], none⟩ := by decide +kernel
theorem own_d580 : decode jdk_67_method_42_code 8 = .ok (.areturn, 1) := by decide +kernel
theorem own_ef_sbToS (m : MethodId) (b : Addr) : entryFrame m #[(.ref b)] 1 = mkF m 0 #[.val (.ref b)] [] := by (first | (simp [entryFrame, mkF, argsToLocals, Value.category]; done) | rfl)
def own_Q_sbToS (Z : State) (b : Addr) (t : Addr) (kt : ClassId) (cd : Int32) (N2 : Int32) (vs : List Value) (j : Int32) (ds : List Int32) (cz : Int32) (h0 : Heap) (n0 : Nat) (vq : Option Value) (h : Heap) (Lq : List Loc) : Prop := ∃ (x : Addr) (u : Addr) (ku : ClassId) (cd2 : Int32) (M2 : Int32) (ws : List Value), (vq = some (.ref x)) ∧ (Fr n0 Lq) ∧ (Keep h0 h []) ∧ (h0.size ≤ x) ∧ (Exa Z h x "java/lang/String") ∧ (Fld Z h x "java/lang/String" "coder" "B" (.int cd2)) ∧ (Fld Z h x "java/lang/String" "value" "[B" (.ref u)) ∧ (Arv Z h u ku .byte M2 ws (.int 0)) ∧ (own_cod ds cd2 M2 ws)
abbrev own_R_sbToS : Room := { frames := 4, cells := 2, slots := 12, locals := 59 }
set_option maxRecDepth 65536 in
set_option maxHeartbeats 40000000 in
theorem own_rm_sbToS (l : Launch) (Z : State) (a0 : Array Value) (hw : ∀ d ∈ tables_1, d.before a0 Z = true) (wsq : List Jvm.Cond) (b : Addr) (t : Addr) (kt : ClassId) (cd : Int32) (N2 : Int32) (vs : List Value) (j : Int32) (ds : List Int32) (cz : Int32) (h0 : Heap) (n0 : Nat) (Z0 : n0 ≤ h0.size) (O0 : Old Z n0 h0) (S1 : Sta Z Z.heap "java/lang/String" "COMPACT_STRINGS" "Z" (.int cz)) (P5 : ¬ cz = (0 : Int32)) (Eb : Exa Z h0 b "java/lang/StringBuilder") (Fv : Fld Z h0 b "java/lang/AbstractStringBuilder" "value" "[B" (.ref t)) (Fc : Fld Z h0 b "java/lang/AbstractStringBuilder" "coder" "B" (.int cd)) (Fn : Fld Z h0 b "java/lang/AbstractStringBuilder" "count" "I" (.int j)) (Fm : Fld Z h0 b "java/lang/AbstractStringBuilder" "maybeLatin1" "Z" (.int (0 : Int32))) (Va : Arv Z h0 t kt .byte N2 vs (.int 0)) (Et : Exa Z h0 t "[B") (hj : j = Int32.ofNat ds.length) (hn : ds.length ≤ 4) (hsb : own_sbp ds ds.length ds.length cd N2 vs) :
    MetFree l (⟨"java/lang/StringBuilder", "toString", "()Ljava/lang/String;"⟩ : MethodName) (head1 (Jvm.Cond.code (⟨"java/lang/StringBuilder", "toString", "()Ljava/lang/String;"⟩ : MethodName) jdk_67_method_42_code 1 (some (.object "java/lang/String")) :: wsq) own_R_sbToS) (fun aq Uq => aq = #[(.ref b)] ∧ Z.Warmed39 Uq.vm ∧ Uq.heap = h0) (fun _ _ _ _ _ => True) (fun _ Uq oq Uq' => ∃ vq Lq, oq = .returned vq ∧ own_Q_sbToS Z b t kt cd N2 vs j ds cz h0 n0 vq Uq'.heap Lq ∧ FrameEnd Uq oq Uq' Lq own_R_sbToS.cells own_R_sbToS.slots) := by
  refine MetFree.of_bodySF (plainFor_of_name own_pn5) hisR ?_
  intro p e s m args below meth cde s₁ Bd hml0 hP hK
  obtain ⟨rfl, hZ, hh⟩ := hP
  have hx := Bd.exec
  have hby := Bd.bytes
  have hml : cde.maxLocals = 1 := hml0
  have hown : s.vm.findClass "java/lang/StringBuilder" = some m.cls := findClass_of_methodNamed Bd.named
  have hnm := (name_of_methodNamed Bd.named Bd.method).1
  have X0 : Stand p l e own_R_sbToS s m #[(.ref b)] below meth cde s₁ [] 0 0 := Stand.of_body Bd
  have e0 : s₁.heap = h0 := by rw [← hh, Bd.state]; rfl
  have N0 := Fr.nil n0
  show own_Fin p e s below (own_Q_sbToS Z b t kt cd N2 vs j ds cz h0 n0) own_R_sbToS.cells own_R_sbToS.slots s₁ (entryFrame m #[(.ref b)] 1)
  rw [own_ef_sbToS m b]
  obtain ⟨T1_, h1_, X1_, e1_, E1_, A1_, D1_, -, st1_⟩ := newO X0 hx hZ hown (own_w hw 85 rfl) (own_w hw 9 rfl) (own_w hw 10 rfl) e0 (g := (mkF m 0 #[.val (.ref b)] [])) rfl (hb hby own_d576) (by decide) (by decide)
  obtain ⟨b1_, g1_⟩ : ∃ z, z = h0.size := ⟨_, rfl⟩
  rw [← g1_] at A1_ D1_ st1_
  have F2_ : Fld Z h1_ b1_ "java/lang/String" "value" "[B" .null := D1_ (Or.inr (own_w hw 24 rfl)) (ty := (.array .byte)) (by decide)
  have F3_ : Fld Z h1_ b1_ "java/lang/String" "coder" "B" (.int (0 : Int32)) := D1_ (Or.inr (own_w hw 25 rfl)) (ty := .byte) (by decide)
  refine own_via (fun _ kq => st1_ _ kq) ?_
  show own_Fin _ _ _ _ _ _ _ T1_ (mkF m 3 #[.val (.ref b)] [(.ref b1_)])
  refine own_via (fun _ kq => XS.dup X1_.here hx rfl (hb hby own_d577) rfl rfl kq) ?_
  refine own_via (fun _ kq => XS.aloadN X1_.here hx rfl (hb hby own_d578) rfl rfl kq) ?_
  show own_Fin _ _ _ _ _ _ _ T1_ (mkF m 5 #[.val (.ref b)] [(.ref b), (.ref b1_), (.ref b1_)])
  have g5_ : n0 ≤ b1_ := Nat.le_trans Z0 (Nat.le_of_eq g1_.symm)
  obtain ⟨_, _, ⟨T4_, L4_, k4_, n4_⟩, -, X4_, ⟨Lc4_, hQ4_, l4_, y4_, z4_⟩, st4_⟩ := X1_.specialBack hx (y := (⟨"java/lang/String", "<init>", "(Ljava/lang/StringBuilder;)V"⟩ : MethodName)) rfl hown (mvT hZ (own_w hw 86 rfl)) (mvT hZ (own_w hw 87 rfl)) (mvT hZ (own_w hw 88 rfl)) (by decide) (backOf (W := 1) (own_rm_sFromB l Z a0 hw [] b1_ .null (.int (0 : Int32)) b t kt cd N2 vs j ds cz h1_ n0 (Nat.le_trans Z0 E1_.1) (O0.ext E1_) S1 (by first | assumption | decide) A1_ F2_ F3_ g5_ (Eb.ext E1_) (Fv.ext E1_) (Fc.ext E1_) (Fn.ext E1_) (Fm.ext E1_) (Va.ext E1_) (Et.ext E1_) hj hn hsb) hZ (own_w hw 88 rfl) (own_w hw 10 rfl) (by decide) (by decide)) (g := (mkF m 5 #[.val (.ref b)] [(.ref b), (.ref b1_), (.ref b1_)])) rfl (by rw [hml]; rfl) (Steps.refl _) (a := b1_) (argsL := [(.ref b)]) (rest := [(.ref b1_)]) (lenOf own_pd29 rfl) rfl (by show 2 * 0 + _ ≤ _; exact Nat.le_of_eq rfl) (hb hby own_d579) (fun _ _ => ⟨rfl, e1_, (by decide : 0 + 1 + 1 ≤ _), (by decide : 0 + 4 + 8 ≤ _)⟩)
  dsimp only [Pt.U, Pt.locs, Pt.cells, Pt.slots] at X4_ l4_ y4_ z4_ st4_ hQ4_
  subst l4_ y4_ z4_
  obtain ⟨u, ku, cd2, M2, ws, rfl, Nq4_, K4_, r6_, r7_, r8_, r9_, r10_, hcod⟩ := hQ4_
  have N4_ := Fr.app N0 Nq4_
  refine own_via (fun _ kq => st4_.trans kq) ?_
  show own_Fin _ _ _ _ _ _ _ T4_ (mkF m 8 #[.val (.ref b)] [(.ref b1_)])
  exact own_retA X4_ hx Bd.returns Bd.notSynchronized rfl rfl (hb hby own_d580) rfl ⟨b1_, u, ku, cd2, M2, ws, rfl, N4_, (((Keep.refl h0 []).ext E1_).trans K4_ (allS (Or.inr (Nat.le_of_eq g1_.symm)) all0)), (Nat.le_of_eq g1_.symm), r6_, r7_, r8_, r10_, hcod⟩ (by decide) (by decide)
theorem own_d581 : decode prog_7_method_3_code 0 = .ok (.new 35, 3) := by decide +kernel
theorem own_d582 : decode prog_7_method_3_code 3 = .ok (.dup, 1) := by decide +kernel
theorem own_d583 : decode prog_7_method_3_code 4 = .ok (.aload_n 0, 1) := by decide +kernel
theorem own_d584 : decode prog_7_method_3_code 5 = .ok (.invokevirtual 7, 3) := by decide +kernel
theorem own_d585 : decode prog_7_method_3_code 8 = .ok (.invokespecial 37, 3) := by decide +kernel
theorem own_d586 : decode prog_7_method_3_code 11 = .ok (.astore_n 1, 1) := by decide +kernel
theorem own_d587 : decode prog_7_method_3_code 12 = .ok (.aload_n 0, 1) := by decide +kernel
theorem own_d588 : decode prog_7_method_3_code 13 = .ok (.invokevirtual 40, 3) := by decide +kernel
theorem own_pd30 : parseMethodDescriptor "()[C" = some ⟨[], some (.array .char)⟩ := by decide +kernel
theorem own_d589 : decode prog_7_method_3_code 16 = .ok (.astore_n 2, 1) := by decide +kernel
theorem own_d590 : decode prog_7_method_3_code 17 = .ok (.aload_n 2, 1) := by decide +kernel
theorem own_d591 : decode prog_7_method_3_code 18 = .ok (.arraylength, 1) := by decide +kernel
theorem own_d592 : decode prog_7_method_3_code 19 = .ok (.istore_n 3, 1) := by decide +kernel
theorem own_d593 : decode prog_7_method_3_code 20 = .ok (.iconst 0, 1) := by decide +kernel
theorem own_d594 : decode prog_7_method_3_code 21 = .ok (.istore 4, 2) := by decide +kernel
theorem own_d595 : decode prog_7_method_3_code 23 = .ok (.iload 4, 2) := by decide +kernel
theorem own_d596 : decode prog_7_method_3_code 25 = .ok (.iload_n 3, 1) := by decide +kernel
theorem own_d597 : decode prog_7_method_3_code 26 = .ok (.if_icmp .ge 48, 3) := by decide +kernel
theorem own_d598 : decode prog_7_method_3_code 74 = .ok (.aload_n 1, 1) := by decide +kernel
theorem own_d599 : decode prog_7_method_3_code 75 = .ok (.invokevirtual 48, 3) := by decide +kernel
theorem own_pd31 : parseMethodDescriptor "()Ljava/lang/String;" = some ⟨[], some (.object "java/lang/String")⟩ := by decide +kernel
theorem own_d600 : decode prog_7_method_3_code 78 = .ok (.areturn, 1) := by decide +kernel
theorem own_pn7 : plainName "com/example/even_rows/evenrows/mapping/SqlName" = true := by first | (simp [plainName, overriddenIn]; done) | decide +kernel
theorem own_ef_fold0 (m : MethodId) (a1 : Addr) : entryFrame m #[(.ref a1)] 6 = mkF m 0 #[.val (.ref a1), .unset, .unset, .unset, .unset, .unset] [] := by (first | (simp [entryFrame, mkF, argsToLocals, Value.category]; done) | rfl)
def own_Q_fold0 (Z : State) (a1 : Addr) (cz : Int32) (t : Addr) (kt : ClassId) (cd : Int32) (N2 : Int32) (vs : List Value) (fm : Value) (h0 : Heap) (n0 : Nat) (vq : Option Value) (h : Heap) (Lq : List Loc) : Prop := ∃ (x : Addr) (u : Addr) (ku : ClassId) (cd2 : Int32) (M2 : Int32) (ws : List Value), (vq = some (.ref x)) ∧ (Fr n0 Lq) ∧ (Keep h0 h []) ∧ (h0.size ≤ x) ∧ (Exa Z h x "java/lang/String") ∧ (Fld Z h x "java/lang/String" "coder" "B" (.int cd2)) ∧ (Fld Z h x "java/lang/String" "value" "[B" (.ref u)) ∧ (Arv Z h u ku .byte M2 ws (.int 0)) ∧ (own_cod ([] : List Int32) cd2 M2 ws)
abbrev own_R_fold0 : Room := { frames := 6, cells := 5, slots := 24, locals := 85 }
set_option maxRecDepth 65536 in
set_option maxHeartbeats 40000000 in
theorem own_rm_fold0 (l : Launch) (Z : State) (a0 : Array Value) (hw : ∀ d ∈ tables_1, d.before a0 Z = true) (wsq : List Jvm.Cond) (a1 : Addr) (cz : Int32) (t : Addr) (kt : ClassId) (cd : Int32) (N2 : Int32) (vs : List Value) (fm : Value) (h0 : Heap) (n0 : Nat) (Z0 : n0 ≤ h0.size) (O0 : Old Z n0 h0) (S1 : Sta Z Z.heap "java/lang/String" "COMPACT_STRINGS" "Z" (.int cz)) (P5 : ¬ cz = (0 : Int32)) (S2 : Sta Z Z.heap "jdk/internal/util/Preconditions" "SIOOBE_FORMATTER" "Ljava/util/function/BiFunction;" fm) (r_fm : fm.isRef = true) (S3 : Sta Z Z.heap "java/lang/StringUTF16" "$assertionsDisabled" "Z" (.int (1 : Int32))) (S4 : Sta Z Z.heap "java/lang/StringUTF16" "HI_BYTE_SHIFT" "I" (.int (0 : Int32))) (S5 : Sta Z Z.heap "java/lang/StringUTF16" "LO_BYTE_SHIFT" "I" (.int (8 : Int32))) (E1 : Exa Z h0 a1 "java/lang/String") (F1 : Fld Z h0 a1 "java/lang/String" "coder" "B" (.int cd)) (F2 : Fld Z h0 a1 "java/lang/String" "value" "[B" (.ref t)) (Va : Arv Z h0 t kt .byte N2 vs (.int 0)) (hc : own_cod ([] : List Int32) cd N2 vs) (hr : own_chs ([] : List Int32)) :
    MetFree l (⟨"com/example/even_rows/evenrows/mapping/SqlName", "folded", "(Ljava/lang/String;)Ljava/lang/String;"⟩ : MethodName) (head1 (Jvm.Cond.code (⟨"com/example/even_rows/evenrows/mapping/SqlName", "folded", "(Ljava/lang/String;)Ljava/lang/String;"⟩ : MethodName) prog_7_method_3_code 6 (some (.object "java/lang/String")) :: wsq) own_R_fold0) (fun aq Uq => aq = #[(.ref a1)] ∧ Z.Warmed39 Uq.vm ∧ Uq.heap = h0) (fun _ _ _ _ _ => True) (fun _ Uq oq Uq' => ∃ vq Lq, oq = .returned vq ∧ own_Q_fold0 Z a1 cz t kt cd N2 vs fm h0 n0 vq Uq'.heap Lq ∧ FrameEnd Uq oq Uq' Lq own_R_fold0.cells own_R_fold0.slots) := by
  refine MetFree.of_bodySF (plainFor_of_name own_pn7) hisR ?_
  intro p e s m args below meth cde s₁ Bd hml0 hP hK
  obtain ⟨rfl, hZ, hh⟩ := hP
  have hx := Bd.exec
  have hby := Bd.bytes
  have hml : cde.maxLocals = 6 := hml0
  have hown : s.vm.findClass "com/example/even_rows/evenrows/mapping/SqlName" = some m.cls := findClass_of_methodNamed Bd.named
  have hnm := (name_of_methodNamed Bd.named Bd.method).1
  have X0 : Stand p l e own_R_fold0 s m #[(.ref a1)] below meth cde s₁ [] 0 0 := Stand.of_body Bd
  have e0 : s₁.heap = h0 := by rw [← hh, Bd.state]; rfl
  have N0 := Fr.nil n0
  show own_Fin p e s below (own_Q_fold0 Z a1 cz t kt cd N2 vs fm h0 n0) own_R_fold0.cells own_R_fold0.slots s₁ (entryFrame m #[(.ref a1)] 6)
  rw [own_ef_fold0 m a1]
  have hrd : own_chs ([] : List Int32) := own_fcs0 hr
  obtain ⟨T1_, h1_, X1_, e1_, E1_, A1_, D1_, -, st1_⟩ := newO X0 hx hZ hown (own_w hw 34 rfl) (own_w hw 35 rfl) (own_w hw 36 rfl) e0 (g := (mkF m 0 #[.val (.ref a1), .unset, .unset, .unset, .unset, .unset] [])) rfl (hb hby own_d581) (by decide) (by decide)
  obtain ⟨b1_, g1_⟩ : ∃ z, z = h0.size := ⟨_, rfl⟩
  rw [← g1_] at A1_ D1_ st1_
  have F2_ : Fld Z h1_ b1_ "java/lang/AbstractStringBuilder" "value" "[B" .null := D1_ (Or.inl (own_w hw 60 rfl)) (ty := (.array .byte)) (by decide)
  have F3_ : Fld Z h1_ b1_ "java/lang/AbstractStringBuilder" "coder" "B" (.int (0 : Int32)) := D1_ (Or.inl (own_w hw 62 rfl)) (ty := .byte) (by decide)
  have F4_ : Fld Z h1_ b1_ "java/lang/AbstractStringBuilder" "count" "I" (.int (0 : Int32)) := D1_ (Or.inl (own_w hw 107 rfl)) (ty := .int) (by decide)
  have F5_ : Fld Z h1_ b1_ "java/lang/AbstractStringBuilder" "maybeLatin1" "Z" (.int (0 : Int32)) := D1_ (Or.inl (own_w hw 231 rfl)) (ty := .boolean) (by decide)
  refine own_via (fun _ kq => st1_ _ kq) ?_
  show own_Fin _ _ _ _ _ _ _ T1_ (mkF m 3 #[.val (.ref a1), .unset, .unset, .unset, .unset, .unset] [(.ref b1_)])
  refine own_via (fun _ kq => XS.dup X1_.here hx rfl (hb hby own_d582) rfl rfl kq) ?_
  refine own_via (fun _ kq => XS.aloadN X1_.here hx rfl (hb hby own_d583) rfl rfl kq) ?_
  show own_Fin _ _ _ _ _ _ _ T1_ (mkF m 5 #[.val (.ref a1), .unset, .unset, .unset, .unset, .unset] [(.ref a1), (.ref b1_), (.ref b1_)])
  obtain ⟨cq6_, kq6_, q6_a, q6_b, q6_c⟩ := isOf hZ e1_ (E1.ext E1_)
  obtain ⟨_, _, ⟨T6_, L6_, k6_, n6_⟩, -, X6_, ⟨Lc6_, hQ6_, l6_, y6_, z6_⟩, st6_⟩ := X1_.virtualBack hx (y := (⟨"java/lang/String", "length", "()I"⟩ : MethodName)) (z := (⟨"java/lang/String", "length", "()I"⟩ : MethodName)) hown (mvT hZ (own_w hw 37 rfl)) (mvT hZ (own_w hw 38 rfl)) (notFace_of_selects (args := #[]) (mvT hZ (own_w hw 40 rfl))) (mvT hZ (own_w hw 40 rfl)) (mvT hZ (own_w hw 39 rfl)) (by decide) (backOf (W := 2) (own_rm_len l Z a0 hw [] a1 cz t kt cd N2 vs ([] : List Int32) h1_ n0 (Nat.le_trans Z0 E1_.1) (O0.ext E1_) S1 (by first | assumption | decide) (E1.ext E1_) (F1.ext E1_) (F2.ext E1_) (Va.ext E1_) hc (by simp) hr) hZ (own_w hw 41 rfl) (own_w hw 10 rfl) (by decide) (by decide)) q6_a q6_c (g := (mkF m 5 #[.val (.ref a1), .unset, .unset, .unset, .unset, .unset] [(.ref a1), (.ref b1_), (.ref b1_)])) rfl (by rw [hml]; rfl) (Steps.refl _) (argsL := []) (rest := [(.ref b1_), (.ref b1_)]) (lenOf own_pd21 rfl) rfl (by show 2 * 0 + _ ≤ _; exact Nat.le_of_eq rfl) (hb hby own_d584) (fun _ _ => ⟨rfl, e1_, (by decide : 0 + 1 + 0 ≤ _), (by decide : 0 + 4 + 0 ≤ _)⟩)
  dsimp only [Pt.U, Pt.locs, Pt.cells, Pt.slots] at X6_ l6_ y6_ z6_ st6_ hQ6_
  subst l6_ y6_ z6_
  obtain ⟨rfl, Nq6_, hh6_⟩ := hQ6_
  have N6_ := Fr.app N0 Nq6_
  refine own_via (fun _ kq => st6_.trans kq) ?_
  show own_Fin _ _ _ _ _ _ _ T6_ (mkF m 8 #[.val (.ref a1), .unset, .unset, .unset, .unset, .unset] [(.int (Int32.ofNat ([] : List Int32).length)), (.ref b1_), (.ref b1_)])
  have g8_ : n0 ≤ b1_ := Nat.le_trans Z0 (Nat.le_of_eq g1_.symm)
  obtain ⟨_, _, ⟨T7_, L7_, k7_, n7_⟩, -, X7_, ⟨Lc7_, hQ7_, l7_, y7_, z7_⟩, st7_⟩ := X6_.specialBack hx (y := (⟨"java/lang/StringBuilder", "<init>", "(I)V"⟩ : MethodName)) rfl hown (mvT hZ (own_w hw 48 rfl)) (mvT hZ (own_w hw 49 rfl)) (mvT hZ (own_w hw 50 rfl)) (by decide) (backOf (W := 1) (own_rm_sbI l Z a0 hw [] b1_ (Int32.ofNat ([] : List Int32).length) 0 cz .null (.int (0 : Int32)) h1_ n0 (Nat.le_trans Z0 E1_.1) (O0.ext E1_) S1 (by first | assumption | decide) A1_ F2_ F3_ F4_ F5_ g8_ rfl (by decide)) hZ (own_w hw 50 rfl) (own_w hw 36 rfl) (by decide) (by decide)) (g := (mkF m 8 #[.val (.ref a1), .unset, .unset, .unset, .unset, .unset] [(.int (Int32.ofNat ([] : List Int32).length)), (.ref b1_), (.ref b1_)])) rfl (by rw [hml]; rfl) (Steps.refl _) (a := b1_) (argsL := [(.int (Int32.ofNat ([] : List Int32).length))]) (rest := [(.ref b1_)]) (lenOf own_pd14 rfl) rfl (by show 2 * 0 + _ ≤ _; exact Nat.le_of_eq rfl) (hb hby own_d585) (fun _ _ => ⟨rfl, hh6_, (by decide : 0 + 1 + 0 + 1 ≤ _), (by decide : 0 + 4 + 0 + 4 ≤ _)⟩)
  dsimp only [Pt.U, Pt.locs, Pt.cells, Pt.slots] at X7_ l7_ y7_ z7_ st7_ hQ7_
  subst l7_ y7_ z7_
  obtain ⟨t0, kt0, rfl, Nq7_, K7_, r9_, r10_, r11_, r12_, r13_, r14_, r15_, r16_⟩ := hQ7_
  have N7_ := Fr.app N6_ Nq7_
  refine own_via (fun _ kq => st7_.trans kq) ?_
  show own_Fin _ _ _ _ _ _ _ T7_ (mkF m 11 #[.val (.ref a1), .unset, .unset, .unset, .unset, .unset] [(.ref b1_)])
  refine own_via (fun _ kq => XS.astoreN X7_.here hx rfl (hb hby own_d586) rfl rfl (l' := #[.val (.ref a1), .val (.ref b1_), .unset, .unset, .unset, .unset]) rfl kq) ?_
  refine own_via (fun _ kq => XS.aloadN X7_.here hx rfl (hb hby own_d587) rfl rfl kq) ?_
  show own_Fin _ _ _ _ _ _ _ T7_ (mkF m 13 #[.val (.ref a1), .val (.ref b1_), .unset, .unset, .unset, .unset] [(.ref a1)])
  have q18_ : a1 ≠ b1_ := Nat.ne_of_lt (Nat.lt_of_lt_of_le E1.lt (Nat.le_of_eq g1_.symm))
  have q19_ : t ≠ b1_ := Nat.ne_of_lt (Nat.lt_of_lt_of_le Va.lt (Nat.le_of_eq g1_.symm))
  obtain ⟨cq17_, kq17_, q17_a, q17_b, q17_c⟩ := isOf hZ rfl ((E1.ext E1_).keep K7_)
  obtain ⟨_, _, ⟨T17_, L17_, k17_, n17_⟩, -, X17_, ⟨Lc17_, hQ17_, l17_, y17_, z17_⟩, st17_⟩ := X7_.virtualBack hx (y := (⟨"java/lang/String", "toCharArray", "()[C"⟩ : MethodName)) (z := (⟨"java/lang/String", "toCharArray", "()[C"⟩ : MethodName)) hown (mvT hZ (own_w hw 63 rfl)) (mvT hZ (own_w hw 64 rfl)) (notFace_of_selects (args := #[]) (mvT hZ (own_w hw 66 rfl))) (mvT hZ (own_w hw 66 rfl)) (mvT hZ (own_w hw 65 rfl)) (by decide) (backOf (W := 0) (own_rm_toCA l Z a0 hw [] a1 cz t kt cd N2 vs ([] : List Int32) fm T7_.heap n0 (Nat.le_trans Z0 (Nat.le_trans E1_.1 K7_.1)) ((O0.ext E1_).keep K7_ (allS g8_ all0)) S1 (by first | assumption | decide) S2 r_fm S3 S4 S5 ((E1.ext E1_).keep K7_) ((F1.ext E1_).keep K7_ (ninS q18_ nin0)) ((F2.ext E1_).keep K7_ (ninS q18_ nin0)) ((Va.ext E1_).keep K7_ (ninS q19_ nin0)) hc (by simp) hr (by simp)) hZ (own_w hw 67 rfl) (own_w hw 10 rfl) (by decide) (by decide)) q17_a q17_c (g := (mkF m 13 #[.val (.ref a1), .val (.ref b1_), .unset, .unset, .unset, .unset] [(.ref a1)])) rfl (by rw [hml]; rfl) (Steps.refl _) (argsL := []) (rest := []) (lenOf own_pd30 rfl) rfl (by show 2 * 0 + _ ≤ _; exact Nat.le_of_eq rfl) (hb hby own_d588) (fun _ _ => ⟨rfl, rfl, (by decide : 0 + 1 + 0 + 1 + 1 ≤ _), (by decide : 0 + 4 + 0 + 4 + 4 ≤ _)⟩)
  dsimp only [Pt.U, Pt.locs, Pt.cells, Pt.slots] at X17_ l17_ y17_ z17_ st17_ hQ17_
  subst l17_ y17_ z17_
  obtain ⟨a, ka, xs, rfl, Nq17_, K17_, r20_, r21_, hxs⟩ := hQ17_
  have N17_ := Fr.app N7_ Nq17_
  refine own_via (fun _ kq => st17_.trans kq) ?_
  show own_Fin _ _ _ _ _ _ _ T17_ (mkF m 16 #[.val (.ref a1), .val (.ref b1_), .unset, .unset, .unset, .unset] [(.ref a)])
  have Vq : Arv Z T17_.heap a ka .char (0 : Int32) xs (.int 0) := r21_
  refine own_via (fun _ kq => XS.astoreN X17_.here hx rfl (hb hby own_d589) rfl rfl (l' := #[.val (.ref a1), .val (.ref b1_), .val (.ref a), .unset, .unset, .unset]) rfl kq) ?_
  refine own_via (fun _ kq => XS.aloadN X17_.here hx rfl (hb hby own_d590) rfl rfl kq) ?_
  show own_Fin _ _ _ _ _ _ _ T17_ (mkF m 18 #[.val (.ref a1), .val (.ref b1_), .val (.ref a), .unset, .unset, .unset] [(.ref a)])
  obtain ⟨c22_, Ar22_, -, S22_, M22_, -, -⟩ := (id Vq)
  refine own_via (fun _ kq => X17_.arraylength hx (own_eq rfl Ar22_.1) (State.isArrayOf_alike hZ.alike Ar22_.2.1) (g := (mkF m 18 #[.val (.ref a1), .val (.ref b1_), .val (.ref a), .unset, .unset, .unset] [(.ref a)])) rfl rfl (hb hby own_d591) _ (by rw [len_of S22_ M22_]; exact kq)) ?_
  show own_Fin _ _ _ _ _ _ _ T17_ (mkF m 19 #[.val (.ref a1), .val (.ref b1_), .val (.ref a), .unset, .unset, .unset] [(.int (0 : Int32))])
  refine own_via (fun _ kq => XS.istoreN X17_.here hx rfl (hb hby own_d592) rfl (l' := #[.val (.ref a1), .val (.ref b1_), .val (.ref a), .val (.int (0 : Int32)), .unset, .unset]) rfl kq) ?_
  refine own_via (fun _ kq => XS.iconst X17_.here hx rfl (hb hby own_d593) kq) ?_
  refine own_via (fun _ kq => XS.istore X17_.here hx rfl (hb hby own_d594) rfl (l' := #[.val (.ref a1), .val (.ref b1_), .val (.ref a), .val (.int (0 : Int32)), .val (.int (0 : Int32)), .unset]) rfl kq) ?_
  refine own_via (fun _ kq => XS.iload X17_.here hx rfl (hb hby own_d595) rfl kq) ?_
  refine own_via (fun _ kq => XS.iloadN X17_.here hx rfl (hb hby own_d596) rfl kq) ?_
  have hsb0 : own_sbp ([] : List Int32) 0 0 (0 : Int32) (Int32.ofNat 0) (List.replicate 0 (.int 0)) := own_sb_new
  refine own_via (fun _ kq => XS.icmpYes X17_.here hx rfl (pc0 := 26) (pc' := 74) rfl (hb hby own_d597) rfl (flt (by decide)).2.1 (by decide) (by decide) kq) ?_
  show own_Fin _ _ _ _ _ _ _ T17_ (mkF m 74 #[.val (.ref a1), .val (.ref b1_), .val (.ref a), .val (.int (0 : Int32)), .val (.int (0 : Int32)), .unset] [])
  refine own_via (fun _ kq => XS.aloadN X17_.here hx rfl (hb hby own_d598) rfl rfl kq) ?_
  show own_Fin _ _ _ _ _ _ _ T17_ (mkF m 75 #[.val (.ref a1), .val (.ref b1_), .val (.ref a), .val (.int (0 : Int32)), .val (.int (0 : Int32)), .unset] [(.ref b1_)])
  obtain ⟨cq23_, kq23_, q23_a, q23_b, q23_c⟩ := isOf hZ rfl (r9_.keep K17_)
  obtain ⟨_, _, ⟨T23_, L23_, k23_, n23_⟩, -, X23_, ⟨Lc23_, hQ23_, l23_, y23_, z23_⟩, st23_⟩ := X17_.virtualBack hx (y := (⟨"java/lang/StringBuilder", "toString", "()Ljava/lang/String;"⟩ : MethodName)) (z := (⟨"java/lang/StringBuilder", "toString", "()Ljava/lang/String;"⟩ : MethodName)) hown (mvT hZ (own_w hw 80 rfl)) (mvT hZ (own_w hw 81 rfl)) (notFace_of_selects (args := #[]) (mvT hZ (own_w hw 83 rfl))) (mvT hZ (own_w hw 83 rfl)) (mvT hZ (own_w hw 82 rfl)) (by decide) (backOf (W := 0) (own_rm_sbToS l Z a0 hw [] b1_ t0 kt0 (0 : Int32) (Int32.ofNat ([] : List Int32).length) (List.replicate 0 (.int 0)) (0 : Int32) ([] : List Int32) cz T17_.heap n0 (Nat.le_trans Z0 (Nat.le_trans (Nat.le_trans E1_.1 K7_.1) K17_.1)) (((O0.ext E1_).keep K7_ (allS g8_ all0)).keep K17_ all0) S1 (by first | assumption | decide) (r9_.keep K17_) (r10_.keep K17_ nin0) (r11_.keep K17_ nin0) (r12_.keep K17_ nin0) (r13_.keep K17_ nin0) (r15_.keep K17_ nin0) (r16_.keep K17_) rfl (by simp) hsb0) hZ (own_w hw 84 rfl) (own_w hw 36 rfl) (by decide) (by decide)) q23_a q23_c (g := (mkF m 75 #[.val (.ref a1), .val (.ref b1_), .val (.ref a), .val (.int (0 : Int32)), .val (.int (0 : Int32)), .unset] [(.ref b1_)])) rfl (by rw [hml]; rfl) (Steps.refl _) (argsL := []) (rest := []) (lenOf own_pd31 rfl) rfl (by show 2 * 0 + _ ≤ _; exact Nat.le_of_eq rfl) (hb hby own_d599) (fun _ _ => ⟨rfl, rfl, (by decide : 0 + 1 + 0 + 1 + 1 + 2 ≤ _), (by decide : 0 + 4 + 0 + 4 + 4 + 12 ≤ _)⟩)
  dsimp only [Pt.U, Pt.locs, Pt.cells, Pt.slots] at X23_ l23_ y23_ z23_ st23_ hQ23_
  subst l23_ y23_ z23_
  obtain ⟨x, u, ku, cd2, M2, ws, rfl, Nq23_, K23_, r24_, r25_, r26_, r27_, r28_, hcod⟩ := hQ23_
  have N23_ := Fr.app N17_ Nq23_
  refine own_via (fun _ kq => st23_.trans kq) ?_
  show own_Fin _ _ _ _ _ _ _ T23_ (mkF m 78 #[.val (.ref a1), .val (.ref b1_), .val (.ref a), .val (.int (0 : Int32)), .val (.int (0 : Int32)), .unset] [(.ref x)])
  exact own_retA X23_ hx Bd.returns Bd.notSynchronized rfl rfl (hb hby own_d600) rfl ⟨x, u, ku, cd2, M2, ws, rfl, N23_, (((((Keep.refl h0 []).ext E1_).trans K7_ (allS (Or.inr (Nat.le_of_eq g1_.symm)) all0)).trans K17_ all0).trans K23_ all0), (Nat.le_trans (Nat.le_trans (Nat.le_trans E1_.1 K7_.1) K17_.1) r24_), r25_, r26_, r27_, r28_, hcod⟩ (by decide) (by decide)
theorem own_d601 : decode prog_7_method_3_code 29 = .ok (.aload_n 2, 1) := by decide +kernel
theorem own_d602 : decode prog_7_method_3_code 30 = .ok (.iload 4, 2) := by decide +kernel
theorem own_d603 : decode prog_7_method_3_code 32 = .ok (.caload, 1) := by decide +kernel
theorem own_d604 : decode prog_7_method_3_code 33 = .ok (.istore 5, 2) := by decide +kernel
theorem own_d605 : decode prog_7_method_3_code 35 = .ok (.aload_n 1, 1) := by decide +kernel
theorem own_d606 : decode prog_7_method_3_code 36 = .ok (.iload 5, 2) := by decide +kernel
theorem own_d607 : decode prog_7_method_3_code 38 = .ok (.bipush 65, 2) := by decide +kernel
theorem own_d608 : decode prog_7_method_3_code 40 = .ok (.if_icmp .lt 22, 3) := by decide +kernel
theorem own_d609 : decode prog_7_method_3_code 62 = .ok (.iload 5, 2) := by decide +kernel
theorem own_d610 : decode prog_7_method_3_code 43 = .ok (.iload 5, 2) := by decide +kernel
theorem own_d611 : decode prog_7_method_3_code 45 = .ok (.bipush 90, 2) := by decide +kernel
theorem own_d612 : decode prog_7_method_3_code 47 = .ok (.if_icmp .gt 15, 3) := by decide +kernel
theorem own_d613 : decode prog_7_method_3_code 50 = .ok (.iload 5, 2) := by decide +kernel
theorem own_d614 : decode prog_7_method_3_code 52 = .ok (.bipush 65, 2) := by decide +kernel
theorem own_d615 : decode prog_7_method_3_code 54 = .ok (.isub, 1) := by decide +kernel
theorem own_d616 : decode prog_7_method_3_code 55 = .ok (.bipush 97, 2) := by decide +kernel
theorem own_d617 : decode prog_7_method_3_code 57 = .ok (.iadd, 1) := by decide +kernel
theorem own_d618 : decode prog_7_method_3_code 58 = .ok (.i2c, 1) := by decide +kernel
theorem own_d619 : decode prog_7_method_3_code 59 = .ok (.goto 5, 3) := by decide +kernel
theorem own_d620 : decode prog_7_method_3_code 64 = .ok (.invokevirtual 44, 3) := by decide +kernel
theorem own_pd32 : parseMethodDescriptor "(C)Ljava/lang/StringBuilder;" = some ⟨[.char], some (.object "java/lang/StringBuilder")⟩ := by decide +kernel
theorem own_d621 : decode prog_7_method_3_code 67 = .ok (.pop, 1) := by decide +kernel
theorem own_d622 : decode prog_7_method_3_code 68 = .ok (.iinc 4 1, 3) := by decide +kernel
theorem own_d623 : decode prog_7_method_3_code 71 = .ok (.goto (-48), 3) := by decide +kernel
theorem own_ef_fold1 (m : MethodId) (a1 : Addr) : entryFrame m #[(.ref a1)] 6 = mkF m 0 #[.val (.ref a1), .unset, .unset, .unset, .unset, .unset] [] := by (first | (simp [entryFrame, mkF, argsToLocals, Value.category]; done) | rfl)
def own_Q_fold1 (Z : State) (a1 : Addr) (cz : Int32) (t : Addr) (kt : ClassId) (cd : Int32) (N2 : Int32) (vs : List Value) (c1 : Int32) (fm : Value) (h0 : Heap) (n0 : Nat) (vq : Option Value) (h : Heap) (Lq : List Loc) : Prop := ∃ (x : Addr) (u : Addr) (ku : ClassId) (cd2 : Int32) (M2 : Int32) (ws : List Value), (vq = some (.ref x)) ∧ (Fr n0 Lq) ∧ (Keep h0 h []) ∧ (h0.size ≤ x) ∧ (Exa Z h x "java/lang/String") ∧ (Fld Z h x "java/lang/String" "coder" "B" (.int cd2)) ∧ (Fld Z h x "java/lang/String" "value" "[B" (.ref u)) ∧ (Arv Z h u ku .byte M2 ws (.int 0)) ∧ (own_cod [own_fc c1] cd2 M2 ws)
abbrev own_R_fold1 : Room := { frames := 8, cells := 6, slots := 32, locals := 115 }
set_option maxRecDepth 65536 in
set_option maxHeartbeats 40000000 in
theorem own_rm_fold1 (l : Launch) (Z : State) (a0 : Array Value) (hw : ∀ d ∈ tables_1, d.before a0 Z = true) (wsq : List Jvm.Cond) (a1 : Addr) (cz : Int32) (t : Addr) (kt : ClassId) (cd : Int32) (N2 : Int32) (vs : List Value) (c1 : Int32) (fm : Value) (h0 : Heap) (n0 : Nat) (Z0 : n0 ≤ h0.size) (O0 : Old Z n0 h0) (S1 : Sta Z Z.heap "java/lang/String" "COMPACT_STRINGS" "Z" (.int cz)) (P5 : ¬ cz = (0 : Int32)) (S2 : Sta Z Z.heap "jdk/internal/util/Preconditions" "SIOOBE_FORMATTER" "Ljava/util/function/BiFunction;" fm) (r_fm : fm.isRef = true) (S3 : Sta Z Z.heap "java/lang/StringUTF16" "$assertionsDisabled" "Z" (.int (1 : Int32))) (S4 : Sta Z Z.heap "java/lang/StringUTF16" "HI_BYTE_SHIFT" "I" (.int (0 : Int32))) (S5 : Sta Z Z.heap "java/lang/StringUTF16" "LO_BYTE_SHIFT" "I" (.int (8 : Int32))) (E1 : Exa Z h0 a1 "java/lang/String") (F1 : Fld Z h0 a1 "java/lang/String" "coder" "B" (.int cd)) (F2 : Fld Z h0 a1 "java/lang/String" "value" "[B" (.ref t)) (Va : Arv Z h0 t kt .byte N2 vs (.int 0)) (hc : own_cod [c1] cd N2 vs) (hr : own_chs [c1]) :
    MetFree l (⟨"com/example/even_rows/evenrows/mapping/SqlName", "folded", "(Ljava/lang/String;)Ljava/lang/String;"⟩ : MethodName) (head1 (Jvm.Cond.code (⟨"com/example/even_rows/evenrows/mapping/SqlName", "folded", "(Ljava/lang/String;)Ljava/lang/String;"⟩ : MethodName) prog_7_method_3_code 6 (some (.object "java/lang/String")) :: wsq) own_R_fold1) (fun aq Uq => aq = #[(.ref a1)] ∧ Z.Warmed39 Uq.vm ∧ Uq.heap = h0) (fun _ _ _ _ _ => True) (fun _ Uq oq Uq' => ∃ vq Lq, oq = .returned vq ∧ own_Q_fold1 Z a1 cz t kt cd N2 vs c1 fm h0 n0 vq Uq'.heap Lq ∧ FrameEnd Uq oq Uq' Lq own_R_fold1.cells own_R_fold1.slots) := by
  refine MetFree.of_bodySF (plainFor_of_name own_pn7) hisR ?_
  intro p e s m args below meth cde s₁ Bd hml0 hP hK
  obtain ⟨rfl, hZ, hh⟩ := hP
  have hx := Bd.exec
  have hby := Bd.bytes
  have hml : cde.maxLocals = 6 := hml0
  have hown : s.vm.findClass "com/example/even_rows/evenrows/mapping/SqlName" = some m.cls := findClass_of_methodNamed Bd.named
  have hnm := (name_of_methodNamed Bd.named Bd.method).1
  have X0 : Stand p l e own_R_fold1 s m #[(.ref a1)] below meth cde s₁ [] 0 0 := Stand.of_body Bd
  have e0 : s₁.heap = h0 := by rw [← hh, Bd.state]; rfl
  have N0 := Fr.nil n0
  show own_Fin p e s below (own_Q_fold1 Z a1 cz t kt cd N2 vs c1 fm h0 n0) own_R_fold1.cells own_R_fold1.slots s₁ (entryFrame m #[(.ref a1)] 6)
  rw [own_ef_fold1 m a1]
  have hrd : own_chs [own_fc c1] := own_fcs1 hr
  obtain ⟨T1_, h1_, X1_, e1_, E1_, A1_, D1_, -, st1_⟩ := newO X0 hx hZ hown (own_w hw 34 rfl) (own_w hw 35 rfl) (own_w hw 36 rfl) e0 (g := (mkF m 0 #[.val (.ref a1), .unset, .unset, .unset, .unset, .unset] [])) rfl (hb hby own_d581) (by decide) (by decide)
  obtain ⟨b1_, g1_⟩ : ∃ z, z = h0.size := ⟨_, rfl⟩
  rw [← g1_] at A1_ D1_ st1_
  have F2_ : Fld Z h1_ b1_ "java/lang/AbstractStringBuilder" "value" "[B" .null := D1_ (Or.inl (own_w hw 60 rfl)) (ty := (.array .byte)) (by decide)
  have F3_ : Fld Z h1_ b1_ "java/lang/AbstractStringBuilder" "coder" "B" (.int (0 : Int32)) := D1_ (Or.inl (own_w hw 62 rfl)) (ty := .byte) (by decide)
  have F4_ : Fld Z h1_ b1_ "java/lang/AbstractStringBuilder" "count" "I" (.int (0 : Int32)) := D1_ (Or.inl (own_w hw 107 rfl)) (ty := .int) (by decide)
  have F5_ : Fld Z h1_ b1_ "java/lang/AbstractStringBuilder" "maybeLatin1" "Z" (.int (0 : Int32)) := D1_ (Or.inl (own_w hw 231 rfl)) (ty := .boolean) (by decide)
  refine own_via (fun _ kq => st1_ _ kq) ?_
  show own_Fin _ _ _ _ _ _ _ T1_ (mkF m 3 #[.val (.ref a1), .unset, .unset, .unset, .unset, .unset] [(.ref b1_)])
  refine own_via (fun _ kq => XS.dup X1_.here hx rfl (hb hby own_d582) rfl rfl kq) ?_
  refine own_via (fun _ kq => XS.aloadN X1_.here hx rfl (hb hby own_d583) rfl rfl kq) ?_
  show own_Fin _ _ _ _ _ _ _ T1_ (mkF m 5 #[.val (.ref a1), .unset, .unset, .unset, .unset, .unset] [(.ref a1), (.ref b1_), (.ref b1_)])
  obtain ⟨cq6_, kq6_, q6_a, q6_b, q6_c⟩ := isOf hZ e1_ (E1.ext E1_)
  obtain ⟨_, _, ⟨T6_, L6_, k6_, n6_⟩, -, X6_, ⟨Lc6_, hQ6_, l6_, y6_, z6_⟩, st6_⟩ := X1_.virtualBack hx (y := (⟨"java/lang/String", "length", "()I"⟩ : MethodName)) (z := (⟨"java/lang/String", "length", "()I"⟩ : MethodName)) hown (mvT hZ (own_w hw 37 rfl)) (mvT hZ (own_w hw 38 rfl)) (notFace_of_selects (args := #[]) (mvT hZ (own_w hw 40 rfl))) (mvT hZ (own_w hw 40 rfl)) (mvT hZ (own_w hw 39 rfl)) (by decide) (backOf (W := 2) (own_rm_len l Z a0 hw [] a1 cz t kt cd N2 vs [c1] h1_ n0 (Nat.le_trans Z0 E1_.1) (O0.ext E1_) S1 (by first | assumption | decide) (E1.ext E1_) (F1.ext E1_) (F2.ext E1_) (Va.ext E1_) hc (by simp) hr) hZ (own_w hw 41 rfl) (own_w hw 10 rfl) (by decide) (by decide)) q6_a q6_c (g := (mkF m 5 #[.val (.ref a1), .unset, .unset, .unset, .unset, .unset] [(.ref a1), (.ref b1_), (.ref b1_)])) rfl (by rw [hml]; rfl) (Steps.refl _) (argsL := []) (rest := [(.ref b1_), (.ref b1_)]) (lenOf own_pd21 rfl) rfl (by show 2 * 0 + _ ≤ _; exact Nat.le_of_eq rfl) (hb hby own_d584) (fun _ _ => ⟨rfl, e1_, (by decide : 0 + 1 + 0 ≤ _), (by decide : 0 + 4 + 0 ≤ _)⟩)
  dsimp only [Pt.U, Pt.locs, Pt.cells, Pt.slots] at X6_ l6_ y6_ z6_ st6_ hQ6_
  subst l6_ y6_ z6_
  obtain ⟨rfl, Nq6_, hh6_⟩ := hQ6_
  have N6_ := Fr.app N0 Nq6_
  refine own_via (fun _ kq => st6_.trans kq) ?_
  show own_Fin _ _ _ _ _ _ _ T6_ (mkF m 8 #[.val (.ref a1), .unset, .unset, .unset, .unset, .unset] [(.int (Int32.ofNat [c1].length)), (.ref b1_), (.ref b1_)])
  have g8_ : n0 ≤ b1_ := Nat.le_trans Z0 (Nat.le_of_eq g1_.symm)
  obtain ⟨_, _, ⟨T7_, L7_, k7_, n7_⟩, -, X7_, ⟨Lc7_, hQ7_, l7_, y7_, z7_⟩, st7_⟩ := X6_.specialBack hx (y := (⟨"java/lang/StringBuilder", "<init>", "(I)V"⟩ : MethodName)) rfl hown (mvT hZ (own_w hw 48 rfl)) (mvT hZ (own_w hw 49 rfl)) (mvT hZ (own_w hw 50 rfl)) (by decide) (backOf (W := 1) (own_rm_sbI l Z a0 hw [] b1_ (Int32.ofNat [c1].length) 1 cz .null (.int (0 : Int32)) h1_ n0 (Nat.le_trans Z0 E1_.1) (O0.ext E1_) S1 (by first | assumption | decide) A1_ F2_ F3_ F4_ F5_ g8_ rfl (by decide)) hZ (own_w hw 50 rfl) (own_w hw 36 rfl) (by decide) (by decide)) (g := (mkF m 8 #[.val (.ref a1), .unset, .unset, .unset, .unset, .unset] [(.int (Int32.ofNat [c1].length)), (.ref b1_), (.ref b1_)])) rfl (by rw [hml]; rfl) (Steps.refl _) (a := b1_) (argsL := [(.int (Int32.ofNat [c1].length))]) (rest := [(.ref b1_)]) (lenOf own_pd14 rfl) rfl (by show 2 * 0 + _ ≤ _; exact Nat.le_of_eq rfl) (hb hby own_d585) (fun _ _ => ⟨rfl, hh6_, (by decide : 0 + 1 + 0 + 1 ≤ _), (by decide : 0 + 4 + 0 + 4 ≤ _)⟩)
  dsimp only [Pt.U, Pt.locs, Pt.cells, Pt.slots] at X7_ l7_ y7_ z7_ st7_ hQ7_
  subst l7_ y7_ z7_
  obtain ⟨t0, kt0, rfl, Nq7_, K7_, r9_, r10_, r11_, r12_, r13_, r14_, r15_, r16_⟩ := hQ7_
  have N7_ := Fr.app N6_ Nq7_
  refine own_via (fun _ kq => st7_.trans kq) ?_
  show own_Fin _ _ _ _ _ _ _ T7_ (mkF m 11 #[.val (.ref a1), .unset, .unset, .unset, .unset, .unset] [(.ref b1_)])
  refine own_via (fun _ kq => XS.astoreN X7_.here hx rfl (hb hby own_d586) rfl rfl (l' := #[.val (.ref a1), .val (.ref b1_), .unset, .unset, .unset, .unset]) rfl kq) ?_
  refine own_via (fun _ kq => XS.aloadN X7_.here hx rfl (hb hby own_d587) rfl rfl kq) ?_
  show own_Fin _ _ _ _ _ _ _ T7_ (mkF m 13 #[.val (.ref a1), .val (.ref b1_), .unset, .unset, .unset, .unset] [(.ref a1)])
  have q18_ : a1 ≠ b1_ := Nat.ne_of_lt (Nat.lt_of_lt_of_le E1.lt (Nat.le_of_eq g1_.symm))
  have q19_ : t ≠ b1_ := Nat.ne_of_lt (Nat.lt_of_lt_of_le Va.lt (Nat.le_of_eq g1_.symm))
  obtain ⟨cq17_, kq17_, q17_a, q17_b, q17_c⟩ := isOf hZ rfl ((E1.ext E1_).keep K7_)
  obtain ⟨_, _, ⟨T17_, L17_, k17_, n17_⟩, -, X17_, ⟨Lc17_, hQ17_, l17_, y17_, z17_⟩, st17_⟩ := X7_.virtualBack hx (y := (⟨"java/lang/String", "toCharArray", "()[C"⟩ : MethodName)) (z := (⟨"java/lang/String", "toCharArray", "()[C"⟩ : MethodName)) hown (mvT hZ (own_w hw 63 rfl)) (mvT hZ (own_w hw 64 rfl)) (notFace_of_selects (args := #[]) (mvT hZ (own_w hw 66 rfl))) (mvT hZ (own_w hw 66 rfl)) (mvT hZ (own_w hw 65 rfl)) (by decide) (backOf (W := 0) (own_rm_toCA l Z a0 hw [] a1 cz t kt cd N2 vs [c1] fm T7_.heap n0 (Nat.le_trans Z0 (Nat.le_trans E1_.1 K7_.1)) ((O0.ext E1_).keep K7_ (allS g8_ all0)) S1 (by first | assumption | decide) S2 r_fm S3 S4 S5 ((E1.ext E1_).keep K7_) ((F1.ext E1_).keep K7_ (ninS q18_ nin0)) ((F2.ext E1_).keep K7_ (ninS q18_ nin0)) ((Va.ext E1_).keep K7_ (ninS q19_ nin0)) hc (by simp) hr (by simp)) hZ (own_w hw 67 rfl) (own_w hw 10 rfl) (by decide) (by decide)) q17_a q17_c (g := (mkF m 13 #[.val (.ref a1), .val (.ref b1_), .unset, .unset, .unset, .unset] [(.ref a1)])) rfl (by rw [hml]; rfl) (Steps.refl _) (argsL := []) (rest := []) (lenOf own_pd30 rfl) rfl (by show 2 * 0 + _ ≤ _; exact Nat.le_of_eq rfl) (hb hby own_d588) (fun _ _ => ⟨rfl, rfl, (by decide : 0 + 1 + 0 + 1 + 1 ≤ _), (by decide : 0 + 4 + 0 + 4 + 4 ≤ _)⟩)
  dsimp only [Pt.U, Pt.locs, Pt.cells, Pt.slots] at X17_ l17_ y17_ z17_ st17_ hQ17_
  subst l17_ y17_ z17_
  obtain ⟨a, ka, xs, rfl, Nq17_, K17_, r20_, r21_, hxs⟩ := hQ17_
  have N17_ := Fr.app N7_ Nq17_
  refine own_via (fun _ kq => st17_.trans kq) ?_
  show own_Fin _ _ _ _ _ _ _ T17_ (mkF m 16 #[.val (.ref a1), .val (.ref b1_), .unset, .unset, .unset, .unset] [(.ref a)])
  have Vq : Arv Z T17_.heap a ka .char (1 : Int32) xs (.int 0) := r21_
  refine own_via (fun _ kq => XS.astoreN X17_.here hx rfl (hb hby own_d589) rfl rfl (l' := #[.val (.ref a1), .val (.ref b1_), .val (.ref a), .unset, .unset, .unset]) rfl kq) ?_
  refine own_via (fun _ kq => XS.aloadN X17_.here hx rfl (hb hby own_d590) rfl rfl kq) ?_
  show own_Fin _ _ _ _ _ _ _ T17_ (mkF m 18 #[.val (.ref a1), .val (.ref b1_), .val (.ref a), .unset, .unset, .unset] [(.ref a)])
  obtain ⟨c22_, Ar22_, -, S22_, M22_, -, -⟩ := (id Vq)
  refine own_via (fun _ kq => X17_.arraylength hx (own_eq rfl Ar22_.1) (State.isArrayOf_alike hZ.alike Ar22_.2.1) (g := (mkF m 18 #[.val (.ref a1), .val (.ref b1_), .val (.ref a), .unset, .unset, .unset] [(.ref a)])) rfl rfl (hb hby own_d591) _ (by rw [len_of S22_ M22_]; exact kq)) ?_
  show own_Fin _ _ _ _ _ _ _ T17_ (mkF m 19 #[.val (.ref a1), .val (.ref b1_), .val (.ref a), .unset, .unset, .unset] [(.int (1 : Int32))])
  refine own_via (fun _ kq => XS.istoreN X17_.here hx rfl (hb hby own_d592) rfl (l' := #[.val (.ref a1), .val (.ref b1_), .val (.ref a), .val (.int (1 : Int32)), .unset, .unset]) rfl kq) ?_
  refine own_via (fun _ kq => XS.iconst X17_.here hx rfl (hb hby own_d593) kq) ?_
  refine own_via (fun _ kq => XS.istore X17_.here hx rfl (hb hby own_d594) rfl (l' := #[.val (.ref a1), .val (.ref b1_), .val (.ref a), .val (.int (1 : Int32)), .val (.int (0 : Int32)), .unset]) rfl kq) ?_
  refine own_via (fun _ kq => XS.iload X17_.here hx rfl (hb hby own_d595) rfl kq) ?_
  refine own_via (fun _ kq => XS.iloadN X17_.here hx rfl (hb hby own_d596) rfl kq) ?_
  have hsb0 : own_sbp [own_fc c1] 0 1 (0 : Int32) (Int32.ofNat 1) (List.replicate 1 (.int 0)) := own_sb_new
  refine own_via (fun _ kq => XS.icmpNo X17_.here hx rfl (hb hby own_d597) rfl (tlt (by decide)).2.1 kq) ?_
  show own_Fin _ _ _ _ _ _ _ T17_ (mkF m 29 #[.val (.ref a1), .val (.ref b1_), .val (.ref a), .val (.int (1 : Int32)), .val (.int (0 : Int32)), .unset] [])
  refine own_via (fun _ kq => XS.aloadN X17_.here hx rfl (hb hby own_d601) rfl rfl kq) ?_
  refine own_via (fun _ kq => XS.iload X17_.here hx rfl (hb hby own_d602) rfl kq) ?_
  show own_Fin _ _ _ _ _ _ _ T17_ (mkF m 32 #[.val (.ref a1), .val (.ref b1_), .val (.ref a), .val (.int (1 : Int32)), .val (.int (0 : Int32)), .unset] [(.int (0 : Int32)), (.ref a)])
  obtain ⟨c23_, Ar23_, q23_, S23_, M23_, H23_, G23_⟩ := (id Vq)
  have hin23_ : ¬ ((0 : Int32) < 0 ∨ c23_.slots.size ≤ ((0 : Int32)).toNatClampNeg) := inb_of S23_ ⟨by decide, by decide⟩
  have hat23_ : c23_.slots[((0 : Int32)).toNatClampNeg]? = some (.int c1) := H23_.at hin23_ (hxs 0 (by simp))
  refine own_via (fun _ kq => X17_.caload hx (j := (0 : Int32)) (v := (.int c1)) (own_eq rfl Ar23_.1) (State.isArrayOf_alike hZ.alike Ar23_.2.1) Ar23_.2.2 hin23_ hat23_ (g := (mkF m 32 #[.val (.ref a1), .val (.ref b1_), .val (.ref a), .val (.int (1 : Int32)), .val (.int (0 : Int32)), .unset] [(.int (0 : Int32)), (.ref a)])) rfl rfl (hb hby own_d603) _ kq) ?_
  show own_Fin _ _ _ _ _ _ _ T17_ (mkF m 33 #[.val (.ref a1), .val (.ref b1_), .val (.ref a), .val (.int (1 : Int32)), .val (.int (0 : Int32)), .unset] [(.int c1)])
  refine own_via (fun _ kq => XS.istore X17_.here hx rfl (hb hby own_d604) rfl (l' := #[.val (.ref a1), .val (.ref b1_), .val (.ref a), .val (.int (1 : Int32)), .val (.int (0 : Int32)), .val (.int c1)]) rfl kq) ?_
  refine own_via (fun _ kq => XS.aloadN X17_.here hx rfl (hb hby own_d605) rfl rfl kq) ?_
  have s0 : ∀ (v : Int32) (hv : v = own_fc c1), own_Fin p e s below (own_Q_fold1 Z a1 cz t kt cd N2 vs c1 fm h0 n0) own_R_fold1.cells own_R_fold1.slots T17_ (mkF m 64 #[.val (.ref a1), .val (.ref b1_), .val (.ref a), .val (.int (1 : Int32)), .val (.int (0 : Int32)), .val (.int c1)] [(.int v), (.ref b1_)]) := by
    intro v hv
    subst hv
    show own_Fin _ _ _ _ _ _ _ T17_ (mkF m 64 #[.val (.ref a1), .val (.ref b1_), .val (.ref a), .val (.int (1 : Int32)), .val (.int (0 : Int32)), .val (.int c1)] [(.int (own_fc c1)), (.ref b1_)])
    have g24_ : n0 ≤ t0 := Nat.le_trans (Nat.le_trans Z0 E1_.1) r14_
    obtain ⟨cq25_, kq25_, q25_a, q25_b, q25_c⟩ := isOf hZ rfl (r9_.keep K17_)
    obtain ⟨_, _, ⟨T25_, L25_, k25_, n25_⟩, -, X25_, ⟨Lc25_, hQ25_, l25_, y25_, z25_⟩, st25_⟩ := X17_.virtualBack hx (y := (⟨"java/lang/StringBuilder", "append", "(C)Ljava/lang/StringBuilder;"⟩ : MethodName)) (z := (⟨"java/lang/StringBuilder", "append", "(C)Ljava/lang/StringBuilder;"⟩ : MethodName)) hown (mvT hZ (own_w hw 137 rfl)) (mvT hZ (own_w hw 138 rfl)) (notFace_of_selects (args := #[]) (mvT hZ (own_w hw 140 rfl))) (mvT hZ (own_w hw 140 rfl)) (mvT hZ (own_w hw 139 rfl)) (by decide) (backOf (W := 0) (own_rm_sbApp l Z a0 hw [] b1_ (own_fc c1) t0 kt0 (0 : Int32) (Int32.ofNat [c1].length) (List.replicate 1 (.int 0)) (0 : Int32) [own_fc c1] 0 1 cz fm T17_.heap n0 (Nat.le_trans Z0 (Nat.le_trans (Nat.le_trans E1_.1 K7_.1) K17_.1)) (((O0.ext E1_).keep K7_ (allS g8_ all0)).keep K17_ all0) S1 (by first | assumption | decide) S2 r_fm S3 S4 S5 (r9_.keep K17_) (r10_.keep K17_ nin0) (r11_.keep K17_ nin0) (r12_.keep K17_ nin0) (r13_.keep K17_ nin0) (r15_.keep K17_ nin0) (r16_.keep K17_) g8_ g24_ rfl (by decide) (by decide) hsb0 hrd rfl) hZ (own_w hw 141 rfl) (own_w hw 36 rfl) (by decide) (by decide)) q25_a q25_c (g := (mkF m 64 #[.val (.ref a1), .val (.ref b1_), .val (.ref a), .val (.int (1 : Int32)), .val (.int (0 : Int32)), .val (.int c1)] [(.int (own_fc c1)), (.ref b1_)])) rfl (by rw [hml]; rfl) (Steps.refl _) (argsL := [(.int (own_fc c1))]) (rest := []) (lenOf own_pd32 rfl) rfl (by show 2 * 0 + _ ≤ _; exact Nat.le_of_eq rfl) (hb hby own_d620) (fun _ _ => ⟨rfl, rfl, (by decide : 0 + 1 + 0 + 1 + 1 + 1 ≤ _), (by decide : 0 + 4 + 0 + 4 + 4 + 8 ≤ _)⟩)
    dsimp only [Pt.U, Pt.locs, Pt.cells, Pt.slots] at X25_ l25_ y25_ z25_ st25_ hQ25_
    subst l25_ y25_ z25_
    obtain ⟨u0_, ku0, cd0, M0, ws0, rfl, Nq25_, K25_, r26_, r27_, r28_, r29_, r30_, r31_, r32_, hsb1, hfr0⟩ := hQ25_
    have N25_ := Fr.app N17_ Nq25_
    refine own_via (fun _ kq => st25_.trans kq) ?_
    show own_Fin _ _ _ _ _ _ _ T25_ (mkF m 67 #[.val (.ref a1), .val (.ref b1_), .val (.ref a), .val (.int (1 : Int32)), .val (.int (0 : Int32)), .val (.int c1)] [(.ref b1_)])
    have gu0 : n0 ≤ u0_ := by
      rcases hfr0 with q | q
      · rw [q]; exact g24_
      · exact Nat.le_trans (Nat.le_trans Z0 (Nat.le_trans (Nat.le_trans E1_.1 K7_.1) K17_.1)) q
    have su0 : h0.size ≤ u0_ := by
      rcases hfr0 with q | q
      · rw [q]; exact (Nat.le_trans E1_.1 r14_)
      · exact Nat.le_trans (Nat.le_trans (Nat.le_trans E1_.1 K7_.1) K17_.1) q
    have q33_ : t0 ≠ a := Nat.ne_of_lt (Nat.lt_of_lt_of_le r16_.lt r20_)
    have nu0 : a ≠ u0_ := by
      rcases hfr0 with q | q
      · rw [q]; exact (Ne.symm q33_)
      · exact Nat.ne_of_lt (Nat.lt_of_lt_of_le (r21_).lt q)
    refine own_via (fun _ kq => XS.pop X25_.here hx rfl (hb hby own_d621) rfl rfl kq) ?_
    refine own_via (fun _ kq => XS.iinc X25_.here hx rfl (hb hby own_d622) rfl (l' := #[.val (.ref a1), .val (.ref b1_), .val (.ref a), .val (.int (1 : Int32)), .val (.int ((0 : Int32) + (1 : Int32))), .val (.int c1)]) rfl kq) ?_
    refine own_via (fun _ kq => XS.goto X25_.here hx rfl (pc0 := 71) (pc' := 23) rfl (hb hby own_d623) (by decide) (by decide) kq) ?_
    refine own_via (fun _ kq => XS.iload X25_.here hx rfl (hb hby own_d595) rfl kq) ?_
    refine own_via (fun _ kq => XS.iloadN X25_.here hx rfl (hb hby own_d596) rfl kq) ?_
    refine own_via (fun _ kq => XS.icmpYes X25_.here hx rfl (pc0 := 26) (pc' := 74) rfl (hb hby own_d597) rfl (flt (by decide)).2.1 (by decide) (by decide) kq) ?_
    show own_Fin _ _ _ _ _ _ _ T25_ (mkF m 74 #[.val (.ref a1), .val (.ref b1_), .val (.ref a), .val (.int (1 : Int32)), .val (.int ((0 : Int32) + (1 : Int32))), .val (.int c1)] [])
    refine own_via (fun _ kq => XS.aloadN X25_.here hx rfl (hb hby own_d598) rfl rfl kq) ?_
    show own_Fin _ _ _ _ _ _ _ T25_ (mkF m 75 #[.val (.ref a1), .val (.ref b1_), .val (.ref a), .val (.int (1 : Int32)), .val (.int ((0 : Int32) + (1 : Int32))), .val (.int c1)] [(.ref b1_)])
    have f35_ := ((((O0.ext E1_).keep K7_ (allS g8_ all0)).keep K17_ all0).keep K25_ (allS g8_ (allS g24_ all0)))
    obtain ⟨cq34_, kq34_, q34_a, q34_b, q34_c⟩ := isOf hZ rfl r26_
    obtain ⟨_, _, ⟨T34_, L34_, k34_, n34_⟩, -, X34_, ⟨Lc34_, hQ34_, l34_, y34_, z34_⟩, st34_⟩ := X25_.virtualBack hx (y := (⟨"java/lang/StringBuilder", "toString", "()Ljava/lang/String;"⟩ : MethodName)) (z := (⟨"java/lang/StringBuilder", "toString", "()Ljava/lang/String;"⟩ : MethodName)) hown (mvT hZ (own_w hw 80 rfl)) (mvT hZ (own_w hw 81 rfl)) (notFace_of_selects (args := #[]) (mvT hZ (own_w hw 83 rfl))) (mvT hZ (own_w hw 83 rfl)) (mvT hZ (own_w hw 82 rfl)) (by decide) (backOf (W := 0) (own_rm_sbToS l Z a0 hw [] b1_ u0_ ku0 cd0 M0 ws0 ((0 : Int32) + (1 : Int32)) [own_fc c1] cz T25_.heap n0 (Nat.le_trans Z0 (Nat.le_trans (Nat.le_trans (Nat.le_trans E1_.1 K7_.1) K17_.1) K25_.1)) f35_ S1 (by first | assumption | decide) r26_ r27_ r28_ r29_ r30_ r31_ r32_ rfl (by simp) hsb1) hZ (own_w hw 84 rfl) (own_w hw 36 rfl) (by decide) (by decide)) q34_a q34_c (g := (mkF m 75 #[.val (.ref a1), .val (.ref b1_), .val (.ref a), .val (.int (1 : Int32)), .val (.int ((0 : Int32) + (1 : Int32))), .val (.int c1)] [(.ref b1_)])) rfl (by rw [hml]; rfl) (Steps.refl _) (argsL := []) (rest := []) (lenOf own_pd31 rfl) rfl (by show 2 * 0 + _ ≤ _; exact Nat.le_of_eq rfl) (hb hby own_d599) (fun _ _ => ⟨rfl, rfl, (by decide : 0 + 1 + 0 + 1 + 1 + 1 + 2 ≤ _), (by decide : 0 + 4 + 0 + 4 + 4 + 8 + 12 ≤ _)⟩)
    dsimp only [Pt.U, Pt.locs, Pt.cells, Pt.slots] at X34_ l34_ y34_ z34_ st34_ hQ34_
    subst l34_ y34_ z34_
    obtain ⟨x, u, ku, cd2, M2, ws, rfl, Nq34_, K34_, r36_, r37_, r38_, r39_, r40_, hcod⟩ := hQ34_
    have N34_ := Fr.app N25_ Nq34_
    refine own_via (fun _ kq => st34_.trans kq) ?_
    show own_Fin _ _ _ _ _ _ _ T34_ (mkF m 78 #[.val (.ref a1), .val (.ref b1_), .val (.ref a), .val (.int (1 : Int32)), .val (.int ((0 : Int32) + (1 : Int32))), .val (.int c1)] [(.ref x)])
    exact own_retA X34_ hx Bd.returns Bd.notSynchronized rfl rfl (hb hby own_d600) rfl ⟨x, u, ku, cd2, M2, ws, rfl, N34_, ((((((Keep.refl h0 []).ext E1_).trans K7_ (allS (Or.inr (Nat.le_of_eq g1_.symm)) all0)).trans K17_ all0).trans K25_ (allS (Or.inr (Nat.le_of_eq g1_.symm)) (allS (Or.inr (Nat.le_trans E1_.1 r14_)) all0))).trans K34_ all0), (Nat.le_trans (Nat.le_trans (Nat.le_trans (Nat.le_trans E1_.1 K7_.1) K17_.1) K25_.1) r36_), r37_, r38_, r39_, r40_, hcod⟩ (by decide) (by decide)
  refine own_via (fun _ kq => XS.iload X17_.here hx rfl (hb hby own_d606) rfl kq) ?_
  refine own_via (fun _ kq => XS.bipush X17_.here hx rfl (hb hby own_d607) kq) ?_
  rcases Classical.em (c1 < (65 : Int32)) with ha | ha
  · refine own_via (fun _ kq => XS.icmpYes X17_.here hx rfl (pc0 := 40) (pc' := 62) rfl (hb hby own_d608) rfl (tlt ha).1 (by decide) (by decide) kq) ?_
    show own_Fin _ _ _ _ _ _ _ T17_ (mkF m 62 #[.val (.ref a1), .val (.ref b1_), .val (.ref a), .val (.int (1 : Int32)), .val (.int (0 : Int32)), .val (.int c1)] [(.ref b1_)])
    refine own_via (fun _ kq => XS.iload X17_.here hx rfl (hb hby own_d609) rfl kq) ?_
    show own_Fin _ _ _ _ _ _ _ T17_ (mkF m 64 #[.val (.ref a1), .val (.ref b1_), .val (.ref a), .val (.int (1 : Int32)), .val (.int (0 : Int32)), .val (.int c1)] [(.int c1), (.ref b1_)])
    exact s0 _ (own_fc_a ha)
  · refine own_via (fun _ kq => XS.icmpNo X17_.here hx rfl (hb hby own_d608) rfl (flt ha).1 kq) ?_
    show own_Fin _ _ _ _ _ _ _ T17_ (mkF m 43 #[.val (.ref a1), .val (.ref b1_), .val (.ref a), .val (.int (1 : Int32)), .val (.int (0 : Int32)), .val (.int c1)] [(.ref b1_)])
    refine own_via (fun _ kq => XS.iload X17_.here hx rfl (hb hby own_d610) rfl kq) ?_
    refine own_via (fun _ kq => XS.bipush X17_.here hx rfl (hb hby own_d611) kq) ?_
    rcases Classical.em ((90 : Int32) < c1) with hb_ | hb_
    · refine own_via (fun _ kq => XS.icmpYes X17_.here hx rfl (pc0 := 47) (pc' := 62) rfl (hb hby own_d612) rfl (tlt hb_).2.2.1 (by decide) (by decide) kq) ?_
      show own_Fin _ _ _ _ _ _ _ T17_ (mkF m 62 #[.val (.ref a1), .val (.ref b1_), .val (.ref a), .val (.int (1 : Int32)), .val (.int (0 : Int32)), .val (.int c1)] [(.ref b1_)])
      refine own_via (fun _ kq => XS.iload X17_.here hx rfl (hb hby own_d609) rfl kq) ?_
      show own_Fin _ _ _ _ _ _ _ T17_ (mkF m 64 #[.val (.ref a1), .val (.ref b1_), .val (.ref a), .val (.int (1 : Int32)), .val (.int (0 : Int32)), .val (.int c1)] [(.int c1), (.ref b1_)])
      exact s0 _ (own_fc_b hb_)
    · refine own_via (fun _ kq => XS.icmpNo X17_.here hx rfl (hb hby own_d612) rfl (flt hb_).2.2.1 kq) ?_
      show own_Fin _ _ _ _ _ _ _ T17_ (mkF m 50 #[.val (.ref a1), .val (.ref b1_), .val (.ref a), .val (.int (1 : Int32)), .val (.int (0 : Int32)), .val (.int c1)] [(.ref b1_)])
      refine own_via (fun _ kq => XS.iload X17_.here hx rfl (hb hby own_d613) rfl kq) ?_
      refine own_via (fun _ kq => XS.bipush X17_.here hx rfl (hb hby own_d614) kq) ?_
      refine own_via (fun _ kq => XS.isub X17_.here hx rfl (hb hby own_d615) rfl kq) ?_
      show own_Fin _ _ _ _ _ _ _ T17_ (mkF m 55 #[.val (.ref a1), .val (.ref b1_), .val (.ref a), .val (.int (1 : Int32)), .val (.int (0 : Int32)), .val (.int c1)] [(.int (c1 - (65 : Int32))), (.ref b1_)])
      refine own_via (fun _ kq => XS.bipush X17_.here hx rfl (hb hby own_d616) kq) ?_
      refine own_via (fun _ kq => XS.iadd X17_.here hx rfl (hb hby own_d617) rfl kq) ?_
      refine own_via (fun _ kq => XS.i2c X17_.here hx rfl (hb hby own_d618) rfl kq) ?_
      refine own_via (fun _ kq => XS.goto X17_.here hx rfl (pc0 := 59) (pc' := 64) rfl (hb hby own_d619) (by decide) (by decide) kq) ?_
      show own_Fin _ _ _ _ _ _ _ T17_ (mkF m 64 #[.val (.ref a1), .val (.ref b1_), .val (.ref a), .val (.int (1 : Int32)), .val (.int (0 : Int32)), .val (.int c1)] [(.int (((c1 - (65 : Int32)) + (97 : Int32)).toUInt32.toUInt16.toUInt32.toInt32)), (.ref b1_)])
      exact s0 _ (own_fc_c ha hb_)
theorem own_ef_fold2 (m : MethodId) (a1 : Addr) : entryFrame m #[(.ref a1)] 6 = mkF m 0 #[.val (.ref a1), .unset, .unset, .unset, .unset, .unset] [] := by (first | (simp [entryFrame, mkF, argsToLocals, Value.category]; done) | rfl)
def own_Q_fold2 (Z : State) (a1 : Addr) (cz : Int32) (t : Addr) (kt : ClassId) (cd : Int32) (N2 : Int32) (vs : List Value) (c1 : Int32) (c2 : Int32) (fm : Value) (h0 : Heap) (n0 : Nat) (vq : Option Value) (h : Heap) (Lq : List Loc) : Prop := ∃ (x : Addr) (u : Addr) (ku : ClassId) (cd2 : Int32) (M2 : Int32) (ws : List Value), (vq = some (.ref x)) ∧ (Fr n0 Lq) ∧ (Keep h0 h []) ∧ (h0.size ≤ x) ∧ (Exa Z h x "java/lang/String") ∧ (Fld Z h x "java/lang/String" "coder" "B" (.int cd2)) ∧ (Fld Z h x "java/lang/String" "value" "[B" (.ref u)) ∧ (Arv Z h u ku .byte M2 ws (.int 0)) ∧ (own_cod [own_fc c1, own_fc c2] cd2 M2 ws)
abbrev own_R_fold2 : Room := { frames := 8, cells := 7, slots := 40, locals := 115 }
set_option maxRecDepth 65536 in
set_option maxHeartbeats 40000000 in
theorem own_rm_fold2 (l : Launch) (Z : State) (a0 : Array Value) (hw : ∀ d ∈ tables_1, d.before a0 Z = true) (wsq : List Jvm.Cond) (a1 : Addr) (cz : Int32) (t : Addr) (kt : ClassId) (cd : Int32) (N2 : Int32) (vs : List Value) (c1 : Int32) (c2 : Int32) (fm : Value) (h0 : Heap) (n0 : Nat) (Z0 : n0 ≤ h0.size) (O0 : Old Z n0 h0) (S1 : Sta Z Z.heap "java/lang/String" "COMPACT_STRINGS" "Z" (.int cz)) (P5 : ¬ cz = (0 : Int32)) (S2 : Sta Z Z.heap "jdk/internal/util/Preconditions" "SIOOBE_FORMATTER" "Ljava/util/function/BiFunction;" fm) (r_fm : fm.isRef = true) (S3 : Sta Z Z.heap "java/lang/StringUTF16" "$assertionsDisabled" "Z" (.int (1 : Int32))) (S4 : Sta Z Z.heap "java/lang/StringUTF16" "HI_BYTE_SHIFT" "I" (.int (0 : Int32))) (S5 : Sta Z Z.heap "java/lang/StringUTF16" "LO_BYTE_SHIFT" "I" (.int (8 : Int32))) (E1 : Exa Z h0 a1 "java/lang/String") (F1 : Fld Z h0 a1 "java/lang/String" "coder" "B" (.int cd)) (F2 : Fld Z h0 a1 "java/lang/String" "value" "[B" (.ref t)) (Va : Arv Z h0 t kt .byte N2 vs (.int 0)) (hc : own_cod [c1, c2] cd N2 vs) (hr : own_chs [c1, c2]) :
    MetFree l (⟨"com/example/even_rows/evenrows/mapping/SqlName", "folded", "(Ljava/lang/String;)Ljava/lang/String;"⟩ : MethodName) (head1 (Jvm.Cond.code (⟨"com/example/even_rows/evenrows/mapping/SqlName", "folded", "(Ljava/lang/String;)Ljava/lang/String;"⟩ : MethodName) prog_7_method_3_code 6 (some (.object "java/lang/String")) :: wsq) own_R_fold2) (fun aq Uq => aq = #[(.ref a1)] ∧ Z.Warmed39 Uq.vm ∧ Uq.heap = h0) (fun _ _ _ _ _ => True) (fun _ Uq oq Uq' => ∃ vq Lq, oq = .returned vq ∧ own_Q_fold2 Z a1 cz t kt cd N2 vs c1 c2 fm h0 n0 vq Uq'.heap Lq ∧ FrameEnd Uq oq Uq' Lq own_R_fold2.cells own_R_fold2.slots) := by
  refine MetFree.of_bodySF (plainFor_of_name own_pn7) hisR ?_
  intro p e s m args below meth cde s₁ Bd hml0 hP hK
  obtain ⟨rfl, hZ, hh⟩ := hP
  have hx := Bd.exec
  have hby := Bd.bytes
  have hml : cde.maxLocals = 6 := hml0
  have hown : s.vm.findClass "com/example/even_rows/evenrows/mapping/SqlName" = some m.cls := findClass_of_methodNamed Bd.named
  have hnm := (name_of_methodNamed Bd.named Bd.method).1
  have X0 : Stand p l e own_R_fold2 s m #[(.ref a1)] below meth cde s₁ [] 0 0 := Stand.of_body Bd
  have e0 : s₁.heap = h0 := by rw [← hh, Bd.state]; rfl
  have N0 := Fr.nil n0
  show own_Fin p e s below (own_Q_fold2 Z a1 cz t kt cd N2 vs c1 c2 fm h0 n0) own_R_fold2.cells own_R_fold2.slots s₁ (entryFrame m #[(.ref a1)] 6)
  rw [own_ef_fold2 m a1]
  have hrd : own_chs [own_fc c1, own_fc c2] := own_fcs2 hr
  obtain ⟨T1_, h1_, X1_, e1_, E1_, A1_, D1_, -, st1_⟩ := newO X0 hx hZ hown (own_w hw 34 rfl) (own_w hw 35 rfl) (own_w hw 36 rfl) e0 (g := (mkF m 0 #[.val (.ref a1), .unset, .unset, .unset, .unset, .unset] [])) rfl (hb hby own_d581) (by decide) (by decide)
  obtain ⟨b1_, g1_⟩ : ∃ z, z = h0.size := ⟨_, rfl⟩
  rw [← g1_] at A1_ D1_ st1_
  have F2_ : Fld Z h1_ b1_ "java/lang/AbstractStringBuilder" "value" "[B" .null := D1_ (Or.inl (own_w hw 60 rfl)) (ty := (.array .byte)) (by decide)
  have F3_ : Fld Z h1_ b1_ "java/lang/AbstractStringBuilder" "coder" "B" (.int (0 : Int32)) := D1_ (Or.inl (own_w hw 62 rfl)) (ty := .byte) (by decide)
  have F4_ : Fld Z h1_ b1_ "java/lang/AbstractStringBuilder" "count" "I" (.int (0 : Int32)) := D1_ (Or.inl (own_w hw 107 rfl)) (ty := .int) (by decide)
  have F5_ : Fld Z h1_ b1_ "java/lang/AbstractStringBuilder" "maybeLatin1" "Z" (.int (0 : Int32)) := D1_ (Or.inl (own_w hw 231 rfl)) (ty := .boolean) (by decide)
  refine own_via (fun _ kq => st1_ _ kq) ?_
  show own_Fin _ _ _ _ _ _ _ T1_ (mkF m 3 #[.val (.ref a1), .unset, .unset, .unset, .unset, .unset] [(.ref b1_)])
  refine own_via (fun _ kq => XS.dup X1_.here hx rfl (hb hby own_d582) rfl rfl kq) ?_
  refine own_via (fun _ kq => XS.aloadN X1_.here hx rfl (hb hby own_d583) rfl rfl kq) ?_
  show own_Fin _ _ _ _ _ _ _ T1_ (mkF m 5 #[.val (.ref a1), .unset, .unset, .unset, .unset, .unset] [(.ref a1), (.ref b1_), (.ref b1_)])
  obtain ⟨cq6_, kq6_, q6_a, q6_b, q6_c⟩ := isOf hZ e1_ (E1.ext E1_)
  obtain ⟨_, _, ⟨T6_, L6_, k6_, n6_⟩, -, X6_, ⟨Lc6_, hQ6_, l6_, y6_, z6_⟩, st6_⟩ := X1_.virtualBack hx (y := (⟨"java/lang/String", "length", "()I"⟩ : MethodName)) (z := (⟨"java/lang/String", "length", "()I"⟩ : MethodName)) hown (mvT hZ (own_w hw 37 rfl)) (mvT hZ (own_w hw 38 rfl)) (notFace_of_selects (args := #[]) (mvT hZ (own_w hw 40 rfl))) (mvT hZ (own_w hw 40 rfl)) (mvT hZ (own_w hw 39 rfl)) (by decide) (backOf (W := 2) (own_rm_len l Z a0 hw [] a1 cz t kt cd N2 vs [c1, c2] h1_ n0 (Nat.le_trans Z0 E1_.1) (O0.ext E1_) S1 (by first | assumption | decide) (E1.ext E1_) (F1.ext E1_) (F2.ext E1_) (Va.ext E1_) hc (by simp) hr) hZ (own_w hw 41 rfl) (own_w hw 10 rfl) (by decide) (by decide)) q6_a q6_c (g := (mkF m 5 #[.val (.ref a1), .unset, .unset, .unset, .unset, .unset] [(.ref a1), (.ref b1_), (.ref b1_)])) rfl (by rw [hml]; rfl) (Steps.refl _) (argsL := []) (rest := [(.ref b1_), (.ref b1_)]) (lenOf own_pd21 rfl) rfl (by show 2 * 0 + _ ≤ _; exact Nat.le_of_eq rfl) (hb hby own_d584) (fun _ _ => ⟨rfl, e1_, (by decide : 0 + 1 + 0 ≤ _), (by decide : 0 + 4 + 0 ≤ _)⟩)
  dsimp only [Pt.U, Pt.locs, Pt.cells, Pt.slots] at X6_ l6_ y6_ z6_ st6_ hQ6_
  subst l6_ y6_ z6_
  obtain ⟨rfl, Nq6_, hh6_⟩ := hQ6_
  have N6_ := Fr.app N0 Nq6_
  refine own_via (fun _ kq => st6_.trans kq) ?_
  show own_Fin _ _ _ _ _ _ _ T6_ (mkF m 8 #[.val (.ref a1), .unset, .unset, .unset, .unset, .unset] [(.int (Int32.ofNat [c1, c2].length)), (.ref b1_), (.ref b1_)])
  have g8_ : n0 ≤ b1_ := Nat.le_trans Z0 (Nat.le_of_eq g1_.symm)
  obtain ⟨_, _, ⟨T7_, L7_, k7_, n7_⟩, -, X7_, ⟨Lc7_, hQ7_, l7_, y7_, z7_⟩, st7_⟩ := X6_.specialBack hx (y := (⟨"java/lang/StringBuilder", "<init>", "(I)V"⟩ : MethodName)) rfl hown (mvT hZ (own_w hw 48 rfl)) (mvT hZ (own_w hw 49 rfl)) (mvT hZ (own_w hw 50 rfl)) (by decide) (backOf (W := 1) (own_rm_sbI l Z a0 hw [] b1_ (Int32.ofNat [c1, c2].length) 2 cz .null (.int (0 : Int32)) h1_ n0 (Nat.le_trans Z0 E1_.1) (O0.ext E1_) S1 (by first | assumption | decide) A1_ F2_ F3_ F4_ F5_ g8_ rfl (by decide)) hZ (own_w hw 50 rfl) (own_w hw 36 rfl) (by decide) (by decide)) (g := (mkF m 8 #[.val (.ref a1), .unset, .unset, .unset, .unset, .unset] [(.int (Int32.ofNat [c1, c2].length)), (.ref b1_), (.ref b1_)])) rfl (by rw [hml]; rfl) (Steps.refl _) (a := b1_) (argsL := [(.int (Int32.ofNat [c1, c2].length))]) (rest := [(.ref b1_)]) (lenOf own_pd14 rfl) rfl (by show 2 * 0 + _ ≤ _; exact Nat.le_of_eq rfl) (hb hby own_d585) (fun _ _ => ⟨rfl, hh6_, (by decide : 0 + 1 + 0 + 1 ≤ _), (by decide : 0 + 4 + 0 + 4 ≤ _)⟩)
  dsimp only [Pt.U, Pt.locs, Pt.cells, Pt.slots] at X7_ l7_ y7_ z7_ st7_ hQ7_
  subst l7_ y7_ z7_
  obtain ⟨t0, kt0, rfl, Nq7_, K7_, r9_, r10_, r11_, r12_, r13_, r14_, r15_, r16_⟩ := hQ7_
  have N7_ := Fr.app N6_ Nq7_
  refine own_via (fun _ kq => st7_.trans kq) ?_
  show own_Fin _ _ _ _ _ _ _ T7_ (mkF m 11 #[.val (.ref a1), .unset, .unset, .unset, .unset, .unset] [(.ref b1_)])
  refine own_via (fun _ kq => XS.astoreN X7_.here hx rfl (hb hby own_d586) rfl rfl (l' := #[.val (.ref a1), .val (.ref b1_), .unset, .unset, .unset, .unset]) rfl kq) ?_
  refine own_via (fun _ kq => XS.aloadN X7_.here hx rfl (hb hby own_d587) rfl rfl kq) ?_
  show own_Fin _ _ _ _ _ _ _ T7_ (mkF m 13 #[.val (.ref a1), .val (.ref b1_), .unset, .unset, .unset, .unset] [(.ref a1)])
  have q18_ : a1 ≠ b1_ := Nat.ne_of_lt (Nat.lt_of_lt_of_le E1.lt (Nat.le_of_eq g1_.symm))
  have q19_ : t ≠ b1_ := Nat.ne_of_lt (Nat.lt_of_lt_of_le Va.lt (Nat.le_of_eq g1_.symm))
  obtain ⟨cq17_, kq17_, q17_a, q17_b, q17_c⟩ := isOf hZ rfl ((E1.ext E1_).keep K7_)
  obtain ⟨_, _, ⟨T17_, L17_, k17_, n17_⟩, -, X17_, ⟨Lc17_, hQ17_, l17_, y17_, z17_⟩, st17_⟩ := X7_.virtualBack hx (y := (⟨"java/lang/String", "toCharArray", "()[C"⟩ : MethodName)) (z := (⟨"java/lang/String", "toCharArray", "()[C"⟩ : MethodName)) hown (mvT hZ (own_w hw 63 rfl)) (mvT hZ (own_w hw 64 rfl)) (notFace_of_selects (args := #[]) (mvT hZ (own_w hw 66 rfl))) (mvT hZ (own_w hw 66 rfl)) (mvT hZ (own_w hw 65 rfl)) (by decide) (backOf (W := 0) (own_rm_toCA l Z a0 hw [] a1 cz t kt cd N2 vs [c1, c2] fm T7_.heap n0 (Nat.le_trans Z0 (Nat.le_trans E1_.1 K7_.1)) ((O0.ext E1_).keep K7_ (allS g8_ all0)) S1 (by first | assumption | decide) S2 r_fm S3 S4 S5 ((E1.ext E1_).keep K7_) ((F1.ext E1_).keep K7_ (ninS q18_ nin0)) ((F2.ext E1_).keep K7_ (ninS q18_ nin0)) ((Va.ext E1_).keep K7_ (ninS q19_ nin0)) hc (by simp) hr (by simp)) hZ (own_w hw 67 rfl) (own_w hw 10 rfl) (by decide) (by decide)) q17_a q17_c (g := (mkF m 13 #[.val (.ref a1), .val (.ref b1_), .unset, .unset, .unset, .unset] [(.ref a1)])) rfl (by rw [hml]; rfl) (Steps.refl _) (argsL := []) (rest := []) (lenOf own_pd30 rfl) rfl (by show 2 * 0 + _ ≤ _; exact Nat.le_of_eq rfl) (hb hby own_d588) (fun _ _ => ⟨rfl, rfl, (by decide : 0 + 1 + 0 + 1 + 1 ≤ _), (by decide : 0 + 4 + 0 + 4 + 4 ≤ _)⟩)
  dsimp only [Pt.U, Pt.locs, Pt.cells, Pt.slots] at X17_ l17_ y17_ z17_ st17_ hQ17_
  subst l17_ y17_ z17_
  obtain ⟨a, ka, xs, rfl, Nq17_, K17_, r20_, r21_, hxs⟩ := hQ17_
  have N17_ := Fr.app N7_ Nq17_
  refine own_via (fun _ kq => st17_.trans kq) ?_
  show own_Fin _ _ _ _ _ _ _ T17_ (mkF m 16 #[.val (.ref a1), .val (.ref b1_), .unset, .unset, .unset, .unset] [(.ref a)])
  have Vq : Arv Z T17_.heap a ka .char (2 : Int32) xs (.int 0) := r21_
  refine own_via (fun _ kq => XS.astoreN X17_.here hx rfl (hb hby own_d589) rfl rfl (l' := #[.val (.ref a1), .val (.ref b1_), .val (.ref a), .unset, .unset, .unset]) rfl kq) ?_
  refine own_via (fun _ kq => XS.aloadN X17_.here hx rfl (hb hby own_d590) rfl rfl kq) ?_
  show own_Fin _ _ _ _ _ _ _ T17_ (mkF m 18 #[.val (.ref a1), .val (.ref b1_), .val (.ref a), .unset, .unset, .unset] [(.ref a)])
  obtain ⟨c22_, Ar22_, -, S22_, M22_, -, -⟩ := (id Vq)
  refine own_via (fun _ kq => X17_.arraylength hx (own_eq rfl Ar22_.1) (State.isArrayOf_alike hZ.alike Ar22_.2.1) (g := (mkF m 18 #[.val (.ref a1), .val (.ref b1_), .val (.ref a), .unset, .unset, .unset] [(.ref a)])) rfl rfl (hb hby own_d591) _ (by rw [len_of S22_ M22_]; exact kq)) ?_
  show own_Fin _ _ _ _ _ _ _ T17_ (mkF m 19 #[.val (.ref a1), .val (.ref b1_), .val (.ref a), .unset, .unset, .unset] [(.int (2 : Int32))])
  refine own_via (fun _ kq => XS.istoreN X17_.here hx rfl (hb hby own_d592) rfl (l' := #[.val (.ref a1), .val (.ref b1_), .val (.ref a), .val (.int (2 : Int32)), .unset, .unset]) rfl kq) ?_
  refine own_via (fun _ kq => XS.iconst X17_.here hx rfl (hb hby own_d593) kq) ?_
  refine own_via (fun _ kq => XS.istore X17_.here hx rfl (hb hby own_d594) rfl (l' := #[.val (.ref a1), .val (.ref b1_), .val (.ref a), .val (.int (2 : Int32)), .val (.int (0 : Int32)), .unset]) rfl kq) ?_
  refine own_via (fun _ kq => XS.iload X17_.here hx rfl (hb hby own_d595) rfl kq) ?_
  refine own_via (fun _ kq => XS.iloadN X17_.here hx rfl (hb hby own_d596) rfl kq) ?_
  have hsb0 : own_sbp [own_fc c1, own_fc c2] 0 2 (0 : Int32) (Int32.ofNat 2) (List.replicate 2 (.int 0)) := own_sb_new
  refine own_via (fun _ kq => XS.icmpNo X17_.here hx rfl (hb hby own_d597) rfl (tlt (by decide)).2.1 kq) ?_
  show own_Fin _ _ _ _ _ _ _ T17_ (mkF m 29 #[.val (.ref a1), .val (.ref b1_), .val (.ref a), .val (.int (2 : Int32)), .val (.int (0 : Int32)), .unset] [])
  refine own_via (fun _ kq => XS.aloadN X17_.here hx rfl (hb hby own_d601) rfl rfl kq) ?_
  refine own_via (fun _ kq => XS.iload X17_.here hx rfl (hb hby own_d602) rfl kq) ?_
  show own_Fin _ _ _ _ _ _ _ T17_ (mkF m 32 #[.val (.ref a1), .val (.ref b1_), .val (.ref a), .val (.int (2 : Int32)), .val (.int (0 : Int32)), .unset] [(.int (0 : Int32)), (.ref a)])
  obtain ⟨c23_, Ar23_, q23_, S23_, M23_, H23_, G23_⟩ := (id Vq)
  have hin23_ : ¬ ((0 : Int32) < 0 ∨ c23_.slots.size ≤ ((0 : Int32)).toNatClampNeg) := inb_of S23_ ⟨by decide, by decide⟩
  have hat23_ : c23_.slots[((0 : Int32)).toNatClampNeg]? = some (.int c1) := H23_.at hin23_ (hxs 0 (by simp))
  refine own_via (fun _ kq => X17_.caload hx (j := (0 : Int32)) (v := (.int c1)) (own_eq rfl Ar23_.1) (State.isArrayOf_alike hZ.alike Ar23_.2.1) Ar23_.2.2 hin23_ hat23_ (g := (mkF m 32 #[.val (.ref a1), .val (.ref b1_), .val (.ref a), .val (.int (2 : Int32)), .val (.int (0 : Int32)), .unset] [(.int (0 : Int32)), (.ref a)])) rfl rfl (hb hby own_d603) _ kq) ?_
  show own_Fin _ _ _ _ _ _ _ T17_ (mkF m 33 #[.val (.ref a1), .val (.ref b1_), .val (.ref a), .val (.int (2 : Int32)), .val (.int (0 : Int32)), .unset] [(.int c1)])
  refine own_via (fun _ kq => XS.istore X17_.here hx rfl (hb hby own_d604) rfl (l' := #[.val (.ref a1), .val (.ref b1_), .val (.ref a), .val (.int (2 : Int32)), .val (.int (0 : Int32)), .val (.int c1)]) rfl kq) ?_
  refine own_via (fun _ kq => XS.aloadN X17_.here hx rfl (hb hby own_d605) rfl rfl kq) ?_
  have s0 : ∀ (v : Int32) (hv : v = own_fc c1), own_Fin p e s below (own_Q_fold2 Z a1 cz t kt cd N2 vs c1 c2 fm h0 n0) own_R_fold2.cells own_R_fold2.slots T17_ (mkF m 64 #[.val (.ref a1), .val (.ref b1_), .val (.ref a), .val (.int (2 : Int32)), .val (.int (0 : Int32)), .val (.int c1)] [(.int v), (.ref b1_)]) := by
    intro v hv
    subst hv
    show own_Fin _ _ _ _ _ _ _ T17_ (mkF m 64 #[.val (.ref a1), .val (.ref b1_), .val (.ref a), .val (.int (2 : Int32)), .val (.int (0 : Int32)), .val (.int c1)] [(.int (own_fc c1)), (.ref b1_)])
    have g24_ : n0 ≤ t0 := Nat.le_trans (Nat.le_trans Z0 E1_.1) r14_
    obtain ⟨cq25_, kq25_, q25_a, q25_b, q25_c⟩ := isOf hZ rfl (r9_.keep K17_)
    obtain ⟨_, _, ⟨T25_, L25_, k25_, n25_⟩, -, X25_, ⟨Lc25_, hQ25_, l25_, y25_, z25_⟩, st25_⟩ := X17_.virtualBack hx (y := (⟨"java/lang/StringBuilder", "append", "(C)Ljava/lang/StringBuilder;"⟩ : MethodName)) (z := (⟨"java/lang/StringBuilder", "append", "(C)Ljava/lang/StringBuilder;"⟩ : MethodName)) hown (mvT hZ (own_w hw 137 rfl)) (mvT hZ (own_w hw 138 rfl)) (notFace_of_selects (args := #[]) (mvT hZ (own_w hw 140 rfl))) (mvT hZ (own_w hw 140 rfl)) (mvT hZ (own_w hw 139 rfl)) (by decide) (backOf (W := 0) (own_rm_sbApp l Z a0 hw [] b1_ (own_fc c1) t0 kt0 (0 : Int32) (Int32.ofNat [c1, c2].length) (List.replicate 2 (.int 0)) (0 : Int32) [own_fc c1, own_fc c2] 0 2 cz fm T17_.heap n0 (Nat.le_trans Z0 (Nat.le_trans (Nat.le_trans E1_.1 K7_.1) K17_.1)) (((O0.ext E1_).keep K7_ (allS g8_ all0)).keep K17_ all0) S1 (by first | assumption | decide) S2 r_fm S3 S4 S5 (r9_.keep K17_) (r10_.keep K17_ nin0) (r11_.keep K17_ nin0) (r12_.keep K17_ nin0) (r13_.keep K17_ nin0) (r15_.keep K17_ nin0) (r16_.keep K17_) g8_ g24_ rfl (by decide) (by decide) hsb0 hrd rfl) hZ (own_w hw 141 rfl) (own_w hw 36 rfl) (by decide) (by decide)) q25_a q25_c (g := (mkF m 64 #[.val (.ref a1), .val (.ref b1_), .val (.ref a), .val (.int (2 : Int32)), .val (.int (0 : Int32)), .val (.int c1)] [(.int (own_fc c1)), (.ref b1_)])) rfl (by rw [hml]; rfl) (Steps.refl _) (argsL := [(.int (own_fc c1))]) (rest := []) (lenOf own_pd32 rfl) rfl (by show 2 * 0 + _ ≤ _; exact Nat.le_of_eq rfl) (hb hby own_d620) (fun _ _ => ⟨rfl, rfl, (by decide : 0 + 1 + 0 + 1 + 1 + 1 ≤ _), (by decide : 0 + 4 + 0 + 4 + 4 + 8 ≤ _)⟩)
    dsimp only [Pt.U, Pt.locs, Pt.cells, Pt.slots] at X25_ l25_ y25_ z25_ st25_ hQ25_
    subst l25_ y25_ z25_
    obtain ⟨u0_, ku0, cd0, M0, ws0, rfl, Nq25_, K25_, r26_, r27_, r28_, r29_, r30_, r31_, r32_, hsb1, hfr0⟩ := hQ25_
    have N25_ := Fr.app N17_ Nq25_
    refine own_via (fun _ kq => st25_.trans kq) ?_
    show own_Fin _ _ _ _ _ _ _ T25_ (mkF m 67 #[.val (.ref a1), .val (.ref b1_), .val (.ref a), .val (.int (2 : Int32)), .val (.int (0 : Int32)), .val (.int c1)] [(.ref b1_)])
    have gu0 : n0 ≤ u0_ := by
      rcases hfr0 with q | q
      · rw [q]; exact g24_
      · exact Nat.le_trans (Nat.le_trans Z0 (Nat.le_trans (Nat.le_trans E1_.1 K7_.1) K17_.1)) q
    have su0 : h0.size ≤ u0_ := by
      rcases hfr0 with q | q
      · rw [q]; exact (Nat.le_trans E1_.1 r14_)
      · exact Nat.le_trans (Nat.le_trans (Nat.le_trans E1_.1 K7_.1) K17_.1) q
    have q33_ : t0 ≠ a := Nat.ne_of_lt (Nat.lt_of_lt_of_le r16_.lt r20_)
    have nu0 : a ≠ u0_ := by
      rcases hfr0 with q | q
      · rw [q]; exact (Ne.symm q33_)
      · exact Nat.ne_of_lt (Nat.lt_of_lt_of_le (r21_).lt q)
    refine own_via (fun _ kq => XS.pop X25_.here hx rfl (hb hby own_d621) rfl rfl kq) ?_
    refine own_via (fun _ kq => XS.iinc X25_.here hx rfl (hb hby own_d622) rfl (l' := #[.val (.ref a1), .val (.ref b1_), .val (.ref a), .val (.int (2 : Int32)), .val (.int ((0 : Int32) + (1 : Int32))), .val (.int c1)]) rfl kq) ?_
    refine own_via (fun _ kq => XS.goto X25_.here hx rfl (pc0 := 71) (pc' := 23) rfl (hb hby own_d623) (by decide) (by decide) kq) ?_
    refine own_via (fun _ kq => XS.iload X25_.here hx rfl (hb hby own_d595) rfl kq) ?_
    refine own_via (fun _ kq => XS.iloadN X25_.here hx rfl (hb hby own_d596) rfl kq) ?_
    refine own_via (fun _ kq => XS.icmpNo X25_.here hx rfl (hb hby own_d597) rfl (tlt (by decide)).2.1 kq) ?_
    show own_Fin _ _ _ _ _ _ _ T25_ (mkF m 29 #[.val (.ref a1), .val (.ref b1_), .val (.ref a), .val (.int (2 : Int32)), .val (.int ((0 : Int32) + (1 : Int32))), .val (.int c1)] [])
    refine own_via (fun _ kq => XS.aloadN X25_.here hx rfl (hb hby own_d601) rfl rfl kq) ?_
    refine own_via (fun _ kq => XS.iload X25_.here hx rfl (hb hby own_d602) rfl kq) ?_
    show own_Fin _ _ _ _ _ _ _ T25_ (mkF m 32 #[.val (.ref a1), .val (.ref b1_), .val (.ref a), .val (.int (2 : Int32)), .val (.int ((0 : Int32) + (1 : Int32))), .val (.int c1)] [(.int ((0 : Int32) + (1 : Int32))), (.ref a)])
    have q35_ : b1_ ≠ a := Nat.ne_of_lt (Nat.lt_of_lt_of_le r9_.lt r20_)
    have f36_ := (Vq.keep K25_ (ninS (Ne.symm q35_) (ninS (Ne.symm q33_) nin0)))
    obtain ⟨c34_, Ar34_, q34_, S34_, M34_, H34_, G34_⟩ := (id f36_)
    have hin34_ : ¬ (((0 : Int32) + (1 : Int32)) < 0 ∨ c34_.slots.size ≤ (((0 : Int32) + (1 : Int32))).toNatClampNeg) := inb_of S34_ ⟨by decide, by decide⟩
    have hat34_ : c34_.slots[(((0 : Int32) + (1 : Int32))).toNatClampNeg]? = some (.int c2) := H34_.at hin34_ (hxs 1 (by simp))
    refine own_via (fun _ kq => X25_.caload hx (j := ((0 : Int32) + (1 : Int32))) (v := (.int c2)) (own_eq rfl Ar34_.1) (State.isArrayOf_alike hZ.alike Ar34_.2.1) Ar34_.2.2 hin34_ hat34_ (g := (mkF m 32 #[.val (.ref a1), .val (.ref b1_), .val (.ref a), .val (.int (2 : Int32)), .val (.int ((0 : Int32) + (1 : Int32))), .val (.int c1)] [(.int ((0 : Int32) + (1 : Int32))), (.ref a)])) rfl rfl (hb hby own_d603) _ kq) ?_
    show own_Fin _ _ _ _ _ _ _ T25_ (mkF m 33 #[.val (.ref a1), .val (.ref b1_), .val (.ref a), .val (.int (2 : Int32)), .val (.int ((0 : Int32) + (1 : Int32))), .val (.int c1)] [(.int c2)])
    refine own_via (fun _ kq => XS.istore X25_.here hx rfl (hb hby own_d604) rfl (l' := #[.val (.ref a1), .val (.ref b1_), .val (.ref a), .val (.int (2 : Int32)), .val (.int ((0 : Int32) + (1 : Int32))), .val (.int c2)]) rfl kq) ?_
    refine own_via (fun _ kq => XS.aloadN X25_.here hx rfl (hb hby own_d605) rfl rfl kq) ?_
    have s1 : ∀ (v : Int32) (hv : v = own_fc c2), own_Fin p e s below (own_Q_fold2 Z a1 cz t kt cd N2 vs c1 c2 fm h0 n0) own_R_fold2.cells own_R_fold2.slots T25_ (mkF m 64 #[.val (.ref a1), .val (.ref b1_), .val (.ref a), .val (.int (2 : Int32)), .val (.int ((0 : Int32) + (1 : Int32))), .val (.int c2)] [(.int v), (.ref b1_)]) := by
      intro v hv
      subst hv
      show own_Fin _ _ _ _ _ _ _ T25_ (mkF m 64 #[.val (.ref a1), .val (.ref b1_), .val (.ref a), .val (.int (2 : Int32)), .val (.int ((0 : Int32) + (1 : Int32))), .val (.int c2)] [(.int (own_fc c2)), (.ref b1_)])
      have f38_ := ((((O0.ext E1_).keep K7_ (allS g8_ all0)).keep K17_ all0).keep K25_ (allS g8_ (allS g24_ all0)))
      obtain ⟨cq37_, kq37_, q37_a, q37_b, q37_c⟩ := isOf hZ rfl r26_
      obtain ⟨_, _, ⟨T37_, L37_, k37_, n37_⟩, -, X37_, ⟨Lc37_, hQ37_, l37_, y37_, z37_⟩, st37_⟩ := X25_.virtualBack hx (y := (⟨"java/lang/StringBuilder", "append", "(C)Ljava/lang/StringBuilder;"⟩ : MethodName)) (z := (⟨"java/lang/StringBuilder", "append", "(C)Ljava/lang/StringBuilder;"⟩ : MethodName)) hown (mvT hZ (own_w hw 137 rfl)) (mvT hZ (own_w hw 138 rfl)) (notFace_of_selects (args := #[]) (mvT hZ (own_w hw 140 rfl))) (mvT hZ (own_w hw 140 rfl)) (mvT hZ (own_w hw 139 rfl)) (by decide) (backOf (W := 0) (own_rm_sbApp l Z a0 hw [] b1_ (own_fc c2) u0_ ku0 cd0 M0 ws0 ((0 : Int32) + (1 : Int32)) [own_fc c1, own_fc c2] 1 2 cz fm T25_.heap n0 (Nat.le_trans Z0 (Nat.le_trans (Nat.le_trans (Nat.le_trans E1_.1 K7_.1) K17_.1) K25_.1)) f38_ S1 (by first | assumption | decide) S2 r_fm S3 S4 S5 r26_ r27_ r28_ r29_ r30_ r31_ r32_ g8_ gu0 rfl (by decide) (by decide) hsb1 hrd rfl) hZ (own_w hw 141 rfl) (own_w hw 36 rfl) (by decide) (by decide)) q37_a q37_c (g := (mkF m 64 #[.val (.ref a1), .val (.ref b1_), .val (.ref a), .val (.int (2 : Int32)), .val (.int ((0 : Int32) + (1 : Int32))), .val (.int c2)] [(.int (own_fc c2)), (.ref b1_)])) rfl (by rw [hml]; rfl) (Steps.refl _) (argsL := [(.int (own_fc c2))]) (rest := []) (lenOf own_pd32 rfl) rfl (by show 2 * 0 + _ ≤ _; exact Nat.le_of_eq rfl) (hb hby own_d620) (fun _ _ => ⟨rfl, rfl, (by decide : 0 + 1 + 0 + 1 + 1 + 1 + 1 ≤ _), (by decide : 0 + 4 + 0 + 4 + 4 + 8 + 8 ≤ _)⟩)
      dsimp only [Pt.U, Pt.locs, Pt.cells, Pt.slots] at X37_ l37_ y37_ z37_ st37_ hQ37_
      subst l37_ y37_ z37_
      obtain ⟨u1_, ku1, cd1, M1, ws1, rfl, Nq37_, K37_, r39_, r40_, r41_, r42_, r43_, r44_, r45_, hsb2, hfr1⟩ := hQ37_
      have N37_ := Fr.app N25_ Nq37_
      refine own_via (fun _ kq => st37_.trans kq) ?_
      show own_Fin _ _ _ _ _ _ _ T37_ (mkF m 67 #[.val (.ref a1), .val (.ref b1_), .val (.ref a), .val (.int (2 : Int32)), .val (.int ((0 : Int32) + (1 : Int32))), .val (.int c2)] [(.ref b1_)])
      have gu1 : n0 ≤ u1_ := by
        rcases hfr1 with q | q
        · rw [q]; exact gu0
        · exact Nat.le_trans (Nat.le_trans Z0 (Nat.le_trans (Nat.le_trans (Nat.le_trans E1_.1 K7_.1) K17_.1) K25_.1)) q
      have su1 : h0.size ≤ u1_ := by
        rcases hfr1 with q | q
        · rw [q]; exact su0
        · exact Nat.le_trans (Nat.le_trans (Nat.le_trans (Nat.le_trans E1_.1 K7_.1) K17_.1) K25_.1) q
      have nu1 : a ≠ u1_ := by
        rcases hfr1 with q | q
        · rw [q]; exact nu0
        · exact Nat.ne_of_lt (Nat.lt_of_lt_of_le ((r21_.keep K25_ (ninS (Ne.symm q35_) (ninS (Ne.symm q33_) nin0)))).lt q)
      refine own_via (fun _ kq => XS.pop X37_.here hx rfl (hb hby own_d621) rfl rfl kq) ?_
      refine own_via (fun _ kq => XS.iinc X37_.here hx rfl (hb hby own_d622) rfl (l' := #[.val (.ref a1), .val (.ref b1_), .val (.ref a), .val (.int (2 : Int32)), .val (.int (((0 : Int32) + (1 : Int32)) + (1 : Int32))), .val (.int c2)]) rfl kq) ?_
      refine own_via (fun _ kq => XS.goto X37_.here hx rfl (pc0 := 71) (pc' := 23) rfl (hb hby own_d623) (by decide) (by decide) kq) ?_
      refine own_via (fun _ kq => XS.iload X37_.here hx rfl (hb hby own_d595) rfl kq) ?_
      refine own_via (fun _ kq => XS.iloadN X37_.here hx rfl (hb hby own_d596) rfl kq) ?_
      refine own_via (fun _ kq => XS.icmpYes X37_.here hx rfl (pc0 := 26) (pc' := 74) rfl (hb hby own_d597) rfl (flt (by decide)).2.1 (by decide) (by decide) kq) ?_
      show own_Fin _ _ _ _ _ _ _ T37_ (mkF m 74 #[.val (.ref a1), .val (.ref b1_), .val (.ref a), .val (.int (2 : Int32)), .val (.int (((0 : Int32) + (1 : Int32)) + (1 : Int32))), .val (.int c2)] [])
      refine own_via (fun _ kq => XS.aloadN X37_.here hx rfl (hb hby own_d598) rfl rfl kq) ?_
      show own_Fin _ _ _ _ _ _ _ T37_ (mkF m 75 #[.val (.ref a1), .val (.ref b1_), .val (.ref a), .val (.int (2 : Int32)), .val (.int (((0 : Int32) + (1 : Int32)) + (1 : Int32))), .val (.int c2)] [(.ref b1_)])
      obtain ⟨cq46_, kq46_, q46_a, q46_b, q46_c⟩ := isOf hZ rfl r39_
      obtain ⟨_, _, ⟨T46_, L46_, k46_, n46_⟩, -, X46_, ⟨Lc46_, hQ46_, l46_, y46_, z46_⟩, st46_⟩ := X37_.virtualBack hx (y := (⟨"java/lang/StringBuilder", "toString", "()Ljava/lang/String;"⟩ : MethodName)) (z := (⟨"java/lang/StringBuilder", "toString", "()Ljava/lang/String;"⟩ : MethodName)) hown (mvT hZ (own_w hw 80 rfl)) (mvT hZ (own_w hw 81 rfl)) (notFace_of_selects (args := #[]) (mvT hZ (own_w hw 83 rfl))) (mvT hZ (own_w hw 83 rfl)) (mvT hZ (own_w hw 82 rfl)) (by decide) (backOf (W := 0) (own_rm_sbToS l Z a0 hw [] b1_ u1_ ku1 cd1 M1 ws1 (((0 : Int32) + (1 : Int32)) + (1 : Int32)) [own_fc c1, own_fc c2] cz T37_.heap n0 (Nat.le_trans Z0 (Nat.le_trans (Nat.le_trans (Nat.le_trans (Nat.le_trans E1_.1 K7_.1) K17_.1) K25_.1) K37_.1)) (f38_.keep K37_ (allS g8_ (allS gu0 all0))) S1 (by first | assumption | decide) r39_ r40_ r41_ r42_ r43_ r44_ r45_ rfl (by simp) hsb2) hZ (own_w hw 84 rfl) (own_w hw 36 rfl) (by decide) (by decide)) q46_a q46_c (g := (mkF m 75 #[.val (.ref a1), .val (.ref b1_), .val (.ref a), .val (.int (2 : Int32)), .val (.int (((0 : Int32) + (1 : Int32)) + (1 : Int32))), .val (.int c2)] [(.ref b1_)])) rfl (by rw [hml]; rfl) (Steps.refl _) (argsL := []) (rest := []) (lenOf own_pd31 rfl) rfl (by show 2 * 0 + _ ≤ _; exact Nat.le_of_eq rfl) (hb hby own_d599) (fun _ _ => ⟨rfl, rfl, (by decide : 0 + 1 + 0 + 1 + 1 + 1 + 1 + 2 ≤ _), (by decide : 0 + 4 + 0 + 4 + 4 + 8 + 8 + 12 ≤ _)⟩)
      dsimp only [Pt.U, Pt.locs, Pt.cells, Pt.slots] at X46_ l46_ y46_ z46_ st46_ hQ46_
      subst l46_ y46_ z46_
      obtain ⟨x, u, ku, cd2, M2, ws, rfl, Nq46_, K46_, r47_, r48_, r49_, r50_, r51_, hcod⟩ := hQ46_
      have N46_ := Fr.app N37_ Nq46_
      refine own_via (fun _ kq => st46_.trans kq) ?_
      show own_Fin _ _ _ _ _ _ _ T46_ (mkF m 78 #[.val (.ref a1), .val (.ref b1_), .val (.ref a), .val (.int (2 : Int32)), .val (.int (((0 : Int32) + (1 : Int32)) + (1 : Int32))), .val (.int c2)] [(.ref x)])
      exact own_retA X46_ hx Bd.returns Bd.notSynchronized rfl rfl (hb hby own_d600) rfl ⟨x, u, ku, cd2, M2, ws, rfl, N46_, (((((((Keep.refl h0 []).ext E1_).trans K7_ (allS (Or.inr (Nat.le_of_eq g1_.symm)) all0)).trans K17_ all0).trans K25_ (allS (Or.inr (Nat.le_of_eq g1_.symm)) (allS (Or.inr (Nat.le_trans E1_.1 r14_)) all0))).trans K37_ (allS (Or.inr (Nat.le_of_eq g1_.symm)) (allS (Or.inr su0) all0))).trans K46_ all0), (Nat.le_trans (Nat.le_trans (Nat.le_trans (Nat.le_trans (Nat.le_trans E1_.1 K7_.1) K17_.1) K25_.1) K37_.1) r47_), r48_, r49_, r50_, r51_, hcod⟩ (by decide) (by decide)
    refine own_via (fun _ kq => XS.iload X25_.here hx rfl (hb hby own_d606) rfl kq) ?_
    refine own_via (fun _ kq => XS.bipush X25_.here hx rfl (hb hby own_d607) kq) ?_
    rcases Classical.em (c2 < (65 : Int32)) with ha | ha
    · refine own_via (fun _ kq => XS.icmpYes X25_.here hx rfl (pc0 := 40) (pc' := 62) rfl (hb hby own_d608) rfl (tlt ha).1 (by decide) (by decide) kq) ?_
      show own_Fin _ _ _ _ _ _ _ T25_ (mkF m 62 #[.val (.ref a1), .val (.ref b1_), .val (.ref a), .val (.int (2 : Int32)), .val (.int ((0 : Int32) + (1 : Int32))), .val (.int c2)] [(.ref b1_)])
      refine own_via (fun _ kq => XS.iload X25_.here hx rfl (hb hby own_d609) rfl kq) ?_
      show own_Fin _ _ _ _ _ _ _ T25_ (mkF m 64 #[.val (.ref a1), .val (.ref b1_), .val (.ref a), .val (.int (2 : Int32)), .val (.int ((0 : Int32) + (1 : Int32))), .val (.int c2)] [(.int c2), (.ref b1_)])
      exact s1 _ (own_fc_a ha)
    · refine own_via (fun _ kq => XS.icmpNo X25_.here hx rfl (hb hby own_d608) rfl (flt ha).1 kq) ?_
      show own_Fin _ _ _ _ _ _ _ T25_ (mkF m 43 #[.val (.ref a1), .val (.ref b1_), .val (.ref a), .val (.int (2 : Int32)), .val (.int ((0 : Int32) + (1 : Int32))), .val (.int c2)] [(.ref b1_)])
      refine own_via (fun _ kq => XS.iload X25_.here hx rfl (hb hby own_d610) rfl kq) ?_
      refine own_via (fun _ kq => XS.bipush X25_.here hx rfl (hb hby own_d611) kq) ?_
      rcases Classical.em ((90 : Int32) < c2) with hb_ | hb_
      · refine own_via (fun _ kq => XS.icmpYes X25_.here hx rfl (pc0 := 47) (pc' := 62) rfl (hb hby own_d612) rfl (tlt hb_).2.2.1 (by decide) (by decide) kq) ?_
        show own_Fin _ _ _ _ _ _ _ T25_ (mkF m 62 #[.val (.ref a1), .val (.ref b1_), .val (.ref a), .val (.int (2 : Int32)), .val (.int ((0 : Int32) + (1 : Int32))), .val (.int c2)] [(.ref b1_)])
        refine own_via (fun _ kq => XS.iload X25_.here hx rfl (hb hby own_d609) rfl kq) ?_
        show own_Fin _ _ _ _ _ _ _ T25_ (mkF m 64 #[.val (.ref a1), .val (.ref b1_), .val (.ref a), .val (.int (2 : Int32)), .val (.int ((0 : Int32) + (1 : Int32))), .val (.int c2)] [(.int c2), (.ref b1_)])
        exact s1 _ (own_fc_b hb_)
      · refine own_via (fun _ kq => XS.icmpNo X25_.here hx rfl (hb hby own_d612) rfl (flt hb_).2.2.1 kq) ?_
        show own_Fin _ _ _ _ _ _ _ T25_ (mkF m 50 #[.val (.ref a1), .val (.ref b1_), .val (.ref a), .val (.int (2 : Int32)), .val (.int ((0 : Int32) + (1 : Int32))), .val (.int c2)] [(.ref b1_)])
        refine own_via (fun _ kq => XS.iload X25_.here hx rfl (hb hby own_d613) rfl kq) ?_
        refine own_via (fun _ kq => XS.bipush X25_.here hx rfl (hb hby own_d614) kq) ?_
        refine own_via (fun _ kq => XS.isub X25_.here hx rfl (hb hby own_d615) rfl kq) ?_
        show own_Fin _ _ _ _ _ _ _ T25_ (mkF m 55 #[.val (.ref a1), .val (.ref b1_), .val (.ref a), .val (.int (2 : Int32)), .val (.int ((0 : Int32) + (1 : Int32))), .val (.int c2)] [(.int (c2 - (65 : Int32))), (.ref b1_)])
        refine own_via (fun _ kq => XS.bipush X25_.here hx rfl (hb hby own_d616) kq) ?_
        refine own_via (fun _ kq => XS.iadd X25_.here hx rfl (hb hby own_d617) rfl kq) ?_
        refine own_via (fun _ kq => XS.i2c X25_.here hx rfl (hb hby own_d618) rfl kq) ?_
        refine own_via (fun _ kq => XS.goto X25_.here hx rfl (pc0 := 59) (pc' := 64) rfl (hb hby own_d619) (by decide) (by decide) kq) ?_
        show own_Fin _ _ _ _ _ _ _ T25_ (mkF m 64 #[.val (.ref a1), .val (.ref b1_), .val (.ref a), .val (.int (2 : Int32)), .val (.int ((0 : Int32) + (1 : Int32))), .val (.int c2)] [(.int (((c2 - (65 : Int32)) + (97 : Int32)).toUInt32.toUInt16.toUInt32.toInt32)), (.ref b1_)])
        exact s1 _ (own_fc_c ha hb_)
  refine own_via (fun _ kq => XS.iload X17_.here hx rfl (hb hby own_d606) rfl kq) ?_
  refine own_via (fun _ kq => XS.bipush X17_.here hx rfl (hb hby own_d607) kq) ?_
  rcases Classical.em (c1 < (65 : Int32)) with ha | ha
  · refine own_via (fun _ kq => XS.icmpYes X17_.here hx rfl (pc0 := 40) (pc' := 62) rfl (hb hby own_d608) rfl (tlt ha).1 (by decide) (by decide) kq) ?_
    show own_Fin _ _ _ _ _ _ _ T17_ (mkF m 62 #[.val (.ref a1), .val (.ref b1_), .val (.ref a), .val (.int (2 : Int32)), .val (.int (0 : Int32)), .val (.int c1)] [(.ref b1_)])
    refine own_via (fun _ kq => XS.iload X17_.here hx rfl (hb hby own_d609) rfl kq) ?_
    show own_Fin _ _ _ _ _ _ _ T17_ (mkF m 64 #[.val (.ref a1), .val (.ref b1_), .val (.ref a), .val (.int (2 : Int32)), .val (.int (0 : Int32)), .val (.int c1)] [(.int c1), (.ref b1_)])
    exact s0 _ (own_fc_a ha)
  · refine own_via (fun _ kq => XS.icmpNo X17_.here hx rfl (hb hby own_d608) rfl (flt ha).1 kq) ?_
    show own_Fin _ _ _ _ _ _ _ T17_ (mkF m 43 #[.val (.ref a1), .val (.ref b1_), .val (.ref a), .val (.int (2 : Int32)), .val (.int (0 : Int32)), .val (.int c1)] [(.ref b1_)])
    refine own_via (fun _ kq => XS.iload X17_.here hx rfl (hb hby own_d610) rfl kq) ?_
    refine own_via (fun _ kq => XS.bipush X17_.here hx rfl (hb hby own_d611) kq) ?_
    rcases Classical.em ((90 : Int32) < c1) with hb_ | hb_
    · refine own_via (fun _ kq => XS.icmpYes X17_.here hx rfl (pc0 := 47) (pc' := 62) rfl (hb hby own_d612) rfl (tlt hb_).2.2.1 (by decide) (by decide) kq) ?_
      show own_Fin _ _ _ _ _ _ _ T17_ (mkF m 62 #[.val (.ref a1), .val (.ref b1_), .val (.ref a), .val (.int (2 : Int32)), .val (.int (0 : Int32)), .val (.int c1)] [(.ref b1_)])
      refine own_via (fun _ kq => XS.iload X17_.here hx rfl (hb hby own_d609) rfl kq) ?_
      show own_Fin _ _ _ _ _ _ _ T17_ (mkF m 64 #[.val (.ref a1), .val (.ref b1_), .val (.ref a), .val (.int (2 : Int32)), .val (.int (0 : Int32)), .val (.int c1)] [(.int c1), (.ref b1_)])
      exact s0 _ (own_fc_b hb_)
    · refine own_via (fun _ kq => XS.icmpNo X17_.here hx rfl (hb hby own_d612) rfl (flt hb_).2.2.1 kq) ?_
      show own_Fin _ _ _ _ _ _ _ T17_ (mkF m 50 #[.val (.ref a1), .val (.ref b1_), .val (.ref a), .val (.int (2 : Int32)), .val (.int (0 : Int32)), .val (.int c1)] [(.ref b1_)])
      refine own_via (fun _ kq => XS.iload X17_.here hx rfl (hb hby own_d613) rfl kq) ?_
      refine own_via (fun _ kq => XS.bipush X17_.here hx rfl (hb hby own_d614) kq) ?_
      refine own_via (fun _ kq => XS.isub X17_.here hx rfl (hb hby own_d615) rfl kq) ?_
      show own_Fin _ _ _ _ _ _ _ T17_ (mkF m 55 #[.val (.ref a1), .val (.ref b1_), .val (.ref a), .val (.int (2 : Int32)), .val (.int (0 : Int32)), .val (.int c1)] [(.int (c1 - (65 : Int32))), (.ref b1_)])
      refine own_via (fun _ kq => XS.bipush X17_.here hx rfl (hb hby own_d616) kq) ?_
      refine own_via (fun _ kq => XS.iadd X17_.here hx rfl (hb hby own_d617) rfl kq) ?_
      refine own_via (fun _ kq => XS.i2c X17_.here hx rfl (hb hby own_d618) rfl kq) ?_
      refine own_via (fun _ kq => XS.goto X17_.here hx rfl (pc0 := 59) (pc' := 64) rfl (hb hby own_d619) (by decide) (by decide) kq) ?_
      show own_Fin _ _ _ _ _ _ _ T17_ (mkF m 64 #[.val (.ref a1), .val (.ref b1_), .val (.ref a), .val (.int (2 : Int32)), .val (.int (0 : Int32)), .val (.int c1)] [(.int (((c1 - (65 : Int32)) + (97 : Int32)).toUInt32.toUInt16.toUInt32.toInt32)), (.ref b1_)])
      exact s0 _ (own_fc_c ha hb_)
theorem own_ef_fold3 (m : MethodId) (a1 : Addr) : entryFrame m #[(.ref a1)] 6 = mkF m 0 #[.val (.ref a1), .unset, .unset, .unset, .unset, .unset] [] := by (first | (simp [entryFrame, mkF, argsToLocals, Value.category]; done) | rfl)
def own_Q_fold3 (Z : State) (a1 : Addr) (cz : Int32) (t : Addr) (kt : ClassId) (cd : Int32) (N2 : Int32) (vs : List Value) (c1 : Int32) (c2 : Int32) (c3 : Int32) (fm : Value) (h0 : Heap) (n0 : Nat) (vq : Option Value) (h : Heap) (Lq : List Loc) : Prop := ∃ (x : Addr) (u : Addr) (ku : ClassId) (cd2 : Int32) (M2 : Int32) (ws : List Value), (vq = some (.ref x)) ∧ (Fr n0 Lq) ∧ (Keep h0 h []) ∧ (h0.size ≤ x) ∧ (Exa Z h x "java/lang/String") ∧ (Fld Z h x "java/lang/String" "coder" "B" (.int cd2)) ∧ (Fld Z h x "java/lang/String" "value" "[B" (.ref u)) ∧ (Arv Z h u ku .byte M2 ws (.int 0)) ∧ (own_cod [own_fc c1, own_fc c2, own_fc c3] cd2 M2 ws)
abbrev own_R_fold3 : Room := { frames := 8, cells := 8, slots := 48, locals := 115 }
set_option maxRecDepth 65536 in
set_option maxHeartbeats 40000000 in
theorem own_rm_fold3 (l : Launch) (Z : State) (a0 : Array Value) (hw : ∀ d ∈ tables_1, d.before a0 Z = true) (wsq : List Jvm.Cond) (a1 : Addr) (cz : Int32) (t : Addr) (kt : ClassId) (cd : Int32) (N2 : Int32) (vs : List Value) (c1 : Int32) (c2 : Int32) (c3 : Int32) (fm : Value) (h0 : Heap) (n0 : Nat) (Z0 : n0 ≤ h0.size) (O0 : Old Z n0 h0) (S1 : Sta Z Z.heap "java/lang/String" "COMPACT_STRINGS" "Z" (.int cz)) (P5 : ¬ cz = (0 : Int32)) (S2 : Sta Z Z.heap "jdk/internal/util/Preconditions" "SIOOBE_FORMATTER" "Ljava/util/function/BiFunction;" fm) (r_fm : fm.isRef = true) (S3 : Sta Z Z.heap "java/lang/StringUTF16" "$assertionsDisabled" "Z" (.int (1 : Int32))) (S4 : Sta Z Z.heap "java/lang/StringUTF16" "HI_BYTE_SHIFT" "I" (.int (0 : Int32))) (S5 : Sta Z Z.heap "java/lang/StringUTF16" "LO_BYTE_SHIFT" "I" (.int (8 : Int32))) (E1 : Exa Z h0 a1 "java/lang/String") (F1 : Fld Z h0 a1 "java/lang/String" "coder" "B" (.int cd)) (F2 : Fld Z h0 a1 "java/lang/String" "value" "[B" (.ref t)) (Va : Arv Z h0 t kt .byte N2 vs (.int 0)) (hc : own_cod [c1, c2, c3] cd N2 vs) (hr : own_chs [c1, c2, c3]) :
    MetFree l (⟨"com/example/even_rows/evenrows/mapping/SqlName", "folded", "(Ljava/lang/String;)Ljava/lang/String;"⟩ : MethodName) (head1 (Jvm.Cond.code (⟨"com/example/even_rows/evenrows/mapping/SqlName", "folded", "(Ljava/lang/String;)Ljava/lang/String;"⟩ : MethodName) prog_7_method_3_code 6 (some (.object "java/lang/String")) :: wsq) own_R_fold3) (fun aq Uq => aq = #[(.ref a1)] ∧ Z.Warmed39 Uq.vm ∧ Uq.heap = h0) (fun _ _ _ _ _ => True) (fun _ Uq oq Uq' => ∃ vq Lq, oq = .returned vq ∧ own_Q_fold3 Z a1 cz t kt cd N2 vs c1 c2 c3 fm h0 n0 vq Uq'.heap Lq ∧ FrameEnd Uq oq Uq' Lq own_R_fold3.cells own_R_fold3.slots) := by
  refine MetFree.of_bodySF (plainFor_of_name own_pn7) hisR ?_
  intro p e s m args below meth cde s₁ Bd hml0 hP hK
  obtain ⟨rfl, hZ, hh⟩ := hP
  have hx := Bd.exec
  have hby := Bd.bytes
  have hml : cde.maxLocals = 6 := hml0
  have hown : s.vm.findClass "com/example/even_rows/evenrows/mapping/SqlName" = some m.cls := findClass_of_methodNamed Bd.named
  have hnm := (name_of_methodNamed Bd.named Bd.method).1
  have X0 : Stand p l e own_R_fold3 s m #[(.ref a1)] below meth cde s₁ [] 0 0 := Stand.of_body Bd
  have e0 : s₁.heap = h0 := by rw [← hh, Bd.state]; rfl
  have N0 := Fr.nil n0
  show own_Fin p e s below (own_Q_fold3 Z a1 cz t kt cd N2 vs c1 c2 c3 fm h0 n0) own_R_fold3.cells own_R_fold3.slots s₁ (entryFrame m #[(.ref a1)] 6)
  rw [own_ef_fold3 m a1]
  have hrd : own_chs [own_fc c1, own_fc c2, own_fc c3] := own_fcs3 hr
  obtain ⟨T1_, h1_, X1_, e1_, E1_, A1_, D1_, -, st1_⟩ := newO X0 hx hZ hown (own_w hw 34 rfl) (own_w hw 35 rfl) (own_w hw 36 rfl) e0 (g := (mkF m 0 #[.val (.ref a1), .unset, .unset, .unset, .unset, .unset] [])) rfl (hb hby own_d581) (by decide) (by decide)
  obtain ⟨b1_, g1_⟩ : ∃ z, z = h0.size := ⟨_, rfl⟩
  rw [← g1_] at A1_ D1_ st1_
  have F2_ : Fld Z h1_ b1_ "java/lang/AbstractStringBuilder" "value" "[B" .null := D1_ (Or.inl (own_w hw 60 rfl)) (ty := (.array .byte)) (by decide)
  have F3_ : Fld Z h1_ b1_ "java/lang/AbstractStringBuilder" "coder" "B" (.int (0 : Int32)) := D1_ (Or.inl (own_w hw 62 rfl)) (ty := .byte) (by decide)
  have F4_ : Fld Z h1_ b1_ "java/lang/AbstractStringBuilder" "count" "I" (.int (0 : Int32)) := D1_ (Or.inl (own_w hw 107 rfl)) (ty := .int) (by decide)
  have F5_ : Fld Z h1_ b1_ "java/lang/AbstractStringBuilder" "maybeLatin1" "Z" (.int (0 : Int32)) := D1_ (Or.inl (own_w hw 231 rfl)) (ty := .boolean) (by decide)
  refine own_via (fun _ kq => st1_ _ kq) ?_
  show own_Fin _ _ _ _ _ _ _ T1_ (mkF m 3 #[.val (.ref a1), .unset, .unset, .unset, .unset, .unset] [(.ref b1_)])
  refine own_via (fun _ kq => XS.dup X1_.here hx rfl (hb hby own_d582) rfl rfl kq) ?_
  refine own_via (fun _ kq => XS.aloadN X1_.here hx rfl (hb hby own_d583) rfl rfl kq) ?_
  show own_Fin _ _ _ _ _ _ _ T1_ (mkF m 5 #[.val (.ref a1), .unset, .unset, .unset, .unset, .unset] [(.ref a1), (.ref b1_), (.ref b1_)])
  obtain ⟨cq6_, kq6_, q6_a, q6_b, q6_c⟩ := isOf hZ e1_ (E1.ext E1_)
  obtain ⟨_, _, ⟨T6_, L6_, k6_, n6_⟩, -, X6_, ⟨Lc6_, hQ6_, l6_, y6_, z6_⟩, st6_⟩ := X1_.virtualBack hx (y := (⟨"java/lang/String", "length", "()I"⟩ : MethodName)) (z := (⟨"java/lang/String", "length", "()I"⟩ : MethodName)) hown (mvT hZ (own_w hw 37 rfl)) (mvT hZ (own_w hw 38 rfl)) (notFace_of_selects (args := #[]) (mvT hZ (own_w hw 40 rfl))) (mvT hZ (own_w hw 40 rfl)) (mvT hZ (own_w hw 39 rfl)) (by decide) (backOf (W := 2) (own_rm_len l Z a0 hw [] a1 cz t kt cd N2 vs [c1, c2, c3] h1_ n0 (Nat.le_trans Z0 E1_.1) (O0.ext E1_) S1 (by first | assumption | decide) (E1.ext E1_) (F1.ext E1_) (F2.ext E1_) (Va.ext E1_) hc (by simp) hr) hZ (own_w hw 41 rfl) (own_w hw 10 rfl) (by decide) (by decide)) q6_a q6_c (g := (mkF m 5 #[.val (.ref a1), .unset, .unset, .unset, .unset, .unset] [(.ref a1), (.ref b1_), (.ref b1_)])) rfl (by rw [hml]; rfl) (Steps.refl _) (argsL := []) (rest := [(.ref b1_), (.ref b1_)]) (lenOf own_pd21 rfl) rfl (by show 2 * 0 + _ ≤ _; exact Nat.le_of_eq rfl) (hb hby own_d584) (fun _ _ => ⟨rfl, e1_, (by decide : 0 + 1 + 0 ≤ _), (by decide : 0 + 4 + 0 ≤ _)⟩)
  dsimp only [Pt.U, Pt.locs, Pt.cells, Pt.slots] at X6_ l6_ y6_ z6_ st6_ hQ6_
  subst l6_ y6_ z6_
  obtain ⟨rfl, Nq6_, hh6_⟩ := hQ6_
  have N6_ := Fr.app N0 Nq6_
  refine own_via (fun _ kq => st6_.trans kq) ?_
  show own_Fin _ _ _ _ _ _ _ T6_ (mkF m 8 #[.val (.ref a1), .unset, .unset, .unset, .unset, .unset] [(.int (Int32.ofNat [c1, c2, c3].length)), (.ref b1_), (.ref b1_)])
  have g8_ : n0 ≤ b1_ := Nat.le_trans Z0 (Nat.le_of_eq g1_.symm)
  obtain ⟨_, _, ⟨T7_, L7_, k7_, n7_⟩, -, X7_, ⟨Lc7_, hQ7_, l7_, y7_, z7_⟩, st7_⟩ := X6_.specialBack hx (y := (⟨"java/lang/StringBuilder", "<init>", "(I)V"⟩ : MethodName)) rfl hown (mvT hZ (own_w hw 48 rfl)) (mvT hZ (own_w hw 49 rfl)) (mvT hZ (own_w hw 50 rfl)) (by decide) (backOf (W := 1) (own_rm_sbI l Z a0 hw [] b1_ (Int32.ofNat [c1, c2, c3].length) 3 cz .null (.int (0 : Int32)) h1_ n0 (Nat.le_trans Z0 E1_.1) (O0.ext E1_) S1 (by first | assumption | decide) A1_ F2_ F3_ F4_ F5_ g8_ rfl (by decide)) hZ (own_w hw 50 rfl) (own_w hw 36 rfl) (by decide) (by decide)) (g := (mkF m 8 #[.val (.ref a1), .unset, .unset, .unset, .unset, .unset] [(.int (Int32.ofNat [c1, c2, c3].length)), (.ref b1_), (.ref b1_)])) rfl (by rw [hml]; rfl) (Steps.refl _) (a := b1_) (argsL := [(.int (Int32.ofNat [c1, c2, c3].length))]) (rest := [(.ref b1_)]) (lenOf own_pd14 rfl) rfl (by show 2 * 0 + _ ≤ _; exact Nat.le_of_eq rfl) (hb hby own_d585) (fun _ _ => ⟨rfl, hh6_, (by decide : 0 + 1 + 0 + 1 ≤ _), (by decide : 0 + 4 + 0 + 4 ≤ _)⟩)
  dsimp only [Pt.U, Pt.locs, Pt.cells, Pt.slots] at X7_ l7_ y7_ z7_ st7_ hQ7_
  subst l7_ y7_ z7_
  obtain ⟨t0, kt0, rfl, Nq7_, K7_, r9_, r10_, r11_, r12_, r13_, r14_, r15_, r16_⟩ := hQ7_
  have N7_ := Fr.app N6_ Nq7_
  refine own_via (fun _ kq => st7_.trans kq) ?_
  show own_Fin _ _ _ _ _ _ _ T7_ (mkF m 11 #[.val (.ref a1), .unset, .unset, .unset, .unset, .unset] [(.ref b1_)])
  refine own_via (fun _ kq => XS.astoreN X7_.here hx rfl (hb hby own_d586) rfl rfl (l' := #[.val (.ref a1), .val (.ref b1_), .unset, .unset, .unset, .unset]) rfl kq) ?_
  refine own_via (fun _ kq => XS.aloadN X7_.here hx rfl (hb hby own_d587) rfl rfl kq) ?_
  show own_Fin _ _ _ _ _ _ _ T7_ (mkF m 13 #[.val (.ref a1), .val (.ref b1_), .unset, .unset, .unset, .unset] [(.ref a1)])
  have q18_ : a1 ≠ b1_ := Nat.ne_of_lt (Nat.lt_of_lt_of_le E1.lt (Nat.le_of_eq g1_.symm))
  have q19_ : t ≠ b1_ := Nat.ne_of_lt (Nat.lt_of_lt_of_le Va.lt (Nat.le_of_eq g1_.symm))
  obtain ⟨cq17_, kq17_, q17_a, q17_b, q17_c⟩ := isOf hZ rfl ((E1.ext E1_).keep K7_)
  obtain ⟨_, _, ⟨T17_, L17_, k17_, n17_⟩, -, X17_, ⟨Lc17_, hQ17_, l17_, y17_, z17_⟩, st17_⟩ := X7_.virtualBack hx (y := (⟨"java/lang/String", "toCharArray", "()[C"⟩ : MethodName)) (z := (⟨"java/lang/String", "toCharArray", "()[C"⟩ : MethodName)) hown (mvT hZ (own_w hw 63 rfl)) (mvT hZ (own_w hw 64 rfl)) (notFace_of_selects (args := #[]) (mvT hZ (own_w hw 66 rfl))) (mvT hZ (own_w hw 66 rfl)) (mvT hZ (own_w hw 65 rfl)) (by decide) (backOf (W := 0) (own_rm_toCA l Z a0 hw [] a1 cz t kt cd N2 vs [c1, c2, c3] fm T7_.heap n0 (Nat.le_trans Z0 (Nat.le_trans E1_.1 K7_.1)) ((O0.ext E1_).keep K7_ (allS g8_ all0)) S1 (by first | assumption | decide) S2 r_fm S3 S4 S5 ((E1.ext E1_).keep K7_) ((F1.ext E1_).keep K7_ (ninS q18_ nin0)) ((F2.ext E1_).keep K7_ (ninS q18_ nin0)) ((Va.ext E1_).keep K7_ (ninS q19_ nin0)) hc (by simp) hr (by simp)) hZ (own_w hw 67 rfl) (own_w hw 10 rfl) (by decide) (by decide)) q17_a q17_c (g := (mkF m 13 #[.val (.ref a1), .val (.ref b1_), .unset, .unset, .unset, .unset] [(.ref a1)])) rfl (by rw [hml]; rfl) (Steps.refl _) (argsL := []) (rest := []) (lenOf own_pd30 rfl) rfl (by show 2 * 0 + _ ≤ _; exact Nat.le_of_eq rfl) (hb hby own_d588) (fun _ _ => ⟨rfl, rfl, (by decide : 0 + 1 + 0 + 1 + 1 ≤ _), (by decide : 0 + 4 + 0 + 4 + 4 ≤ _)⟩)
  dsimp only [Pt.U, Pt.locs, Pt.cells, Pt.slots] at X17_ l17_ y17_ z17_ st17_ hQ17_
  subst l17_ y17_ z17_
  obtain ⟨a, ka, xs, rfl, Nq17_, K17_, r20_, r21_, hxs⟩ := hQ17_
  have N17_ := Fr.app N7_ Nq17_
  refine own_via (fun _ kq => st17_.trans kq) ?_
  show own_Fin _ _ _ _ _ _ _ T17_ (mkF m 16 #[.val (.ref a1), .val (.ref b1_), .unset, .unset, .unset, .unset] [(.ref a)])
  have Vq : Arv Z T17_.heap a ka .char (3 : Int32) xs (.int 0) := r21_
  refine own_via (fun _ kq => XS.astoreN X17_.here hx rfl (hb hby own_d589) rfl rfl (l' := #[.val (.ref a1), .val (.ref b1_), .val (.ref a), .unset, .unset, .unset]) rfl kq) ?_
  refine own_via (fun _ kq => XS.aloadN X17_.here hx rfl (hb hby own_d590) rfl rfl kq) ?_
  show own_Fin _ _ _ _ _ _ _ T17_ (mkF m 18 #[.val (.ref a1), .val (.ref b1_), .val (.ref a), .unset, .unset, .unset] [(.ref a)])
  obtain ⟨c22_, Ar22_, -, S22_, M22_, -, -⟩ := (id Vq)
  refine own_via (fun _ kq => X17_.arraylength hx (own_eq rfl Ar22_.1) (State.isArrayOf_alike hZ.alike Ar22_.2.1) (g := (mkF m 18 #[.val (.ref a1), .val (.ref b1_), .val (.ref a), .unset, .unset, .unset] [(.ref a)])) rfl rfl (hb hby own_d591) _ (by rw [len_of S22_ M22_]; exact kq)) ?_
  show own_Fin _ _ _ _ _ _ _ T17_ (mkF m 19 #[.val (.ref a1), .val (.ref b1_), .val (.ref a), .unset, .unset, .unset] [(.int (3 : Int32))])
  refine own_via (fun _ kq => XS.istoreN X17_.here hx rfl (hb hby own_d592) rfl (l' := #[.val (.ref a1), .val (.ref b1_), .val (.ref a), .val (.int (3 : Int32)), .unset, .unset]) rfl kq) ?_
  refine own_via (fun _ kq => XS.iconst X17_.here hx rfl (hb hby own_d593) kq) ?_
  refine own_via (fun _ kq => XS.istore X17_.here hx rfl (hb hby own_d594) rfl (l' := #[.val (.ref a1), .val (.ref b1_), .val (.ref a), .val (.int (3 : Int32)), .val (.int (0 : Int32)), .unset]) rfl kq) ?_
  refine own_via (fun _ kq => XS.iload X17_.here hx rfl (hb hby own_d595) rfl kq) ?_
  refine own_via (fun _ kq => XS.iloadN X17_.here hx rfl (hb hby own_d596) rfl kq) ?_
  have hsb0 : own_sbp [own_fc c1, own_fc c2, own_fc c3] 0 3 (0 : Int32) (Int32.ofNat 3) (List.replicate 3 (.int 0)) := own_sb_new
  refine own_via (fun _ kq => XS.icmpNo X17_.here hx rfl (hb hby own_d597) rfl (tlt (by decide)).2.1 kq) ?_
  show own_Fin _ _ _ _ _ _ _ T17_ (mkF m 29 #[.val (.ref a1), .val (.ref b1_), .val (.ref a), .val (.int (3 : Int32)), .val (.int (0 : Int32)), .unset] [])
  refine own_via (fun _ kq => XS.aloadN X17_.here hx rfl (hb hby own_d601) rfl rfl kq) ?_
  refine own_via (fun _ kq => XS.iload X17_.here hx rfl (hb hby own_d602) rfl kq) ?_
  show own_Fin _ _ _ _ _ _ _ T17_ (mkF m 32 #[.val (.ref a1), .val (.ref b1_), .val (.ref a), .val (.int (3 : Int32)), .val (.int (0 : Int32)), .unset] [(.int (0 : Int32)), (.ref a)])
  obtain ⟨c23_, Ar23_, q23_, S23_, M23_, H23_, G23_⟩ := (id Vq)
  have hin23_ : ¬ ((0 : Int32) < 0 ∨ c23_.slots.size ≤ ((0 : Int32)).toNatClampNeg) := inb_of S23_ ⟨by decide, by decide⟩
  have hat23_ : c23_.slots[((0 : Int32)).toNatClampNeg]? = some (.int c1) := H23_.at hin23_ (hxs 0 (by simp))
  refine own_via (fun _ kq => X17_.caload hx (j := (0 : Int32)) (v := (.int c1)) (own_eq rfl Ar23_.1) (State.isArrayOf_alike hZ.alike Ar23_.2.1) Ar23_.2.2 hin23_ hat23_ (g := (mkF m 32 #[.val (.ref a1), .val (.ref b1_), .val (.ref a), .val (.int (3 : Int32)), .val (.int (0 : Int32)), .unset] [(.int (0 : Int32)), (.ref a)])) rfl rfl (hb hby own_d603) _ kq) ?_
  show own_Fin _ _ _ _ _ _ _ T17_ (mkF m 33 #[.val (.ref a1), .val (.ref b1_), .val (.ref a), .val (.int (3 : Int32)), .val (.int (0 : Int32)), .unset] [(.int c1)])
  refine own_via (fun _ kq => XS.istore X17_.here hx rfl (hb hby own_d604) rfl (l' := #[.val (.ref a1), .val (.ref b1_), .val (.ref a), .val (.int (3 : Int32)), .val (.int (0 : Int32)), .val (.int c1)]) rfl kq) ?_
  refine own_via (fun _ kq => XS.aloadN X17_.here hx rfl (hb hby own_d605) rfl rfl kq) ?_
  have s0 : ∀ (v : Int32) (hv : v = own_fc c1), own_Fin p e s below (own_Q_fold3 Z a1 cz t kt cd N2 vs c1 c2 c3 fm h0 n0) own_R_fold3.cells own_R_fold3.slots T17_ (mkF m 64 #[.val (.ref a1), .val (.ref b1_), .val (.ref a), .val (.int (3 : Int32)), .val (.int (0 : Int32)), .val (.int c1)] [(.int v), (.ref b1_)]) := by
    intro v hv
    subst hv
    show own_Fin _ _ _ _ _ _ _ T17_ (mkF m 64 #[.val (.ref a1), .val (.ref b1_), .val (.ref a), .val (.int (3 : Int32)), .val (.int (0 : Int32)), .val (.int c1)] [(.int (own_fc c1)), (.ref b1_)])
    have g24_ : n0 ≤ t0 := Nat.le_trans (Nat.le_trans Z0 E1_.1) r14_
    obtain ⟨cq25_, kq25_, q25_a, q25_b, q25_c⟩ := isOf hZ rfl (r9_.keep K17_)
    obtain ⟨_, _, ⟨T25_, L25_, k25_, n25_⟩, -, X25_, ⟨Lc25_, hQ25_, l25_, y25_, z25_⟩, st25_⟩ := X17_.virtualBack hx (y := (⟨"java/lang/StringBuilder", "append", "(C)Ljava/lang/StringBuilder;"⟩ : MethodName)) (z := (⟨"java/lang/StringBuilder", "append", "(C)Ljava/lang/StringBuilder;"⟩ : MethodName)) hown (mvT hZ (own_w hw 137 rfl)) (mvT hZ (own_w hw 138 rfl)) (notFace_of_selects (args := #[]) (mvT hZ (own_w hw 140 rfl))) (mvT hZ (own_w hw 140 rfl)) (mvT hZ (own_w hw 139 rfl)) (by decide) (backOf (W := 0) (own_rm_sbApp l Z a0 hw [] b1_ (own_fc c1) t0 kt0 (0 : Int32) (Int32.ofNat [c1, c2, c3].length) (List.replicate 3 (.int 0)) (0 : Int32) [own_fc c1, own_fc c2, own_fc c3] 0 3 cz fm T17_.heap n0 (Nat.le_trans Z0 (Nat.le_trans (Nat.le_trans E1_.1 K7_.1) K17_.1)) (((O0.ext E1_).keep K7_ (allS g8_ all0)).keep K17_ all0) S1 (by first | assumption | decide) S2 r_fm S3 S4 S5 (r9_.keep K17_) (r10_.keep K17_ nin0) (r11_.keep K17_ nin0) (r12_.keep K17_ nin0) (r13_.keep K17_ nin0) (r15_.keep K17_ nin0) (r16_.keep K17_) g8_ g24_ rfl (by decide) (by decide) hsb0 hrd rfl) hZ (own_w hw 141 rfl) (own_w hw 36 rfl) (by decide) (by decide)) q25_a q25_c (g := (mkF m 64 #[.val (.ref a1), .val (.ref b1_), .val (.ref a), .val (.int (3 : Int32)), .val (.int (0 : Int32)), .val (.int c1)] [(.int (own_fc c1)), (.ref b1_)])) rfl (by rw [hml]; rfl) (Steps.refl _) (argsL := [(.int (own_fc c1))]) (rest := []) (lenOf own_pd32 rfl) rfl (by show 2 * 0 + _ ≤ _; exact Nat.le_of_eq rfl) (hb hby own_d620) (fun _ _ => ⟨rfl, rfl, (by decide : 0 + 1 + 0 + 1 + 1 + 1 ≤ _), (by decide : 0 + 4 + 0 + 4 + 4 + 8 ≤ _)⟩)
    dsimp only [Pt.U, Pt.locs, Pt.cells, Pt.slots] at X25_ l25_ y25_ z25_ st25_ hQ25_
    subst l25_ y25_ z25_
    obtain ⟨u0_, ku0, cd0, M0, ws0, rfl, Nq25_, K25_, r26_, r27_, r28_, r29_, r30_, r31_, r32_, hsb1, hfr0⟩ := hQ25_
    have N25_ := Fr.app N17_ Nq25_
    refine own_via (fun _ kq => st25_.trans kq) ?_
    show own_Fin _ _ _ _ _ _ _ T25_ (mkF m 67 #[.val (.ref a1), .val (.ref b1_), .val (.ref a), .val (.int (3 : Int32)), .val (.int (0 : Int32)), .val (.int c1)] [(.ref b1_)])
    have gu0 : n0 ≤ u0_ := by
      rcases hfr0 with q | q
      · rw [q]; exact g24_
      · exact Nat.le_trans (Nat.le_trans Z0 (Nat.le_trans (Nat.le_trans E1_.1 K7_.1) K17_.1)) q
    have su0 : h0.size ≤ u0_ := by
      rcases hfr0 with q | q
      · rw [q]; exact (Nat.le_trans E1_.1 r14_)
      · exact Nat.le_trans (Nat.le_trans (Nat.le_trans E1_.1 K7_.1) K17_.1) q
    have q33_ : t0 ≠ a := Nat.ne_of_lt (Nat.lt_of_lt_of_le r16_.lt r20_)
    have nu0 : a ≠ u0_ := by
      rcases hfr0 with q | q
      · rw [q]; exact (Ne.symm q33_)
      · exact Nat.ne_of_lt (Nat.lt_of_lt_of_le (r21_).lt q)
    refine own_via (fun _ kq => XS.pop X25_.here hx rfl (hb hby own_d621) rfl rfl kq) ?_
    refine own_via (fun _ kq => XS.iinc X25_.here hx rfl (hb hby own_d622) rfl (l' := #[.val (.ref a1), .val (.ref b1_), .val (.ref a), .val (.int (3 : Int32)), .val (.int ((0 : Int32) + (1 : Int32))), .val (.int c1)]) rfl kq) ?_
    refine own_via (fun _ kq => XS.goto X25_.here hx rfl (pc0 := 71) (pc' := 23) rfl (hb hby own_d623) (by decide) (by decide) kq) ?_
    refine own_via (fun _ kq => XS.iload X25_.here hx rfl (hb hby own_d595) rfl kq) ?_
    refine own_via (fun _ kq => XS.iloadN X25_.here hx rfl (hb hby own_d596) rfl kq) ?_
    refine own_via (fun _ kq => XS.icmpNo X25_.here hx rfl (hb hby own_d597) rfl (tlt (by decide)).2.1 kq) ?_
    show own_Fin _ _ _ _ _ _ _ T25_ (mkF m 29 #[.val (.ref a1), .val (.ref b1_), .val (.ref a), .val (.int (3 : Int32)), .val (.int ((0 : Int32) + (1 : Int32))), .val (.int c1)] [])
    refine own_via (fun _ kq => XS.aloadN X25_.here hx rfl (hb hby own_d601) rfl rfl kq) ?_
    refine own_via (fun _ kq => XS.iload X25_.here hx rfl (hb hby own_d602) rfl kq) ?_
    show own_Fin _ _ _ _ _ _ _ T25_ (mkF m 32 #[.val (.ref a1), .val (.ref b1_), .val (.ref a), .val (.int (3 : Int32)), .val (.int ((0 : Int32) + (1 : Int32))), .val (.int c1)] [(.int ((0 : Int32) + (1 : Int32))), (.ref a)])
    have q35_ : b1_ ≠ a := Nat.ne_of_lt (Nat.lt_of_lt_of_le r9_.lt r20_)
    have f36_ := (Vq.keep K25_ (ninS (Ne.symm q35_) (ninS (Ne.symm q33_) nin0)))
    obtain ⟨c34_, Ar34_, q34_, S34_, M34_, H34_, G34_⟩ := (id f36_)
    have hin34_ : ¬ (((0 : Int32) + (1 : Int32)) < 0 ∨ c34_.slots.size ≤ (((0 : Int32) + (1 : Int32))).toNatClampNeg) := inb_of S34_ ⟨by decide, by decide⟩
    have hat34_ : c34_.slots[(((0 : Int32) + (1 : Int32))).toNatClampNeg]? = some (.int c2) := H34_.at hin34_ (hxs 1 (by simp))
    refine own_via (fun _ kq => X25_.caload hx (j := ((0 : Int32) + (1 : Int32))) (v := (.int c2)) (own_eq rfl Ar34_.1) (State.isArrayOf_alike hZ.alike Ar34_.2.1) Ar34_.2.2 hin34_ hat34_ (g := (mkF m 32 #[.val (.ref a1), .val (.ref b1_), .val (.ref a), .val (.int (3 : Int32)), .val (.int ((0 : Int32) + (1 : Int32))), .val (.int c1)] [(.int ((0 : Int32) + (1 : Int32))), (.ref a)])) rfl rfl (hb hby own_d603) _ kq) ?_
    show own_Fin _ _ _ _ _ _ _ T25_ (mkF m 33 #[.val (.ref a1), .val (.ref b1_), .val (.ref a), .val (.int (3 : Int32)), .val (.int ((0 : Int32) + (1 : Int32))), .val (.int c1)] [(.int c2)])
    refine own_via (fun _ kq => XS.istore X25_.here hx rfl (hb hby own_d604) rfl (l' := #[.val (.ref a1), .val (.ref b1_), .val (.ref a), .val (.int (3 : Int32)), .val (.int ((0 : Int32) + (1 : Int32))), .val (.int c2)]) rfl kq) ?_
    refine own_via (fun _ kq => XS.aloadN X25_.here hx rfl (hb hby own_d605) rfl rfl kq) ?_
    have s1 : ∀ (v : Int32) (hv : v = own_fc c2), own_Fin p e s below (own_Q_fold3 Z a1 cz t kt cd N2 vs c1 c2 c3 fm h0 n0) own_R_fold3.cells own_R_fold3.slots T25_ (mkF m 64 #[.val (.ref a1), .val (.ref b1_), .val (.ref a), .val (.int (3 : Int32)), .val (.int ((0 : Int32) + (1 : Int32))), .val (.int c2)] [(.int v), (.ref b1_)]) := by
      intro v hv
      subst hv
      show own_Fin _ _ _ _ _ _ _ T25_ (mkF m 64 #[.val (.ref a1), .val (.ref b1_), .val (.ref a), .val (.int (3 : Int32)), .val (.int ((0 : Int32) + (1 : Int32))), .val (.int c2)] [(.int (own_fc c2)), (.ref b1_)])
      have f38_ := ((((O0.ext E1_).keep K7_ (allS g8_ all0)).keep K17_ all0).keep K25_ (allS g8_ (allS g24_ all0)))
      obtain ⟨cq37_, kq37_, q37_a, q37_b, q37_c⟩ := isOf hZ rfl r26_
      obtain ⟨_, _, ⟨T37_, L37_, k37_, n37_⟩, -, X37_, ⟨Lc37_, hQ37_, l37_, y37_, z37_⟩, st37_⟩ := X25_.virtualBack hx (y := (⟨"java/lang/StringBuilder", "append", "(C)Ljava/lang/StringBuilder;"⟩ : MethodName)) (z := (⟨"java/lang/StringBuilder", "append", "(C)Ljava/lang/StringBuilder;"⟩ : MethodName)) hown (mvT hZ (own_w hw 137 rfl)) (mvT hZ (own_w hw 138 rfl)) (notFace_of_selects (args := #[]) (mvT hZ (own_w hw 140 rfl))) (mvT hZ (own_w hw 140 rfl)) (mvT hZ (own_w hw 139 rfl)) (by decide) (backOf (W := 0) (own_rm_sbApp l Z a0 hw [] b1_ (own_fc c2) u0_ ku0 cd0 M0 ws0 ((0 : Int32) + (1 : Int32)) [own_fc c1, own_fc c2, own_fc c3] 1 3 cz fm T25_.heap n0 (Nat.le_trans Z0 (Nat.le_trans (Nat.le_trans (Nat.le_trans E1_.1 K7_.1) K17_.1) K25_.1)) f38_ S1 (by first | assumption | decide) S2 r_fm S3 S4 S5 r26_ r27_ r28_ r29_ r30_ r31_ r32_ g8_ gu0 rfl (by decide) (by decide) hsb1 hrd rfl) hZ (own_w hw 141 rfl) (own_w hw 36 rfl) (by decide) (by decide)) q37_a q37_c (g := (mkF m 64 #[.val (.ref a1), .val (.ref b1_), .val (.ref a), .val (.int (3 : Int32)), .val (.int ((0 : Int32) + (1 : Int32))), .val (.int c2)] [(.int (own_fc c2)), (.ref b1_)])) rfl (by rw [hml]; rfl) (Steps.refl _) (argsL := [(.int (own_fc c2))]) (rest := []) (lenOf own_pd32 rfl) rfl (by show 2 * 0 + _ ≤ _; exact Nat.le_of_eq rfl) (hb hby own_d620) (fun _ _ => ⟨rfl, rfl, (by decide : 0 + 1 + 0 + 1 + 1 + 1 + 1 ≤ _), (by decide : 0 + 4 + 0 + 4 + 4 + 8 + 8 ≤ _)⟩)
      dsimp only [Pt.U, Pt.locs, Pt.cells, Pt.slots] at X37_ l37_ y37_ z37_ st37_ hQ37_
      subst l37_ y37_ z37_
      obtain ⟨u1_, ku1, cd1, M1, ws1, rfl, Nq37_, K37_, r39_, r40_, r41_, r42_, r43_, r44_, r45_, hsb2, hfr1⟩ := hQ37_
      have N37_ := Fr.app N25_ Nq37_
      refine own_via (fun _ kq => st37_.trans kq) ?_
      show own_Fin _ _ _ _ _ _ _ T37_ (mkF m 67 #[.val (.ref a1), .val (.ref b1_), .val (.ref a), .val (.int (3 : Int32)), .val (.int ((0 : Int32) + (1 : Int32))), .val (.int c2)] [(.ref b1_)])
      have gu1 : n0 ≤ u1_ := by
        rcases hfr1 with q | q
        · rw [q]; exact gu0
        · exact Nat.le_trans (Nat.le_trans Z0 (Nat.le_trans (Nat.le_trans (Nat.le_trans E1_.1 K7_.1) K17_.1) K25_.1)) q
      have su1 : h0.size ≤ u1_ := by
        rcases hfr1 with q | q
        · rw [q]; exact su0
        · exact Nat.le_trans (Nat.le_trans (Nat.le_trans (Nat.le_trans E1_.1 K7_.1) K17_.1) K25_.1) q
      have nu1 : a ≠ u1_ := by
        rcases hfr1 with q | q
        · rw [q]; exact nu0
        · exact Nat.ne_of_lt (Nat.lt_of_lt_of_le ((r21_.keep K25_ (ninS (Ne.symm q35_) (ninS (Ne.symm q33_) nin0)))).lt q)
      refine own_via (fun _ kq => XS.pop X37_.here hx rfl (hb hby own_d621) rfl rfl kq) ?_
      refine own_via (fun _ kq => XS.iinc X37_.here hx rfl (hb hby own_d622) rfl (l' := #[.val (.ref a1), .val (.ref b1_), .val (.ref a), .val (.int (3 : Int32)), .val (.int (((0 : Int32) + (1 : Int32)) + (1 : Int32))), .val (.int c2)]) rfl kq) ?_
      refine own_via (fun _ kq => XS.goto X37_.here hx rfl (pc0 := 71) (pc' := 23) rfl (hb hby own_d623) (by decide) (by decide) kq) ?_
      refine own_via (fun _ kq => XS.iload X37_.here hx rfl (hb hby own_d595) rfl kq) ?_
      refine own_via (fun _ kq => XS.iloadN X37_.here hx rfl (hb hby own_d596) rfl kq) ?_
      refine own_via (fun _ kq => XS.icmpNo X37_.here hx rfl (hb hby own_d597) rfl (tlt (by decide)).2.1 kq) ?_
      show own_Fin _ _ _ _ _ _ _ T37_ (mkF m 29 #[.val (.ref a1), .val (.ref b1_), .val (.ref a), .val (.int (3 : Int32)), .val (.int (((0 : Int32) + (1 : Int32)) + (1 : Int32))), .val (.int c2)] [])
      refine own_via (fun _ kq => XS.aloadN X37_.here hx rfl (hb hby own_d601) rfl rfl kq) ?_
      refine own_via (fun _ kq => XS.iload X37_.here hx rfl (hb hby own_d602) rfl kq) ?_
      show own_Fin _ _ _ _ _ _ _ T37_ (mkF m 32 #[.val (.ref a1), .val (.ref b1_), .val (.ref a), .val (.int (3 : Int32)), .val (.int (((0 : Int32) + (1 : Int32)) + (1 : Int32))), .val (.int c2)] [(.int (((0 : Int32) + (1 : Int32)) + (1 : Int32))), (.ref a)])
      obtain ⟨c46_, Ar46_, q46_, S46_, M46_, H46_, G46_⟩ := (id (f36_.keep K37_ (ninS (Ne.symm q35_) (ninS nu0 nin0))))
      have hin46_ : ¬ ((((0 : Int32) + (1 : Int32)) + (1 : Int32)) < 0 ∨ c46_.slots.size ≤ ((((0 : Int32) + (1 : Int32)) + (1 : Int32))).toNatClampNeg) := inb_of S46_ ⟨by decide, by decide⟩
      have hat46_ : c46_.slots[((((0 : Int32) + (1 : Int32)) + (1 : Int32))).toNatClampNeg]? = some (.int c3) := H46_.at hin46_ (hxs 2 (by simp))
      refine own_via (fun _ kq => X37_.caload hx (j := (((0 : Int32) + (1 : Int32)) + (1 : Int32))) (v := (.int c3)) (own_eq rfl Ar46_.1) (State.isArrayOf_alike hZ.alike Ar46_.2.1) Ar46_.2.2 hin46_ hat46_ (g := (mkF m 32 #[.val (.ref a1), .val (.ref b1_), .val (.ref a), .val (.int (3 : Int32)), .val (.int (((0 : Int32) + (1 : Int32)) + (1 : Int32))), .val (.int c2)] [(.int (((0 : Int32) + (1 : Int32)) + (1 : Int32))), (.ref a)])) rfl rfl (hb hby own_d603) _ kq) ?_
      show own_Fin _ _ _ _ _ _ _ T37_ (mkF m 33 #[.val (.ref a1), .val (.ref b1_), .val (.ref a), .val (.int (3 : Int32)), .val (.int (((0 : Int32) + (1 : Int32)) + (1 : Int32))), .val (.int c2)] [(.int c3)])
      refine own_via (fun _ kq => XS.istore X37_.here hx rfl (hb hby own_d604) rfl (l' := #[.val (.ref a1), .val (.ref b1_), .val (.ref a), .val (.int (3 : Int32)), .val (.int (((0 : Int32) + (1 : Int32)) + (1 : Int32))), .val (.int c3)]) rfl kq) ?_
      refine own_via (fun _ kq => XS.aloadN X37_.here hx rfl (hb hby own_d605) rfl rfl kq) ?_
      have s2 : ∀ (v : Int32) (hv : v = own_fc c3), own_Fin p e s below (own_Q_fold3 Z a1 cz t kt cd N2 vs c1 c2 c3 fm h0 n0) own_R_fold3.cells own_R_fold3.slots T37_ (mkF m 64 #[.val (.ref a1), .val (.ref b1_), .val (.ref a), .val (.int (3 : Int32)), .val (.int (((0 : Int32) + (1 : Int32)) + (1 : Int32))), .val (.int c3)] [(.int v), (.ref b1_)]) := by
        intro v hv
        subst hv
        show own_Fin _ _ _ _ _ _ _ T37_ (mkF m 64 #[.val (.ref a1), .val (.ref b1_), .val (.ref a), .val (.int (3 : Int32)), .val (.int (((0 : Int32) + (1 : Int32)) + (1 : Int32))), .val (.int c3)] [(.int (own_fc c3)), (.ref b1_)])
        obtain ⟨cq47_, kq47_, q47_a, q47_b, q47_c⟩ := isOf hZ rfl r39_
        obtain ⟨_, _, ⟨T47_, L47_, k47_, n47_⟩, -, X47_, ⟨Lc47_, hQ47_, l47_, y47_, z47_⟩, st47_⟩ := X37_.virtualBack hx (y := (⟨"java/lang/StringBuilder", "append", "(C)Ljava/lang/StringBuilder;"⟩ : MethodName)) (z := (⟨"java/lang/StringBuilder", "append", "(C)Ljava/lang/StringBuilder;"⟩ : MethodName)) hown (mvT hZ (own_w hw 137 rfl)) (mvT hZ (own_w hw 138 rfl)) (notFace_of_selects (args := #[]) (mvT hZ (own_w hw 140 rfl))) (mvT hZ (own_w hw 140 rfl)) (mvT hZ (own_w hw 139 rfl)) (by decide) (backOf (W := 0) (own_rm_sbApp l Z a0 hw [] b1_ (own_fc c3) u1_ ku1 cd1 M1 ws1 (((0 : Int32) + (1 : Int32)) + (1 : Int32)) [own_fc c1, own_fc c2, own_fc c3] 2 3 cz fm T37_.heap n0 (Nat.le_trans Z0 (Nat.le_trans (Nat.le_trans (Nat.le_trans (Nat.le_trans E1_.1 K7_.1) K17_.1) K25_.1) K37_.1)) (f38_.keep K37_ (allS g8_ (allS gu0 all0))) S1 (by first | assumption | decide) S2 r_fm S3 S4 S5 r39_ r40_ r41_ r42_ r43_ r44_ r45_ g8_ gu1 rfl (by decide) (by decide) hsb2 hrd rfl) hZ (own_w hw 141 rfl) (own_w hw 36 rfl) (by decide) (by decide)) q47_a q47_c (g := (mkF m 64 #[.val (.ref a1), .val (.ref b1_), .val (.ref a), .val (.int (3 : Int32)), .val (.int (((0 : Int32) + (1 : Int32)) + (1 : Int32))), .val (.int c3)] [(.int (own_fc c3)), (.ref b1_)])) rfl (by rw [hml]; rfl) (Steps.refl _) (argsL := [(.int (own_fc c3))]) (rest := []) (lenOf own_pd32 rfl) rfl (by show 2 * 0 + _ ≤ _; exact Nat.le_of_eq rfl) (hb hby own_d620) (fun _ _ => ⟨rfl, rfl, (by decide : 0 + 1 + 0 + 1 + 1 + 1 + 1 + 1 ≤ _), (by decide : 0 + 4 + 0 + 4 + 4 + 8 + 8 + 8 ≤ _)⟩)
        dsimp only [Pt.U, Pt.locs, Pt.cells, Pt.slots] at X47_ l47_ y47_ z47_ st47_ hQ47_
        subst l47_ y47_ z47_
        obtain ⟨u2_, ku2, cd2, M2, ws2, rfl, Nq47_, K47_, r48_, r49_, r50_, r51_, r52_, r53_, r54_, hsb3, hfr2⟩ := hQ47_
        have N47_ := Fr.app N37_ Nq47_
        refine own_via (fun _ kq => st47_.trans kq) ?_
        show own_Fin _ _ _ _ _ _ _ T47_ (mkF m 67 #[.val (.ref a1), .val (.ref b1_), .val (.ref a), .val (.int (3 : Int32)), .val (.int (((0 : Int32) + (1 : Int32)) + (1 : Int32))), .val (.int c3)] [(.ref b1_)])
        have gu2 : n0 ≤ u2_ := by
          rcases hfr2 with q | q
          · rw [q]; exact gu1
          · exact Nat.le_trans (Nat.le_trans Z0 (Nat.le_trans (Nat.le_trans (Nat.le_trans (Nat.le_trans E1_.1 K7_.1) K17_.1) K25_.1) K37_.1)) q
        have su2 : h0.size ≤ u2_ := by
          rcases hfr2 with q | q
          · rw [q]; exact su1
          · exact Nat.le_trans (Nat.le_trans (Nat.le_trans (Nat.le_trans (Nat.le_trans E1_.1 K7_.1) K17_.1) K25_.1) K37_.1) q
        have nu2 : a ≠ u2_ := by
          rcases hfr2 with q | q
          · rw [q]; exact nu1
          · exact Nat.ne_of_lt (Nat.lt_of_lt_of_le (((r21_.keep K25_ (ninS (Ne.symm q35_) (ninS (Ne.symm q33_) nin0))).keep K37_ (ninS (Ne.symm q35_) (ninS nu0 nin0)))).lt q)
        refine own_via (fun _ kq => XS.pop X47_.here hx rfl (hb hby own_d621) rfl rfl kq) ?_
        refine own_via (fun _ kq => XS.iinc X47_.here hx rfl (hb hby own_d622) rfl (l' := #[.val (.ref a1), .val (.ref b1_), .val (.ref a), .val (.int (3 : Int32)), .val (.int ((((0 : Int32) + (1 : Int32)) + (1 : Int32)) + (1 : Int32))), .val (.int c3)]) rfl kq) ?_
        refine own_via (fun _ kq => XS.goto X47_.here hx rfl (pc0 := 71) (pc' := 23) rfl (hb hby own_d623) (by decide) (by decide) kq) ?_
        refine own_via (fun _ kq => XS.iload X47_.here hx rfl (hb hby own_d595) rfl kq) ?_
        refine own_via (fun _ kq => XS.iloadN X47_.here hx rfl (hb hby own_d596) rfl kq) ?_
        refine own_via (fun _ kq => XS.icmpYes X47_.here hx rfl (pc0 := 26) (pc' := 74) rfl (hb hby own_d597) rfl (flt (by decide)).2.1 (by decide) (by decide) kq) ?_
        show own_Fin _ _ _ _ _ _ _ T47_ (mkF m 74 #[.val (.ref a1), .val (.ref b1_), .val (.ref a), .val (.int (3 : Int32)), .val (.int ((((0 : Int32) + (1 : Int32)) + (1 : Int32)) + (1 : Int32))), .val (.int c3)] [])
        refine own_via (fun _ kq => XS.aloadN X47_.here hx rfl (hb hby own_d598) rfl rfl kq) ?_
        show own_Fin _ _ _ _ _ _ _ T47_ (mkF m 75 #[.val (.ref a1), .val (.ref b1_), .val (.ref a), .val (.int (3 : Int32)), .val (.int ((((0 : Int32) + (1 : Int32)) + (1 : Int32)) + (1 : Int32))), .val (.int c3)] [(.ref b1_)])
        have f56_ := ((f38_.keep K37_ (allS g8_ (allS gu0 all0))).keep K47_ (allS g8_ (allS gu1 all0)))
        obtain ⟨cq55_, kq55_, q55_a, q55_b, q55_c⟩ := isOf hZ rfl r48_
        obtain ⟨_, _, ⟨T55_, L55_, k55_, n55_⟩, -, X55_, ⟨Lc55_, hQ55_, l55_, y55_, z55_⟩, st55_⟩ := X47_.virtualBack hx (y := (⟨"java/lang/StringBuilder", "toString", "()Ljava/lang/String;"⟩ : MethodName)) (z := (⟨"java/lang/StringBuilder", "toString", "()Ljava/lang/String;"⟩ : MethodName)) hown (mvT hZ (own_w hw 80 rfl)) (mvT hZ (own_w hw 81 rfl)) (notFace_of_selects (args := #[]) (mvT hZ (own_w hw 83 rfl))) (mvT hZ (own_w hw 83 rfl)) (mvT hZ (own_w hw 82 rfl)) (by decide) (backOf (W := 0) (own_rm_sbToS l Z a0 hw [] b1_ u2_ ku2 cd2 M2 ws2 ((((0 : Int32) + (1 : Int32)) + (1 : Int32)) + (1 : Int32)) [own_fc c1, own_fc c2, own_fc c3] cz T47_.heap n0 (Nat.le_trans Z0 (Nat.le_trans (Nat.le_trans (Nat.le_trans (Nat.le_trans (Nat.le_trans E1_.1 K7_.1) K17_.1) K25_.1) K37_.1) K47_.1)) f56_ S1 (by first | assumption | decide) r48_ r49_ r50_ r51_ r52_ r53_ r54_ rfl (by simp) hsb3) hZ (own_w hw 84 rfl) (own_w hw 36 rfl) (by decide) (by decide)) q55_a q55_c (g := (mkF m 75 #[.val (.ref a1), .val (.ref b1_), .val (.ref a), .val (.int (3 : Int32)), .val (.int ((((0 : Int32) + (1 : Int32)) + (1 : Int32)) + (1 : Int32))), .val (.int c3)] [(.ref b1_)])) rfl (by rw [hml]; rfl) (Steps.refl _) (argsL := []) (rest := []) (lenOf own_pd31 rfl) rfl (by show 2 * 0 + _ ≤ _; exact Nat.le_of_eq rfl) (hb hby own_d599) (fun _ _ => ⟨rfl, rfl, (by decide : 0 + 1 + 0 + 1 + 1 + 1 + 1 + 1 + 2 ≤ _), (by decide : 0 + 4 + 0 + 4 + 4 + 8 + 8 + 8 + 12 ≤ _)⟩)
        dsimp only [Pt.U, Pt.locs, Pt.cells, Pt.slots] at X55_ l55_ y55_ z55_ st55_ hQ55_
        subst l55_ y55_ z55_
        obtain ⟨x, u, ku, cd2, M2, ws, rfl, Nq55_, K55_, r57_, r58_, r59_, r60_, r61_, hcod⟩ := hQ55_
        have N55_ := Fr.app N47_ Nq55_
        refine own_via (fun _ kq => st55_.trans kq) ?_
        show own_Fin _ _ _ _ _ _ _ T55_ (mkF m 78 #[.val (.ref a1), .val (.ref b1_), .val (.ref a), .val (.int (3 : Int32)), .val (.int ((((0 : Int32) + (1 : Int32)) + (1 : Int32)) + (1 : Int32))), .val (.int c3)] [(.ref x)])
        exact own_retA X55_ hx Bd.returns Bd.notSynchronized rfl rfl (hb hby own_d600) rfl ⟨x, u, ku, cd2, M2, ws, rfl, N55_, ((((((((Keep.refl h0 []).ext E1_).trans K7_ (allS (Or.inr (Nat.le_of_eq g1_.symm)) all0)).trans K17_ all0).trans K25_ (allS (Or.inr (Nat.le_of_eq g1_.symm)) (allS (Or.inr (Nat.le_trans E1_.1 r14_)) all0))).trans K37_ (allS (Or.inr (Nat.le_of_eq g1_.symm)) (allS (Or.inr su0) all0))).trans K47_ (allS (Or.inr (Nat.le_of_eq g1_.symm)) (allS (Or.inr su1) all0))).trans K55_ all0), (Nat.le_trans (Nat.le_trans (Nat.le_trans (Nat.le_trans (Nat.le_trans (Nat.le_trans E1_.1 K7_.1) K17_.1) K25_.1) K37_.1) K47_.1) r57_), r58_, r59_, r60_, r61_, hcod⟩ (by decide) (by decide)
      refine own_via (fun _ kq => XS.iload X37_.here hx rfl (hb hby own_d606) rfl kq) ?_
      refine own_via (fun _ kq => XS.bipush X37_.here hx rfl (hb hby own_d607) kq) ?_
      rcases Classical.em (c3 < (65 : Int32)) with ha | ha
      · refine own_via (fun _ kq => XS.icmpYes X37_.here hx rfl (pc0 := 40) (pc' := 62) rfl (hb hby own_d608) rfl (tlt ha).1 (by decide) (by decide) kq) ?_
        show own_Fin _ _ _ _ _ _ _ T37_ (mkF m 62 #[.val (.ref a1), .val (.ref b1_), .val (.ref a), .val (.int (3 : Int32)), .val (.int (((0 : Int32) + (1 : Int32)) + (1 : Int32))), .val (.int c3)] [(.ref b1_)])
        refine own_via (fun _ kq => XS.iload X37_.here hx rfl (hb hby own_d609) rfl kq) ?_
        show own_Fin _ _ _ _ _ _ _ T37_ (mkF m 64 #[.val (.ref a1), .val (.ref b1_), .val (.ref a), .val (.int (3 : Int32)), .val (.int (((0 : Int32) + (1 : Int32)) + (1 : Int32))), .val (.int c3)] [(.int c3), (.ref b1_)])
        exact s2 _ (own_fc_a ha)
      · refine own_via (fun _ kq => XS.icmpNo X37_.here hx rfl (hb hby own_d608) rfl (flt ha).1 kq) ?_
        show own_Fin _ _ _ _ _ _ _ T37_ (mkF m 43 #[.val (.ref a1), .val (.ref b1_), .val (.ref a), .val (.int (3 : Int32)), .val (.int (((0 : Int32) + (1 : Int32)) + (1 : Int32))), .val (.int c3)] [(.ref b1_)])
        refine own_via (fun _ kq => XS.iload X37_.here hx rfl (hb hby own_d610) rfl kq) ?_
        refine own_via (fun _ kq => XS.bipush X37_.here hx rfl (hb hby own_d611) kq) ?_
        rcases Classical.em ((90 : Int32) < c3) with hb_ | hb_
        · refine own_via (fun _ kq => XS.icmpYes X37_.here hx rfl (pc0 := 47) (pc' := 62) rfl (hb hby own_d612) rfl (tlt hb_).2.2.1 (by decide) (by decide) kq) ?_
          show own_Fin _ _ _ _ _ _ _ T37_ (mkF m 62 #[.val (.ref a1), .val (.ref b1_), .val (.ref a), .val (.int (3 : Int32)), .val (.int (((0 : Int32) + (1 : Int32)) + (1 : Int32))), .val (.int c3)] [(.ref b1_)])
          refine own_via (fun _ kq => XS.iload X37_.here hx rfl (hb hby own_d609) rfl kq) ?_
          show own_Fin _ _ _ _ _ _ _ T37_ (mkF m 64 #[.val (.ref a1), .val (.ref b1_), .val (.ref a), .val (.int (3 : Int32)), .val (.int (((0 : Int32) + (1 : Int32)) + (1 : Int32))), .val (.int c3)] [(.int c3), (.ref b1_)])
          exact s2 _ (own_fc_b hb_)
        · refine own_via (fun _ kq => XS.icmpNo X37_.here hx rfl (hb hby own_d612) rfl (flt hb_).2.2.1 kq) ?_
          show own_Fin _ _ _ _ _ _ _ T37_ (mkF m 50 #[.val (.ref a1), .val (.ref b1_), .val (.ref a), .val (.int (3 : Int32)), .val (.int (((0 : Int32) + (1 : Int32)) + (1 : Int32))), .val (.int c3)] [(.ref b1_)])
          refine own_via (fun _ kq => XS.iload X37_.here hx rfl (hb hby own_d613) rfl kq) ?_
          refine own_via (fun _ kq => XS.bipush X37_.here hx rfl (hb hby own_d614) kq) ?_
          refine own_via (fun _ kq => XS.isub X37_.here hx rfl (hb hby own_d615) rfl kq) ?_
          show own_Fin _ _ _ _ _ _ _ T37_ (mkF m 55 #[.val (.ref a1), .val (.ref b1_), .val (.ref a), .val (.int (3 : Int32)), .val (.int (((0 : Int32) + (1 : Int32)) + (1 : Int32))), .val (.int c3)] [(.int (c3 - (65 : Int32))), (.ref b1_)])
          refine own_via (fun _ kq => XS.bipush X37_.here hx rfl (hb hby own_d616) kq) ?_
          refine own_via (fun _ kq => XS.iadd X37_.here hx rfl (hb hby own_d617) rfl kq) ?_
          refine own_via (fun _ kq => XS.i2c X37_.here hx rfl (hb hby own_d618) rfl kq) ?_
          refine own_via (fun _ kq => XS.goto X37_.here hx rfl (pc0 := 59) (pc' := 64) rfl (hb hby own_d619) (by decide) (by decide) kq) ?_
          show own_Fin _ _ _ _ _ _ _ T37_ (mkF m 64 #[.val (.ref a1), .val (.ref b1_), .val (.ref a), .val (.int (3 : Int32)), .val (.int (((0 : Int32) + (1 : Int32)) + (1 : Int32))), .val (.int c3)] [(.int (((c3 - (65 : Int32)) + (97 : Int32)).toUInt32.toUInt16.toUInt32.toInt32)), (.ref b1_)])
          exact s2 _ (own_fc_c ha hb_)
    refine own_via (fun _ kq => XS.iload X25_.here hx rfl (hb hby own_d606) rfl kq) ?_
    refine own_via (fun _ kq => XS.bipush X25_.here hx rfl (hb hby own_d607) kq) ?_
    rcases Classical.em (c2 < (65 : Int32)) with ha | ha
    · refine own_via (fun _ kq => XS.icmpYes X25_.here hx rfl (pc0 := 40) (pc' := 62) rfl (hb hby own_d608) rfl (tlt ha).1 (by decide) (by decide) kq) ?_
      show own_Fin _ _ _ _ _ _ _ T25_ (mkF m 62 #[.val (.ref a1), .val (.ref b1_), .val (.ref a), .val (.int (3 : Int32)), .val (.int ((0 : Int32) + (1 : Int32))), .val (.int c2)] [(.ref b1_)])
      refine own_via (fun _ kq => XS.iload X25_.here hx rfl (hb hby own_d609) rfl kq) ?_
      show own_Fin _ _ _ _ _ _ _ T25_ (mkF m 64 #[.val (.ref a1), .val (.ref b1_), .val (.ref a), .val (.int (3 : Int32)), .val (.int ((0 : Int32) + (1 : Int32))), .val (.int c2)] [(.int c2), (.ref b1_)])
      exact s1 _ (own_fc_a ha)
    · refine own_via (fun _ kq => XS.icmpNo X25_.here hx rfl (hb hby own_d608) rfl (flt ha).1 kq) ?_
      show own_Fin _ _ _ _ _ _ _ T25_ (mkF m 43 #[.val (.ref a1), .val (.ref b1_), .val (.ref a), .val (.int (3 : Int32)), .val (.int ((0 : Int32) + (1 : Int32))), .val (.int c2)] [(.ref b1_)])
      refine own_via (fun _ kq => XS.iload X25_.here hx rfl (hb hby own_d610) rfl kq) ?_
      refine own_via (fun _ kq => XS.bipush X25_.here hx rfl (hb hby own_d611) kq) ?_
      rcases Classical.em ((90 : Int32) < c2) with hb_ | hb_
      · refine own_via (fun _ kq => XS.icmpYes X25_.here hx rfl (pc0 := 47) (pc' := 62) rfl (hb hby own_d612) rfl (tlt hb_).2.2.1 (by decide) (by decide) kq) ?_
        show own_Fin _ _ _ _ _ _ _ T25_ (mkF m 62 #[.val (.ref a1), .val (.ref b1_), .val (.ref a), .val (.int (3 : Int32)), .val (.int ((0 : Int32) + (1 : Int32))), .val (.int c2)] [(.ref b1_)])
        refine own_via (fun _ kq => XS.iload X25_.here hx rfl (hb hby own_d609) rfl kq) ?_
        show own_Fin _ _ _ _ _ _ _ T25_ (mkF m 64 #[.val (.ref a1), .val (.ref b1_), .val (.ref a), .val (.int (3 : Int32)), .val (.int ((0 : Int32) + (1 : Int32))), .val (.int c2)] [(.int c2), (.ref b1_)])
        exact s1 _ (own_fc_b hb_)
      · refine own_via (fun _ kq => XS.icmpNo X25_.here hx rfl (hb hby own_d612) rfl (flt hb_).2.2.1 kq) ?_
        show own_Fin _ _ _ _ _ _ _ T25_ (mkF m 50 #[.val (.ref a1), .val (.ref b1_), .val (.ref a), .val (.int (3 : Int32)), .val (.int ((0 : Int32) + (1 : Int32))), .val (.int c2)] [(.ref b1_)])
        refine own_via (fun _ kq => XS.iload X25_.here hx rfl (hb hby own_d613) rfl kq) ?_
        refine own_via (fun _ kq => XS.bipush X25_.here hx rfl (hb hby own_d614) kq) ?_
        refine own_via (fun _ kq => XS.isub X25_.here hx rfl (hb hby own_d615) rfl kq) ?_
        show own_Fin _ _ _ _ _ _ _ T25_ (mkF m 55 #[.val (.ref a1), .val (.ref b1_), .val (.ref a), .val (.int (3 : Int32)), .val (.int ((0 : Int32) + (1 : Int32))), .val (.int c2)] [(.int (c2 - (65 : Int32))), (.ref b1_)])
        refine own_via (fun _ kq => XS.bipush X25_.here hx rfl (hb hby own_d616) kq) ?_
        refine own_via (fun _ kq => XS.iadd X25_.here hx rfl (hb hby own_d617) rfl kq) ?_
        refine own_via (fun _ kq => XS.i2c X25_.here hx rfl (hb hby own_d618) rfl kq) ?_
        refine own_via (fun _ kq => XS.goto X25_.here hx rfl (pc0 := 59) (pc' := 64) rfl (hb hby own_d619) (by decide) (by decide) kq) ?_
        show own_Fin _ _ _ _ _ _ _ T25_ (mkF m 64 #[.val (.ref a1), .val (.ref b1_), .val (.ref a), .val (.int (3 : Int32)), .val (.int ((0 : Int32) + (1 : Int32))), .val (.int c2)] [(.int (((c2 - (65 : Int32)) + (97 : Int32)).toUInt32.toUInt16.toUInt32.toInt32)), (.ref b1_)])
        exact s1 _ (own_fc_c ha hb_)
  refine own_via (fun _ kq => XS.iload X17_.here hx rfl (hb hby own_d606) rfl kq) ?_
  refine own_via (fun _ kq => XS.bipush X17_.here hx rfl (hb hby own_d607) kq) ?_
  rcases Classical.em (c1 < (65 : Int32)) with ha | ha
  · refine own_via (fun _ kq => XS.icmpYes X17_.here hx rfl (pc0 := 40) (pc' := 62) rfl (hb hby own_d608) rfl (tlt ha).1 (by decide) (by decide) kq) ?_
    show own_Fin _ _ _ _ _ _ _ T17_ (mkF m 62 #[.val (.ref a1), .val (.ref b1_), .val (.ref a), .val (.int (3 : Int32)), .val (.int (0 : Int32)), .val (.int c1)] [(.ref b1_)])
    refine own_via (fun _ kq => XS.iload X17_.here hx rfl (hb hby own_d609) rfl kq) ?_
    show own_Fin _ _ _ _ _ _ _ T17_ (mkF m 64 #[.val (.ref a1), .val (.ref b1_), .val (.ref a), .val (.int (3 : Int32)), .val (.int (0 : Int32)), .val (.int c1)] [(.int c1), (.ref b1_)])
    exact s0 _ (own_fc_a ha)
  · refine own_via (fun _ kq => XS.icmpNo X17_.here hx rfl (hb hby own_d608) rfl (flt ha).1 kq) ?_
    show own_Fin _ _ _ _ _ _ _ T17_ (mkF m 43 #[.val (.ref a1), .val (.ref b1_), .val (.ref a), .val (.int (3 : Int32)), .val (.int (0 : Int32)), .val (.int c1)] [(.ref b1_)])
    refine own_via (fun _ kq => XS.iload X17_.here hx rfl (hb hby own_d610) rfl kq) ?_
    refine own_via (fun _ kq => XS.bipush X17_.here hx rfl (hb hby own_d611) kq) ?_
    rcases Classical.em ((90 : Int32) < c1) with hb_ | hb_
    · refine own_via (fun _ kq => XS.icmpYes X17_.here hx rfl (pc0 := 47) (pc' := 62) rfl (hb hby own_d612) rfl (tlt hb_).2.2.1 (by decide) (by decide) kq) ?_
      show own_Fin _ _ _ _ _ _ _ T17_ (mkF m 62 #[.val (.ref a1), .val (.ref b1_), .val (.ref a), .val (.int (3 : Int32)), .val (.int (0 : Int32)), .val (.int c1)] [(.ref b1_)])
      refine own_via (fun _ kq => XS.iload X17_.here hx rfl (hb hby own_d609) rfl kq) ?_
      show own_Fin _ _ _ _ _ _ _ T17_ (mkF m 64 #[.val (.ref a1), .val (.ref b1_), .val (.ref a), .val (.int (3 : Int32)), .val (.int (0 : Int32)), .val (.int c1)] [(.int c1), (.ref b1_)])
      exact s0 _ (own_fc_b hb_)
    · refine own_via (fun _ kq => XS.icmpNo X17_.here hx rfl (hb hby own_d612) rfl (flt hb_).2.2.1 kq) ?_
      show own_Fin _ _ _ _ _ _ _ T17_ (mkF m 50 #[.val (.ref a1), .val (.ref b1_), .val (.ref a), .val (.int (3 : Int32)), .val (.int (0 : Int32)), .val (.int c1)] [(.ref b1_)])
      refine own_via (fun _ kq => XS.iload X17_.here hx rfl (hb hby own_d613) rfl kq) ?_
      refine own_via (fun _ kq => XS.bipush X17_.here hx rfl (hb hby own_d614) kq) ?_
      refine own_via (fun _ kq => XS.isub X17_.here hx rfl (hb hby own_d615) rfl kq) ?_
      show own_Fin _ _ _ _ _ _ _ T17_ (mkF m 55 #[.val (.ref a1), .val (.ref b1_), .val (.ref a), .val (.int (3 : Int32)), .val (.int (0 : Int32)), .val (.int c1)] [(.int (c1 - (65 : Int32))), (.ref b1_)])
      refine own_via (fun _ kq => XS.bipush X17_.here hx rfl (hb hby own_d616) kq) ?_
      refine own_via (fun _ kq => XS.iadd X17_.here hx rfl (hb hby own_d617) rfl kq) ?_
      refine own_via (fun _ kq => XS.i2c X17_.here hx rfl (hb hby own_d618) rfl kq) ?_
      refine own_via (fun _ kq => XS.goto X17_.here hx rfl (pc0 := 59) (pc' := 64) rfl (hb hby own_d619) (by decide) (by decide) kq) ?_
      show own_Fin _ _ _ _ _ _ _ T17_ (mkF m 64 #[.val (.ref a1), .val (.ref b1_), .val (.ref a), .val (.int (3 : Int32)), .val (.int (0 : Int32)), .val (.int c1)] [(.int (((c1 - (65 : Int32)) + (97 : Int32)).toUInt32.toUInt16.toUInt32.toInt32)), (.ref b1_)])
      exact s0 _ (own_fc_c ha hb_)
theorem own_ef_fold4 (m : MethodId) (a1 : Addr) : entryFrame m #[(.ref a1)] 6 = mkF m 0 #[.val (.ref a1), .unset, .unset, .unset, .unset, .unset] [] := by (first | (simp [entryFrame, mkF, argsToLocals, Value.category]; done) | rfl)
def own_Q_fold4 (Z : State) (a1 : Addr) (cz : Int32) (t : Addr) (kt : ClassId) (cd : Int32) (N2 : Int32) (vs : List Value) (c1 : Int32) (c2 : Int32) (c3 : Int32) (c4 : Int32) (fm : Value) (h0 : Heap) (n0 : Nat) (vq : Option Value) (h : Heap) (Lq : List Loc) : Prop := ∃ (x : Addr) (u : Addr) (ku : ClassId) (cd2 : Int32) (M2 : Int32) (ws : List Value), (vq = some (.ref x)) ∧ (Fr n0 Lq) ∧ (Keep h0 h []) ∧ (h0.size ≤ x) ∧ (Exa Z h x "java/lang/String") ∧ (Fld Z h x "java/lang/String" "coder" "B" (.int cd2)) ∧ (Fld Z h x "java/lang/String" "value" "[B" (.ref u)) ∧ (Arv Z h u ku .byte M2 ws (.int 0)) ∧ (own_cod [own_fc c1, own_fc c2, own_fc c3, own_fc c4] cd2 M2 ws)
abbrev own_R_fold4 : Room := { frames := 8, cells := 9, slots := 56, locals := 115 }
set_option maxRecDepth 65536 in
set_option maxHeartbeats 40000000 in
theorem own_rm_fold4 (l : Launch) (Z : State) (a0 : Array Value) (hw : ∀ d ∈ tables_1, d.before a0 Z = true) (wsq : List Jvm.Cond) (a1 : Addr) (cz : Int32) (t : Addr) (kt : ClassId) (cd : Int32) (N2 : Int32) (vs : List Value) (c1 : Int32) (c2 : Int32) (c3 : Int32) (c4 : Int32) (fm : Value) (h0 : Heap) (n0 : Nat) (Z0 : n0 ≤ h0.size) (O0 : Old Z n0 h0) (S1 : Sta Z Z.heap "java/lang/String" "COMPACT_STRINGS" "Z" (.int cz)) (P5 : ¬ cz = (0 : Int32)) (S2 : Sta Z Z.heap "jdk/internal/util/Preconditions" "SIOOBE_FORMATTER" "Ljava/util/function/BiFunction;" fm) (r_fm : fm.isRef = true) (S3 : Sta Z Z.heap "java/lang/StringUTF16" "$assertionsDisabled" "Z" (.int (1 : Int32))) (S4 : Sta Z Z.heap "java/lang/StringUTF16" "HI_BYTE_SHIFT" "I" (.int (0 : Int32))) (S5 : Sta Z Z.heap "java/lang/StringUTF16" "LO_BYTE_SHIFT" "I" (.int (8 : Int32))) (E1 : Exa Z h0 a1 "java/lang/String") (F1 : Fld Z h0 a1 "java/lang/String" "coder" "B" (.int cd)) (F2 : Fld Z h0 a1 "java/lang/String" "value" "[B" (.ref t)) (Va : Arv Z h0 t kt .byte N2 vs (.int 0)) (hc : own_cod [c1, c2, c3, c4] cd N2 vs) (hr : own_chs [c1, c2, c3, c4]) :
    MetFree l (⟨"com/example/even_rows/evenrows/mapping/SqlName", "folded", "(Ljava/lang/String;)Ljava/lang/String;"⟩ : MethodName) (head1 (Jvm.Cond.code (⟨"com/example/even_rows/evenrows/mapping/SqlName", "folded", "(Ljava/lang/String;)Ljava/lang/String;"⟩ : MethodName) prog_7_method_3_code 6 (some (.object "java/lang/String")) :: wsq) own_R_fold4) (fun aq Uq => aq = #[(.ref a1)] ∧ Z.Warmed39 Uq.vm ∧ Uq.heap = h0) (fun _ _ _ _ _ => True) (fun _ Uq oq Uq' => ∃ vq Lq, oq = .returned vq ∧ own_Q_fold4 Z a1 cz t kt cd N2 vs c1 c2 c3 c4 fm h0 n0 vq Uq'.heap Lq ∧ FrameEnd Uq oq Uq' Lq own_R_fold4.cells own_R_fold4.slots) := by
  refine MetFree.of_bodySF (plainFor_of_name own_pn7) hisR ?_
  intro p e s m args below meth cde s₁ Bd hml0 hP hK
  obtain ⟨rfl, hZ, hh⟩ := hP
  have hx := Bd.exec
  have hby := Bd.bytes
  have hml : cde.maxLocals = 6 := hml0
  have hown : s.vm.findClass "com/example/even_rows/evenrows/mapping/SqlName" = some m.cls := findClass_of_methodNamed Bd.named
  have hnm := (name_of_methodNamed Bd.named Bd.method).1
  have X0 : Stand p l e own_R_fold4 s m #[(.ref a1)] below meth cde s₁ [] 0 0 := Stand.of_body Bd
  have e0 : s₁.heap = h0 := by rw [← hh, Bd.state]; rfl
  have N0 := Fr.nil n0
  show own_Fin p e s below (own_Q_fold4 Z a1 cz t kt cd N2 vs c1 c2 c3 c4 fm h0 n0) own_R_fold4.cells own_R_fold4.slots s₁ (entryFrame m #[(.ref a1)] 6)
  rw [own_ef_fold4 m a1]
  have hrd : own_chs [own_fc c1, own_fc c2, own_fc c3, own_fc c4] := own_fcs4 hr
  obtain ⟨T1_, h1_, X1_, e1_, E1_, A1_, D1_, -, st1_⟩ := newO X0 hx hZ hown (own_w hw 34 rfl) (own_w hw 35 rfl) (own_w hw 36 rfl) e0 (g := (mkF m 0 #[.val (.ref a1), .unset, .unset, .unset, .unset, .unset] [])) rfl (hb hby own_d581) (by decide) (by decide)
  obtain ⟨b1_, g1_⟩ : ∃ z, z = h0.size := ⟨_, rfl⟩
  rw [← g1_] at A1_ D1_ st1_
  have F2_ : Fld Z h1_ b1_ "java/lang/AbstractStringBuilder" "value" "[B" .null := D1_ (Or.inl (own_w hw 60 rfl)) (ty := (.array .byte)) (by decide)
  have F3_ : Fld Z h1_ b1_ "java/lang/AbstractStringBuilder" "coder" "B" (.int (0 : Int32)) := D1_ (Or.inl (own_w hw 62 rfl)) (ty := .byte) (by decide)
  have F4_ : Fld Z h1_ b1_ "java/lang/AbstractStringBuilder" "count" "I" (.int (0 : Int32)) := D1_ (Or.inl (own_w hw 107 rfl)) (ty := .int) (by decide)
  have F5_ : Fld Z h1_ b1_ "java/lang/AbstractStringBuilder" "maybeLatin1" "Z" (.int (0 : Int32)) := D1_ (Or.inl (own_w hw 231 rfl)) (ty := .boolean) (by decide)
  refine own_via (fun _ kq => st1_ _ kq) ?_
  show own_Fin _ _ _ _ _ _ _ T1_ (mkF m 3 #[.val (.ref a1), .unset, .unset, .unset, .unset, .unset] [(.ref b1_)])
  refine own_via (fun _ kq => XS.dup X1_.here hx rfl (hb hby own_d582) rfl rfl kq) ?_
  refine own_via (fun _ kq => XS.aloadN X1_.here hx rfl (hb hby own_d583) rfl rfl kq) ?_
  show own_Fin _ _ _ _ _ _ _ T1_ (mkF m 5 #[.val (.ref a1), .unset, .unset, .unset, .unset, .unset] [(.ref a1), (.ref b1_), (.ref b1_)])
  obtain ⟨cq6_, kq6_, q6_a, q6_b, q6_c⟩ := isOf hZ e1_ (E1.ext E1_)
  obtain ⟨_, _, ⟨T6_, L6_, k6_, n6_⟩, -, X6_, ⟨Lc6_, hQ6_, l6_, y6_, z6_⟩, st6_⟩ := X1_.virtualBack hx (y := (⟨"java/lang/String", "length", "()I"⟩ : MethodName)) (z := (⟨"java/lang/String", "length", "()I"⟩ : MethodName)) hown (mvT hZ (own_w hw 37 rfl)) (mvT hZ (own_w hw 38 rfl)) (notFace_of_selects (args := #[]) (mvT hZ (own_w hw 40 rfl))) (mvT hZ (own_w hw 40 rfl)) (mvT hZ (own_w hw 39 rfl)) (by decide) (backOf (W := 2) (own_rm_len l Z a0 hw [] a1 cz t kt cd N2 vs [c1, c2, c3, c4] h1_ n0 (Nat.le_trans Z0 E1_.1) (O0.ext E1_) S1 (by first | assumption | decide) (E1.ext E1_) (F1.ext E1_) (F2.ext E1_) (Va.ext E1_) hc (by simp) hr) hZ (own_w hw 41 rfl) (own_w hw 10 rfl) (by decide) (by decide)) q6_a q6_c (g := (mkF m 5 #[.val (.ref a1), .unset, .unset, .unset, .unset, .unset] [(.ref a1), (.ref b1_), (.ref b1_)])) rfl (by rw [hml]; rfl) (Steps.refl _) (argsL := []) (rest := [(.ref b1_), (.ref b1_)]) (lenOf own_pd21 rfl) rfl (by show 2 * 0 + _ ≤ _; exact Nat.le_of_eq rfl) (hb hby own_d584) (fun _ _ => ⟨rfl, e1_, (by decide : 0 + 1 + 0 ≤ _), (by decide : 0 + 4 + 0 ≤ _)⟩)
  dsimp only [Pt.U, Pt.locs, Pt.cells, Pt.slots] at X6_ l6_ y6_ z6_ st6_ hQ6_
  subst l6_ y6_ z6_
  obtain ⟨rfl, Nq6_, hh6_⟩ := hQ6_
  have N6_ := Fr.app N0 Nq6_
  refine own_via (fun _ kq => st6_.trans kq) ?_
  show own_Fin _ _ _ _ _ _ _ T6_ (mkF m 8 #[.val (.ref a1), .unset, .unset, .unset, .unset, .unset] [(.int (Int32.ofNat [c1, c2, c3, c4].length)), (.ref b1_), (.ref b1_)])
  have g8_ : n0 ≤ b1_ := Nat.le_trans Z0 (Nat.le_of_eq g1_.symm)
  obtain ⟨_, _, ⟨T7_, L7_, k7_, n7_⟩, -, X7_, ⟨Lc7_, hQ7_, l7_, y7_, z7_⟩, st7_⟩ := X6_.specialBack hx (y := (⟨"java/lang/StringBuilder", "<init>", "(I)V"⟩ : MethodName)) rfl hown (mvT hZ (own_w hw 48 rfl)) (mvT hZ (own_w hw 49 rfl)) (mvT hZ (own_w hw 50 rfl)) (by decide) (backOf (W := 1) (own_rm_sbI l Z a0 hw [] b1_ (Int32.ofNat [c1, c2, c3, c4].length) 4 cz .null (.int (0 : Int32)) h1_ n0 (Nat.le_trans Z0 E1_.1) (O0.ext E1_) S1 (by first | assumption | decide) A1_ F2_ F3_ F4_ F5_ g8_ rfl (by decide)) hZ (own_w hw 50 rfl) (own_w hw 36 rfl) (by decide) (by decide)) (g := (mkF m 8 #[.val (.ref a1), .unset, .unset, .unset, .unset, .unset] [(.int (Int32.ofNat [c1, c2, c3, c4].length)), (.ref b1_), (.ref b1_)])) rfl (by rw [hml]; rfl) (Steps.refl _) (a := b1_) (argsL := [(.int (Int32.ofNat [c1, c2, c3, c4].length))]) (rest := [(.ref b1_)]) (lenOf own_pd14 rfl) rfl (by show 2 * 0 + _ ≤ _; exact Nat.le_of_eq rfl) (hb hby own_d585) (fun _ _ => ⟨rfl, hh6_, (by decide : 0 + 1 + 0 + 1 ≤ _), (by decide : 0 + 4 + 0 + 4 ≤ _)⟩)
  dsimp only [Pt.U, Pt.locs, Pt.cells, Pt.slots] at X7_ l7_ y7_ z7_ st7_ hQ7_
  subst l7_ y7_ z7_
  obtain ⟨t0, kt0, rfl, Nq7_, K7_, r9_, r10_, r11_, r12_, r13_, r14_, r15_, r16_⟩ := hQ7_
  have N7_ := Fr.app N6_ Nq7_
  refine own_via (fun _ kq => st7_.trans kq) ?_
  show own_Fin _ _ _ _ _ _ _ T7_ (mkF m 11 #[.val (.ref a1), .unset, .unset, .unset, .unset, .unset] [(.ref b1_)])
  refine own_via (fun _ kq => XS.astoreN X7_.here hx rfl (hb hby own_d586) rfl rfl (l' := #[.val (.ref a1), .val (.ref b1_), .unset, .unset, .unset, .unset]) rfl kq) ?_
  refine own_via (fun _ kq => XS.aloadN X7_.here hx rfl (hb hby own_d587) rfl rfl kq) ?_
  show own_Fin _ _ _ _ _ _ _ T7_ (mkF m 13 #[.val (.ref a1), .val (.ref b1_), .unset, .unset, .unset, .unset] [(.ref a1)])
  have q18_ : a1 ≠ b1_ := Nat.ne_of_lt (Nat.lt_of_lt_of_le E1.lt (Nat.le_of_eq g1_.symm))
  have q19_ : t ≠ b1_ := Nat.ne_of_lt (Nat.lt_of_lt_of_le Va.lt (Nat.le_of_eq g1_.symm))
  obtain ⟨cq17_, kq17_, q17_a, q17_b, q17_c⟩ := isOf hZ rfl ((E1.ext E1_).keep K7_)
  obtain ⟨_, _, ⟨T17_, L17_, k17_, n17_⟩, -, X17_, ⟨Lc17_, hQ17_, l17_, y17_, z17_⟩, st17_⟩ := X7_.virtualBack hx (y := (⟨"java/lang/String", "toCharArray", "()[C"⟩ : MethodName)) (z := (⟨"java/lang/String", "toCharArray", "()[C"⟩ : MethodName)) hown (mvT hZ (own_w hw 63 rfl)) (mvT hZ (own_w hw 64 rfl)) (notFace_of_selects (args := #[]) (mvT hZ (own_w hw 66 rfl))) (mvT hZ (own_w hw 66 rfl)) (mvT hZ (own_w hw 65 rfl)) (by decide) (backOf (W := 0) (own_rm_toCA l Z a0 hw [] a1 cz t kt cd N2 vs [c1, c2, c3, c4] fm T7_.heap n0 (Nat.le_trans Z0 (Nat.le_trans E1_.1 K7_.1)) ((O0.ext E1_).keep K7_ (allS g8_ all0)) S1 (by first | assumption | decide) S2 r_fm S3 S4 S5 ((E1.ext E1_).keep K7_) ((F1.ext E1_).keep K7_ (ninS q18_ nin0)) ((F2.ext E1_).keep K7_ (ninS q18_ nin0)) ((Va.ext E1_).keep K7_ (ninS q19_ nin0)) hc (by simp) hr (by simp)) hZ (own_w hw 67 rfl) (own_w hw 10 rfl) (by decide) (by decide)) q17_a q17_c (g := (mkF m 13 #[.val (.ref a1), .val (.ref b1_), .unset, .unset, .unset, .unset] [(.ref a1)])) rfl (by rw [hml]; rfl) (Steps.refl _) (argsL := []) (rest := []) (lenOf own_pd30 rfl) rfl (by show 2 * 0 + _ ≤ _; exact Nat.le_of_eq rfl) (hb hby own_d588) (fun _ _ => ⟨rfl, rfl, (by decide : 0 + 1 + 0 + 1 + 1 ≤ _), (by decide : 0 + 4 + 0 + 4 + 4 ≤ _)⟩)
  dsimp only [Pt.U, Pt.locs, Pt.cells, Pt.slots] at X17_ l17_ y17_ z17_ st17_ hQ17_
  subst l17_ y17_ z17_
  obtain ⟨a, ka, xs, rfl, Nq17_, K17_, r20_, r21_, hxs⟩ := hQ17_
  have N17_ := Fr.app N7_ Nq17_
  refine own_via (fun _ kq => st17_.trans kq) ?_
  show own_Fin _ _ _ _ _ _ _ T17_ (mkF m 16 #[.val (.ref a1), .val (.ref b1_), .unset, .unset, .unset, .unset] [(.ref a)])
  have Vq : Arv Z T17_.heap a ka .char (4 : Int32) xs (.int 0) := r21_
  refine own_via (fun _ kq => XS.astoreN X17_.here hx rfl (hb hby own_d589) rfl rfl (l' := #[.val (.ref a1), .val (.ref b1_), .val (.ref a), .unset, .unset, .unset]) rfl kq) ?_
  refine own_via (fun _ kq => XS.aloadN X17_.here hx rfl (hb hby own_d590) rfl rfl kq) ?_
  show own_Fin _ _ _ _ _ _ _ T17_ (mkF m 18 #[.val (.ref a1), .val (.ref b1_), .val (.ref a), .unset, .unset, .unset] [(.ref a)])
  obtain ⟨c22_, Ar22_, -, S22_, M22_, -, -⟩ := (id Vq)
  refine own_via (fun _ kq => X17_.arraylength hx (own_eq rfl Ar22_.1) (State.isArrayOf_alike hZ.alike Ar22_.2.1) (g := (mkF m 18 #[.val (.ref a1), .val (.ref b1_), .val (.ref a), .unset, .unset, .unset] [(.ref a)])) rfl rfl (hb hby own_d591) _ (by rw [len_of S22_ M22_]; exact kq)) ?_
  show own_Fin _ _ _ _ _ _ _ T17_ (mkF m 19 #[.val (.ref a1), .val (.ref b1_), .val (.ref a), .unset, .unset, .unset] [(.int (4 : Int32))])
  refine own_via (fun _ kq => XS.istoreN X17_.here hx rfl (hb hby own_d592) rfl (l' := #[.val (.ref a1), .val (.ref b1_), .val (.ref a), .val (.int (4 : Int32)), .unset, .unset]) rfl kq) ?_
  refine own_via (fun _ kq => XS.iconst X17_.here hx rfl (hb hby own_d593) kq) ?_
  refine own_via (fun _ kq => XS.istore X17_.here hx rfl (hb hby own_d594) rfl (l' := #[.val (.ref a1), .val (.ref b1_), .val (.ref a), .val (.int (4 : Int32)), .val (.int (0 : Int32)), .unset]) rfl kq) ?_
  refine own_via (fun _ kq => XS.iload X17_.here hx rfl (hb hby own_d595) rfl kq) ?_
  refine own_via (fun _ kq => XS.iloadN X17_.here hx rfl (hb hby own_d596) rfl kq) ?_
  have hsb0 : own_sbp [own_fc c1, own_fc c2, own_fc c3, own_fc c4] 0 4 (0 : Int32) (Int32.ofNat 4) (List.replicate 4 (.int 0)) := own_sb_new
  refine own_via (fun _ kq => XS.icmpNo X17_.here hx rfl (hb hby own_d597) rfl (tlt (by decide)).2.1 kq) ?_
  show own_Fin _ _ _ _ _ _ _ T17_ (mkF m 29 #[.val (.ref a1), .val (.ref b1_), .val (.ref a), .val (.int (4 : Int32)), .val (.int (0 : Int32)), .unset] [])
  refine own_via (fun _ kq => XS.aloadN X17_.here hx rfl (hb hby own_d601) rfl rfl kq) ?_
  refine own_via (fun _ kq => XS.iload X17_.here hx rfl (hb hby own_d602) rfl kq) ?_
  show own_Fin _ _ _ _ _ _ _ T17_ (mkF m 32 #[.val (.ref a1), .val (.ref b1_), .val (.ref a), .val (.int (4 : Int32)), .val (.int (0 : Int32)), .unset] [(.int (0 : Int32)), (.ref a)])
  obtain ⟨c23_, Ar23_, q23_, S23_, M23_, H23_, G23_⟩ := (id Vq)
  have hin23_ : ¬ ((0 : Int32) < 0 ∨ c23_.slots.size ≤ ((0 : Int32)).toNatClampNeg) := inb_of S23_ ⟨by decide, by decide⟩
  have hat23_ : c23_.slots[((0 : Int32)).toNatClampNeg]? = some (.int c1) := H23_.at hin23_ (hxs 0 (by simp))
  refine own_via (fun _ kq => X17_.caload hx (j := (0 : Int32)) (v := (.int c1)) (own_eq rfl Ar23_.1) (State.isArrayOf_alike hZ.alike Ar23_.2.1) Ar23_.2.2 hin23_ hat23_ (g := (mkF m 32 #[.val (.ref a1), .val (.ref b1_), .val (.ref a), .val (.int (4 : Int32)), .val (.int (0 : Int32)), .unset] [(.int (0 : Int32)), (.ref a)])) rfl rfl (hb hby own_d603) _ kq) ?_
  show own_Fin _ _ _ _ _ _ _ T17_ (mkF m 33 #[.val (.ref a1), .val (.ref b1_), .val (.ref a), .val (.int (4 : Int32)), .val (.int (0 : Int32)), .unset] [(.int c1)])
  refine own_via (fun _ kq => XS.istore X17_.here hx rfl (hb hby own_d604) rfl (l' := #[.val (.ref a1), .val (.ref b1_), .val (.ref a), .val (.int (4 : Int32)), .val (.int (0 : Int32)), .val (.int c1)]) rfl kq) ?_
  refine own_via (fun _ kq => XS.aloadN X17_.here hx rfl (hb hby own_d605) rfl rfl kq) ?_
  have s0 : ∀ (v : Int32) (hv : v = own_fc c1), own_Fin p e s below (own_Q_fold4 Z a1 cz t kt cd N2 vs c1 c2 c3 c4 fm h0 n0) own_R_fold4.cells own_R_fold4.slots T17_ (mkF m 64 #[.val (.ref a1), .val (.ref b1_), .val (.ref a), .val (.int (4 : Int32)), .val (.int (0 : Int32)), .val (.int c1)] [(.int v), (.ref b1_)]) := by
    intro v hv
    subst hv
    show own_Fin _ _ _ _ _ _ _ T17_ (mkF m 64 #[.val (.ref a1), .val (.ref b1_), .val (.ref a), .val (.int (4 : Int32)), .val (.int (0 : Int32)), .val (.int c1)] [(.int (own_fc c1)), (.ref b1_)])
    have g24_ : n0 ≤ t0 := Nat.le_trans (Nat.le_trans Z0 E1_.1) r14_
    obtain ⟨cq25_, kq25_, q25_a, q25_b, q25_c⟩ := isOf hZ rfl (r9_.keep K17_)
    obtain ⟨_, _, ⟨T25_, L25_, k25_, n25_⟩, -, X25_, ⟨Lc25_, hQ25_, l25_, y25_, z25_⟩, st25_⟩ := X17_.virtualBack hx (y := (⟨"java/lang/StringBuilder", "append", "(C)Ljava/lang/StringBuilder;"⟩ : MethodName)) (z := (⟨"java/lang/StringBuilder", "append", "(C)Ljava/lang/StringBuilder;"⟩ : MethodName)) hown (mvT hZ (own_w hw 137 rfl)) (mvT hZ (own_w hw 138 rfl)) (notFace_of_selects (args := #[]) (mvT hZ (own_w hw 140 rfl))) (mvT hZ (own_w hw 140 rfl)) (mvT hZ (own_w hw 139 rfl)) (by decide) (backOf (W := 0) (own_rm_sbApp l Z a0 hw [] b1_ (own_fc c1) t0 kt0 (0 : Int32) (Int32.ofNat [c1, c2, c3, c4].length) (List.replicate 4 (.int 0)) (0 : Int32) [own_fc c1, own_fc c2, own_fc c3, own_fc c4] 0 4 cz fm T17_.heap n0 (Nat.le_trans Z0 (Nat.le_trans (Nat.le_trans E1_.1 K7_.1) K17_.1)) (((O0.ext E1_).keep K7_ (allS g8_ all0)).keep K17_ all0) S1 (by first | assumption | decide) S2 r_fm S3 S4 S5 (r9_.keep K17_) (r10_.keep K17_ nin0) (r11_.keep K17_ nin0) (r12_.keep K17_ nin0) (r13_.keep K17_ nin0) (r15_.keep K17_ nin0) (r16_.keep K17_) g8_ g24_ rfl (by decide) (by decide) hsb0 hrd rfl) hZ (own_w hw 141 rfl) (own_w hw 36 rfl) (by decide) (by decide)) q25_a q25_c (g := (mkF m 64 #[.val (.ref a1), .val (.ref b1_), .val (.ref a), .val (.int (4 : Int32)), .val (.int (0 : Int32)), .val (.int c1)] [(.int (own_fc c1)), (.ref b1_)])) rfl (by rw [hml]; rfl) (Steps.refl _) (argsL := [(.int (own_fc c1))]) (rest := []) (lenOf own_pd32 rfl) rfl (by show 2 * 0 + _ ≤ _; exact Nat.le_of_eq rfl) (hb hby own_d620) (fun _ _ => ⟨rfl, rfl, (by decide : 0 + 1 + 0 + 1 + 1 + 1 ≤ _), (by decide : 0 + 4 + 0 + 4 + 4 + 8 ≤ _)⟩)
    dsimp only [Pt.U, Pt.locs, Pt.cells, Pt.slots] at X25_ l25_ y25_ z25_ st25_ hQ25_
    subst l25_ y25_ z25_
    obtain ⟨u0_, ku0, cd0, M0, ws0, rfl, Nq25_, K25_, r26_, r27_, r28_, r29_, r30_, r31_, r32_, hsb1, hfr0⟩ := hQ25_
    have N25_ := Fr.app N17_ Nq25_
    refine own_via (fun _ kq => st25_.trans kq) ?_
    show own_Fin _ _ _ _ _ _ _ T25_ (mkF m 67 #[.val (.ref a1), .val (.ref b1_), .val (.ref a), .val (.int (4 : Int32)), .val (.int (0 : Int32)), .val (.int c1)] [(.ref b1_)])
    have gu0 : n0 ≤ u0_ := by
      rcases hfr0 with q | q
      · rw [q]; exact g24_
      · exact Nat.le_trans (Nat.le_trans Z0 (Nat.le_trans (Nat.le_trans E1_.1 K7_.1) K17_.1)) q
    have su0 : h0.size ≤ u0_ := by
      rcases hfr0 with q | q
      · rw [q]; exact (Nat.le_trans E1_.1 r14_)
      · exact Nat.le_trans (Nat.le_trans (Nat.le_trans E1_.1 K7_.1) K17_.1) q
    have q33_ : t0 ≠ a := Nat.ne_of_lt (Nat.lt_of_lt_of_le r16_.lt r20_)
    have nu0 : a ≠ u0_ := by
      rcases hfr0 with q | q
      · rw [q]; exact (Ne.symm q33_)
      · exact Nat.ne_of_lt (Nat.lt_of_lt_of_le (r21_).lt q)
    refine own_via (fun _ kq => XS.pop X25_.here hx rfl (hb hby own_d621) rfl rfl kq) ?_
    refine own_via (fun _ kq => XS.iinc X25_.here hx rfl (hb hby own_d622) rfl (l' := #[.val (.ref a1), .val (.ref b1_), .val (.ref a), .val (.int (4 : Int32)), .val (.int ((0 : Int32) + (1 : Int32))), .val (.int c1)]) rfl kq) ?_
    refine own_via (fun _ kq => XS.goto X25_.here hx rfl (pc0 := 71) (pc' := 23) rfl (hb hby own_d623) (by decide) (by decide) kq) ?_
    refine own_via (fun _ kq => XS.iload X25_.here hx rfl (hb hby own_d595) rfl kq) ?_
    refine own_via (fun _ kq => XS.iloadN X25_.here hx rfl (hb hby own_d596) rfl kq) ?_
    refine own_via (fun _ kq => XS.icmpNo X25_.here hx rfl (hb hby own_d597) rfl (tlt (by decide)).2.1 kq) ?_
    show own_Fin _ _ _ _ _ _ _ T25_ (mkF m 29 #[.val (.ref a1), .val (.ref b1_), .val (.ref a), .val (.int (4 : Int32)), .val (.int ((0 : Int32) + (1 : Int32))), .val (.int c1)] [])
    refine own_via (fun _ kq => XS.aloadN X25_.here hx rfl (hb hby own_d601) rfl rfl kq) ?_
    refine own_via (fun _ kq => XS.iload X25_.here hx rfl (hb hby own_d602) rfl kq) ?_
    show own_Fin _ _ _ _ _ _ _ T25_ (mkF m 32 #[.val (.ref a1), .val (.ref b1_), .val (.ref a), .val (.int (4 : Int32)), .val (.int ((0 : Int32) + (1 : Int32))), .val (.int c1)] [(.int ((0 : Int32) + (1 : Int32))), (.ref a)])
    have q35_ : b1_ ≠ a := Nat.ne_of_lt (Nat.lt_of_lt_of_le r9_.lt r20_)
    have f36_ := (Vq.keep K25_ (ninS (Ne.symm q35_) (ninS (Ne.symm q33_) nin0)))
    obtain ⟨c34_, Ar34_, q34_, S34_, M34_, H34_, G34_⟩ := (id f36_)
    have hin34_ : ¬ (((0 : Int32) + (1 : Int32)) < 0 ∨ c34_.slots.size ≤ (((0 : Int32) + (1 : Int32))).toNatClampNeg) := inb_of S34_ ⟨by decide, by decide⟩
    have hat34_ : c34_.slots[(((0 : Int32) + (1 : Int32))).toNatClampNeg]? = some (.int c2) := H34_.at hin34_ (hxs 1 (by simp))
    refine own_via (fun _ kq => X25_.caload hx (j := ((0 : Int32) + (1 : Int32))) (v := (.int c2)) (own_eq rfl Ar34_.1) (State.isArrayOf_alike hZ.alike Ar34_.2.1) Ar34_.2.2 hin34_ hat34_ (g := (mkF m 32 #[.val (.ref a1), .val (.ref b1_), .val (.ref a), .val (.int (4 : Int32)), .val (.int ((0 : Int32) + (1 : Int32))), .val (.int c1)] [(.int ((0 : Int32) + (1 : Int32))), (.ref a)])) rfl rfl (hb hby own_d603) _ kq) ?_
    show own_Fin _ _ _ _ _ _ _ T25_ (mkF m 33 #[.val (.ref a1), .val (.ref b1_), .val (.ref a), .val (.int (4 : Int32)), .val (.int ((0 : Int32) + (1 : Int32))), .val (.int c1)] [(.int c2)])
    refine own_via (fun _ kq => XS.istore X25_.here hx rfl (hb hby own_d604) rfl (l' := #[.val (.ref a1), .val (.ref b1_), .val (.ref a), .val (.int (4 : Int32)), .val (.int ((0 : Int32) + (1 : Int32))), .val (.int c2)]) rfl kq) ?_
    refine own_via (fun _ kq => XS.aloadN X25_.here hx rfl (hb hby own_d605) rfl rfl kq) ?_
    have s1 : ∀ (v : Int32) (hv : v = own_fc c2), own_Fin p e s below (own_Q_fold4 Z a1 cz t kt cd N2 vs c1 c2 c3 c4 fm h0 n0) own_R_fold4.cells own_R_fold4.slots T25_ (mkF m 64 #[.val (.ref a1), .val (.ref b1_), .val (.ref a), .val (.int (4 : Int32)), .val (.int ((0 : Int32) + (1 : Int32))), .val (.int c2)] [(.int v), (.ref b1_)]) := by
      intro v hv
      subst hv
      show own_Fin _ _ _ _ _ _ _ T25_ (mkF m 64 #[.val (.ref a1), .val (.ref b1_), .val (.ref a), .val (.int (4 : Int32)), .val (.int ((0 : Int32) + (1 : Int32))), .val (.int c2)] [(.int (own_fc c2)), (.ref b1_)])
      have f38_ := ((((O0.ext E1_).keep K7_ (allS g8_ all0)).keep K17_ all0).keep K25_ (allS g8_ (allS g24_ all0)))
      obtain ⟨cq37_, kq37_, q37_a, q37_b, q37_c⟩ := isOf hZ rfl r26_
      obtain ⟨_, _, ⟨T37_, L37_, k37_, n37_⟩, -, X37_, ⟨Lc37_, hQ37_, l37_, y37_, z37_⟩, st37_⟩ := X25_.virtualBack hx (y := (⟨"java/lang/StringBuilder", "append", "(C)Ljava/lang/StringBuilder;"⟩ : MethodName)) (z := (⟨"java/lang/StringBuilder", "append", "(C)Ljava/lang/StringBuilder;"⟩ : MethodName)) hown (mvT hZ (own_w hw 137 rfl)) (mvT hZ (own_w hw 138 rfl)) (notFace_of_selects (args := #[]) (mvT hZ (own_w hw 140 rfl))) (mvT hZ (own_w hw 140 rfl)) (mvT hZ (own_w hw 139 rfl)) (by decide) (backOf (W := 0) (own_rm_sbApp l Z a0 hw [] b1_ (own_fc c2) u0_ ku0 cd0 M0 ws0 ((0 : Int32) + (1 : Int32)) [own_fc c1, own_fc c2, own_fc c3, own_fc c4] 1 4 cz fm T25_.heap n0 (Nat.le_trans Z0 (Nat.le_trans (Nat.le_trans (Nat.le_trans E1_.1 K7_.1) K17_.1) K25_.1)) f38_ S1 (by first | assumption | decide) S2 r_fm S3 S4 S5 r26_ r27_ r28_ r29_ r30_ r31_ r32_ g8_ gu0 rfl (by decide) (by decide) hsb1 hrd rfl) hZ (own_w hw 141 rfl) (own_w hw 36 rfl) (by decide) (by decide)) q37_a q37_c (g := (mkF m 64 #[.val (.ref a1), .val (.ref b1_), .val (.ref a), .val (.int (4 : Int32)), .val (.int ((0 : Int32) + (1 : Int32))), .val (.int c2)] [(.int (own_fc c2)), (.ref b1_)])) rfl (by rw [hml]; rfl) (Steps.refl _) (argsL := [(.int (own_fc c2))]) (rest := []) (lenOf own_pd32 rfl) rfl (by show 2 * 0 + _ ≤ _; exact Nat.le_of_eq rfl) (hb hby own_d620) (fun _ _ => ⟨rfl, rfl, (by decide : 0 + 1 + 0 + 1 + 1 + 1 + 1 ≤ _), (by decide : 0 + 4 + 0 + 4 + 4 + 8 + 8 ≤ _)⟩)
      dsimp only [Pt.U, Pt.locs, Pt.cells, Pt.slots] at X37_ l37_ y37_ z37_ st37_ hQ37_
      subst l37_ y37_ z37_
      obtain ⟨u1_, ku1, cd1, M1, ws1, rfl, Nq37_, K37_, r39_, r40_, r41_, r42_, r43_, r44_, r45_, hsb2, hfr1⟩ := hQ37_
      have N37_ := Fr.app N25_ Nq37_
      refine own_via (fun _ kq => st37_.trans kq) ?_
      show own_Fin _ _ _ _ _ _ _ T37_ (mkF m 67 #[.val (.ref a1), .val (.ref b1_), .val (.ref a), .val (.int (4 : Int32)), .val (.int ((0 : Int32) + (1 : Int32))), .val (.int c2)] [(.ref b1_)])
      have gu1 : n0 ≤ u1_ := by
        rcases hfr1 with q | q
        · rw [q]; exact gu0
        · exact Nat.le_trans (Nat.le_trans Z0 (Nat.le_trans (Nat.le_trans (Nat.le_trans E1_.1 K7_.1) K17_.1) K25_.1)) q
      have su1 : h0.size ≤ u1_ := by
        rcases hfr1 with q | q
        · rw [q]; exact su0
        · exact Nat.le_trans (Nat.le_trans (Nat.le_trans (Nat.le_trans E1_.1 K7_.1) K17_.1) K25_.1) q
      have nu1 : a ≠ u1_ := by
        rcases hfr1 with q | q
        · rw [q]; exact nu0
        · exact Nat.ne_of_lt (Nat.lt_of_lt_of_le ((r21_.keep K25_ (ninS (Ne.symm q35_) (ninS (Ne.symm q33_) nin0)))).lt q)
      refine own_via (fun _ kq => XS.pop X37_.here hx rfl (hb hby own_d621) rfl rfl kq) ?_
      refine own_via (fun _ kq => XS.iinc X37_.here hx rfl (hb hby own_d622) rfl (l' := #[.val (.ref a1), .val (.ref b1_), .val (.ref a), .val (.int (4 : Int32)), .val (.int (((0 : Int32) + (1 : Int32)) + (1 : Int32))), .val (.int c2)]) rfl kq) ?_
      refine own_via (fun _ kq => XS.goto X37_.here hx rfl (pc0 := 71) (pc' := 23) rfl (hb hby own_d623) (by decide) (by decide) kq) ?_
      refine own_via (fun _ kq => XS.iload X37_.here hx rfl (hb hby own_d595) rfl kq) ?_
      refine own_via (fun _ kq => XS.iloadN X37_.here hx rfl (hb hby own_d596) rfl kq) ?_
      refine own_via (fun _ kq => XS.icmpNo X37_.here hx rfl (hb hby own_d597) rfl (tlt (by decide)).2.1 kq) ?_
      show own_Fin _ _ _ _ _ _ _ T37_ (mkF m 29 #[.val (.ref a1), .val (.ref b1_), .val (.ref a), .val (.int (4 : Int32)), .val (.int (((0 : Int32) + (1 : Int32)) + (1 : Int32))), .val (.int c2)] [])
      refine own_via (fun _ kq => XS.aloadN X37_.here hx rfl (hb hby own_d601) rfl rfl kq) ?_
      refine own_via (fun _ kq => XS.iload X37_.here hx rfl (hb hby own_d602) rfl kq) ?_
      show own_Fin _ _ _ _ _ _ _ T37_ (mkF m 32 #[.val (.ref a1), .val (.ref b1_), .val (.ref a), .val (.int (4 : Int32)), .val (.int (((0 : Int32) + (1 : Int32)) + (1 : Int32))), .val (.int c2)] [(.int (((0 : Int32) + (1 : Int32)) + (1 : Int32))), (.ref a)])
      obtain ⟨c46_, Ar46_, q46_, S46_, M46_, H46_, G46_⟩ := (id (f36_.keep K37_ (ninS (Ne.symm q35_) (ninS nu0 nin0))))
      have hin46_ : ¬ ((((0 : Int32) + (1 : Int32)) + (1 : Int32)) < 0 ∨ c46_.slots.size ≤ ((((0 : Int32) + (1 : Int32)) + (1 : Int32))).toNatClampNeg) := inb_of S46_ ⟨by decide, by decide⟩
      have hat46_ : c46_.slots[((((0 : Int32) + (1 : Int32)) + (1 : Int32))).toNatClampNeg]? = some (.int c3) := H46_.at hin46_ (hxs 2 (by simp))
      refine own_via (fun _ kq => X37_.caload hx (j := (((0 : Int32) + (1 : Int32)) + (1 : Int32))) (v := (.int c3)) (own_eq rfl Ar46_.1) (State.isArrayOf_alike hZ.alike Ar46_.2.1) Ar46_.2.2 hin46_ hat46_ (g := (mkF m 32 #[.val (.ref a1), .val (.ref b1_), .val (.ref a), .val (.int (4 : Int32)), .val (.int (((0 : Int32) + (1 : Int32)) + (1 : Int32))), .val (.int c2)] [(.int (((0 : Int32) + (1 : Int32)) + (1 : Int32))), (.ref a)])) rfl rfl (hb hby own_d603) _ kq) ?_
      show own_Fin _ _ _ _ _ _ _ T37_ (mkF m 33 #[.val (.ref a1), .val (.ref b1_), .val (.ref a), .val (.int (4 : Int32)), .val (.int (((0 : Int32) + (1 : Int32)) + (1 : Int32))), .val (.int c2)] [(.int c3)])
      refine own_via (fun _ kq => XS.istore X37_.here hx rfl (hb hby own_d604) rfl (l' := #[.val (.ref a1), .val (.ref b1_), .val (.ref a), .val (.int (4 : Int32)), .val (.int (((0 : Int32) + (1 : Int32)) + (1 : Int32))), .val (.int c3)]) rfl kq) ?_
      refine own_via (fun _ kq => XS.aloadN X37_.here hx rfl (hb hby own_d605) rfl rfl kq) ?_
      have s2 : ∀ (v : Int32) (hv : v = own_fc c3), own_Fin p e s below (own_Q_fold4 Z a1 cz t kt cd N2 vs c1 c2 c3 c4 fm h0 n0) own_R_fold4.cells own_R_fold4.slots T37_ (mkF m 64 #[.val (.ref a1), .val (.ref b1_), .val (.ref a), .val (.int (4 : Int32)), .val (.int (((0 : Int32) + (1 : Int32)) + (1 : Int32))), .val (.int c3)] [(.int v), (.ref b1_)]) := by
        intro v hv
        subst hv
        show own_Fin _ _ _ _ _ _ _ T37_ (mkF m 64 #[.val (.ref a1), .val (.ref b1_), .val (.ref a), .val (.int (4 : Int32)), .val (.int (((0 : Int32) + (1 : Int32)) + (1 : Int32))), .val (.int c3)] [(.int (own_fc c3)), (.ref b1_)])
        obtain ⟨cq47_, kq47_, q47_a, q47_b, q47_c⟩ := isOf hZ rfl r39_
        obtain ⟨_, _, ⟨T47_, L47_, k47_, n47_⟩, -, X47_, ⟨Lc47_, hQ47_, l47_, y47_, z47_⟩, st47_⟩ := X37_.virtualBack hx (y := (⟨"java/lang/StringBuilder", "append", "(C)Ljava/lang/StringBuilder;"⟩ : MethodName)) (z := (⟨"java/lang/StringBuilder", "append", "(C)Ljava/lang/StringBuilder;"⟩ : MethodName)) hown (mvT hZ (own_w hw 137 rfl)) (mvT hZ (own_w hw 138 rfl)) (notFace_of_selects (args := #[]) (mvT hZ (own_w hw 140 rfl))) (mvT hZ (own_w hw 140 rfl)) (mvT hZ (own_w hw 139 rfl)) (by decide) (backOf (W := 0) (own_rm_sbApp l Z a0 hw [] b1_ (own_fc c3) u1_ ku1 cd1 M1 ws1 (((0 : Int32) + (1 : Int32)) + (1 : Int32)) [own_fc c1, own_fc c2, own_fc c3, own_fc c4] 2 4 cz fm T37_.heap n0 (Nat.le_trans Z0 (Nat.le_trans (Nat.le_trans (Nat.le_trans (Nat.le_trans E1_.1 K7_.1) K17_.1) K25_.1) K37_.1)) (f38_.keep K37_ (allS g8_ (allS gu0 all0))) S1 (by first | assumption | decide) S2 r_fm S3 S4 S5 r39_ r40_ r41_ r42_ r43_ r44_ r45_ g8_ gu1 rfl (by decide) (by decide) hsb2 hrd rfl) hZ (own_w hw 141 rfl) (own_w hw 36 rfl) (by decide) (by decide)) q47_a q47_c (g := (mkF m 64 #[.val (.ref a1), .val (.ref b1_), .val (.ref a), .val (.int (4 : Int32)), .val (.int (((0 : Int32) + (1 : Int32)) + (1 : Int32))), .val (.int c3)] [(.int (own_fc c3)), (.ref b1_)])) rfl (by rw [hml]; rfl) (Steps.refl _) (argsL := [(.int (own_fc c3))]) (rest := []) (lenOf own_pd32 rfl) rfl (by show 2 * 0 + _ ≤ _; exact Nat.le_of_eq rfl) (hb hby own_d620) (fun _ _ => ⟨rfl, rfl, (by decide : 0 + 1 + 0 + 1 + 1 + 1 + 1 + 1 ≤ _), (by decide : 0 + 4 + 0 + 4 + 4 + 8 + 8 + 8 ≤ _)⟩)
        dsimp only [Pt.U, Pt.locs, Pt.cells, Pt.slots] at X47_ l47_ y47_ z47_ st47_ hQ47_
        subst l47_ y47_ z47_
        obtain ⟨u2_, ku2, cd2, M2, ws2, rfl, Nq47_, K47_, r48_, r49_, r50_, r51_, r52_, r53_, r54_, hsb3, hfr2⟩ := hQ47_
        have N47_ := Fr.app N37_ Nq47_
        refine own_via (fun _ kq => st47_.trans kq) ?_
        show own_Fin _ _ _ _ _ _ _ T47_ (mkF m 67 #[.val (.ref a1), .val (.ref b1_), .val (.ref a), .val (.int (4 : Int32)), .val (.int (((0 : Int32) + (1 : Int32)) + (1 : Int32))), .val (.int c3)] [(.ref b1_)])
        have gu2 : n0 ≤ u2_ := by
          rcases hfr2 with q | q
          · rw [q]; exact gu1
          · exact Nat.le_trans (Nat.le_trans Z0 (Nat.le_trans (Nat.le_trans (Nat.le_trans (Nat.le_trans E1_.1 K7_.1) K17_.1) K25_.1) K37_.1)) q
        have su2 : h0.size ≤ u2_ := by
          rcases hfr2 with q | q
          · rw [q]; exact su1
          · exact Nat.le_trans (Nat.le_trans (Nat.le_trans (Nat.le_trans (Nat.le_trans E1_.1 K7_.1) K17_.1) K25_.1) K37_.1) q
        have nu2 : a ≠ u2_ := by
          rcases hfr2 with q | q
          · rw [q]; exact nu1
          · exact Nat.ne_of_lt (Nat.lt_of_lt_of_le (((r21_.keep K25_ (ninS (Ne.symm q35_) (ninS (Ne.symm q33_) nin0))).keep K37_ (ninS (Ne.symm q35_) (ninS nu0 nin0)))).lt q)
        refine own_via (fun _ kq => XS.pop X47_.here hx rfl (hb hby own_d621) rfl rfl kq) ?_
        refine own_via (fun _ kq => XS.iinc X47_.here hx rfl (hb hby own_d622) rfl (l' := #[.val (.ref a1), .val (.ref b1_), .val (.ref a), .val (.int (4 : Int32)), .val (.int ((((0 : Int32) + (1 : Int32)) + (1 : Int32)) + (1 : Int32))), .val (.int c3)]) rfl kq) ?_
        refine own_via (fun _ kq => XS.goto X47_.here hx rfl (pc0 := 71) (pc' := 23) rfl (hb hby own_d623) (by decide) (by decide) kq) ?_
        refine own_via (fun _ kq => XS.iload X47_.here hx rfl (hb hby own_d595) rfl kq) ?_
        refine own_via (fun _ kq => XS.iloadN X47_.here hx rfl (hb hby own_d596) rfl kq) ?_
        refine own_via (fun _ kq => XS.icmpNo X47_.here hx rfl (hb hby own_d597) rfl (tlt (by decide)).2.1 kq) ?_
        show own_Fin _ _ _ _ _ _ _ T47_ (mkF m 29 #[.val (.ref a1), .val (.ref b1_), .val (.ref a), .val (.int (4 : Int32)), .val (.int ((((0 : Int32) + (1 : Int32)) + (1 : Int32)) + (1 : Int32))), .val (.int c3)] [])
        refine own_via (fun _ kq => XS.aloadN X47_.here hx rfl (hb hby own_d601) rfl rfl kq) ?_
        refine own_via (fun _ kq => XS.iload X47_.here hx rfl (hb hby own_d602) rfl kq) ?_
        show own_Fin _ _ _ _ _ _ _ T47_ (mkF m 32 #[.val (.ref a1), .val (.ref b1_), .val (.ref a), .val (.int (4 : Int32)), .val (.int ((((0 : Int32) + (1 : Int32)) + (1 : Int32)) + (1 : Int32))), .val (.int c3)] [(.int ((((0 : Int32) + (1 : Int32)) + (1 : Int32)) + (1 : Int32))), (.ref a)])
        have f56_ := ((f36_.keep K37_ (ninS (Ne.symm q35_) (ninS nu0 nin0))).keep K47_ (ninS (Ne.symm q35_) (ninS nu1 nin0)))
        obtain ⟨c55_, Ar55_, q55_, S55_, M55_, H55_, G55_⟩ := (id f56_)
        have hin55_ : ¬ (((((0 : Int32) + (1 : Int32)) + (1 : Int32)) + (1 : Int32)) < 0 ∨ c55_.slots.size ≤ (((((0 : Int32) + (1 : Int32)) + (1 : Int32)) + (1 : Int32))).toNatClampNeg) := inb_of S55_ ⟨by decide, by decide⟩
        have hat55_ : c55_.slots[(((((0 : Int32) + (1 : Int32)) + (1 : Int32)) + (1 : Int32))).toNatClampNeg]? = some (.int c4) := H55_.at hin55_ (hxs 3 (by simp))
        refine own_via (fun _ kq => X47_.caload hx (j := ((((0 : Int32) + (1 : Int32)) + (1 : Int32)) + (1 : Int32))) (v := (.int c4)) (own_eq rfl Ar55_.1) (State.isArrayOf_alike hZ.alike Ar55_.2.1) Ar55_.2.2 hin55_ hat55_ (g := (mkF m 32 #[.val (.ref a1), .val (.ref b1_), .val (.ref a), .val (.int (4 : Int32)), .val (.int ((((0 : Int32) + (1 : Int32)) + (1 : Int32)) + (1 : Int32))), .val (.int c3)] [(.int ((((0 : Int32) + (1 : Int32)) + (1 : Int32)) + (1 : Int32))), (.ref a)])) rfl rfl (hb hby own_d603) _ kq) ?_
        show own_Fin _ _ _ _ _ _ _ T47_ (mkF m 33 #[.val (.ref a1), .val (.ref b1_), .val (.ref a), .val (.int (4 : Int32)), .val (.int ((((0 : Int32) + (1 : Int32)) + (1 : Int32)) + (1 : Int32))), .val (.int c3)] [(.int c4)])
        refine own_via (fun _ kq => XS.istore X47_.here hx rfl (hb hby own_d604) rfl (l' := #[.val (.ref a1), .val (.ref b1_), .val (.ref a), .val (.int (4 : Int32)), .val (.int ((((0 : Int32) + (1 : Int32)) + (1 : Int32)) + (1 : Int32))), .val (.int c4)]) rfl kq) ?_
        refine own_via (fun _ kq => XS.aloadN X47_.here hx rfl (hb hby own_d605) rfl rfl kq) ?_
        have s3 : ∀ (v : Int32) (hv : v = own_fc c4), own_Fin p e s below (own_Q_fold4 Z a1 cz t kt cd N2 vs c1 c2 c3 c4 fm h0 n0) own_R_fold4.cells own_R_fold4.slots T47_ (mkF m 64 #[.val (.ref a1), .val (.ref b1_), .val (.ref a), .val (.int (4 : Int32)), .val (.int ((((0 : Int32) + (1 : Int32)) + (1 : Int32)) + (1 : Int32))), .val (.int c4)] [(.int v), (.ref b1_)]) := by
          intro v hv
          subst hv
          show own_Fin _ _ _ _ _ _ _ T47_ (mkF m 64 #[.val (.ref a1), .val (.ref b1_), .val (.ref a), .val (.int (4 : Int32)), .val (.int ((((0 : Int32) + (1 : Int32)) + (1 : Int32)) + (1 : Int32))), .val (.int c4)] [(.int (own_fc c4)), (.ref b1_)])
          have f58_ := ((f38_.keep K37_ (allS g8_ (allS gu0 all0))).keep K47_ (allS g8_ (allS gu1 all0)))
          obtain ⟨cq57_, kq57_, q57_a, q57_b, q57_c⟩ := isOf hZ rfl r48_
          obtain ⟨_, _, ⟨T57_, L57_, k57_, n57_⟩, -, X57_, ⟨Lc57_, hQ57_, l57_, y57_, z57_⟩, st57_⟩ := X47_.virtualBack hx (y := (⟨"java/lang/StringBuilder", "append", "(C)Ljava/lang/StringBuilder;"⟩ : MethodName)) (z := (⟨"java/lang/StringBuilder", "append", "(C)Ljava/lang/StringBuilder;"⟩ : MethodName)) hown (mvT hZ (own_w hw 137 rfl)) (mvT hZ (own_w hw 138 rfl)) (notFace_of_selects (args := #[]) (mvT hZ (own_w hw 140 rfl))) (mvT hZ (own_w hw 140 rfl)) (mvT hZ (own_w hw 139 rfl)) (by decide) (backOf (W := 0) (own_rm_sbApp l Z a0 hw [] b1_ (own_fc c4) u2_ ku2 cd2 M2 ws2 ((((0 : Int32) + (1 : Int32)) + (1 : Int32)) + (1 : Int32)) [own_fc c1, own_fc c2, own_fc c3, own_fc c4] 3 4 cz fm T47_.heap n0 (Nat.le_trans Z0 (Nat.le_trans (Nat.le_trans (Nat.le_trans (Nat.le_trans (Nat.le_trans E1_.1 K7_.1) K17_.1) K25_.1) K37_.1) K47_.1)) f58_ S1 (by first | assumption | decide) S2 r_fm S3 S4 S5 r48_ r49_ r50_ r51_ r52_ r53_ r54_ g8_ gu2 rfl (by decide) (by decide) hsb3 hrd rfl) hZ (own_w hw 141 rfl) (own_w hw 36 rfl) (by decide) (by decide)) q57_a q57_c (g := (mkF m 64 #[.val (.ref a1), .val (.ref b1_), .val (.ref a), .val (.int (4 : Int32)), .val (.int ((((0 : Int32) + (1 : Int32)) + (1 : Int32)) + (1 : Int32))), .val (.int c4)] [(.int (own_fc c4)), (.ref b1_)])) rfl (by rw [hml]; rfl) (Steps.refl _) (argsL := [(.int (own_fc c4))]) (rest := []) (lenOf own_pd32 rfl) rfl (by show 2 * 0 + _ ≤ _; exact Nat.le_of_eq rfl) (hb hby own_d620) (fun _ _ => ⟨rfl, rfl, (by decide : 0 + 1 + 0 + 1 + 1 + 1 + 1 + 1 + 1 ≤ _), (by decide : 0 + 4 + 0 + 4 + 4 + 8 + 8 + 8 + 8 ≤ _)⟩)
          dsimp only [Pt.U, Pt.locs, Pt.cells, Pt.slots] at X57_ l57_ y57_ z57_ st57_ hQ57_
          subst l57_ y57_ z57_
          obtain ⟨u3_, ku3, cd3, M3, ws3, rfl, Nq57_, K57_, r59_, r60_, r61_, r62_, r63_, r64_, r65_, hsb4, hfr3⟩ := hQ57_
          have N57_ := Fr.app N47_ Nq57_
          refine own_via (fun _ kq => st57_.trans kq) ?_
          show own_Fin _ _ _ _ _ _ _ T57_ (mkF m 67 #[.val (.ref a1), .val (.ref b1_), .val (.ref a), .val (.int (4 : Int32)), .val (.int ((((0 : Int32) + (1 : Int32)) + (1 : Int32)) + (1 : Int32))), .val (.int c4)] [(.ref b1_)])
          have gu3 : n0 ≤ u3_ := by
            rcases hfr3 with q | q
            · rw [q]; exact gu2
            · exact Nat.le_trans (Nat.le_trans Z0 (Nat.le_trans (Nat.le_trans (Nat.le_trans (Nat.le_trans (Nat.le_trans E1_.1 K7_.1) K17_.1) K25_.1) K37_.1) K47_.1)) q
          have su3 : h0.size ≤ u3_ := by
            rcases hfr3 with q | q
            · rw [q]; exact su2
            · exact Nat.le_trans (Nat.le_trans (Nat.le_trans (Nat.le_trans (Nat.le_trans (Nat.le_trans E1_.1 K7_.1) K17_.1) K25_.1) K37_.1) K47_.1) q
          have nu3 : a ≠ u3_ := by
            rcases hfr3 with q | q
            · rw [q]; exact nu2
            · exact Nat.ne_of_lt (Nat.lt_of_lt_of_le ((((r21_.keep K25_ (ninS (Ne.symm q35_) (ninS (Ne.symm q33_) nin0))).keep K37_ (ninS (Ne.symm q35_) (ninS nu0 nin0))).keep K47_ (ninS (Ne.symm q35_) (ninS nu1 nin0)))).lt q)
          refine own_via (fun _ kq => XS.pop X57_.here hx rfl (hb hby own_d621) rfl rfl kq) ?_
          refine own_via (fun _ kq => XS.iinc X57_.here hx rfl (hb hby own_d622) rfl (l' := #[.val (.ref a1), .val (.ref b1_), .val (.ref a), .val (.int (4 : Int32)), .val (.int (((((0 : Int32) + (1 : Int32)) + (1 : Int32)) + (1 : Int32)) + (1 : Int32))), .val (.int c4)]) rfl kq) ?_
          refine own_via (fun _ kq => XS.goto X57_.here hx rfl (pc0 := 71) (pc' := 23) rfl (hb hby own_d623) (by decide) (by decide) kq) ?_
          refine own_via (fun _ kq => XS.iload X57_.here hx rfl (hb hby own_d595) rfl kq) ?_
          refine own_via (fun _ kq => XS.iloadN X57_.here hx rfl (hb hby own_d596) rfl kq) ?_
          refine own_via (fun _ kq => XS.icmpYes X57_.here hx rfl (pc0 := 26) (pc' := 74) rfl (hb hby own_d597) rfl (flt (by decide)).2.1 (by decide) (by decide) kq) ?_
          show own_Fin _ _ _ _ _ _ _ T57_ (mkF m 74 #[.val (.ref a1), .val (.ref b1_), .val (.ref a), .val (.int (4 : Int32)), .val (.int (((((0 : Int32) + (1 : Int32)) + (1 : Int32)) + (1 : Int32)) + (1 : Int32))), .val (.int c4)] [])
          refine own_via (fun _ kq => XS.aloadN X57_.here hx rfl (hb hby own_d598) rfl rfl kq) ?_
          show own_Fin _ _ _ _ _ _ _ T57_ (mkF m 75 #[.val (.ref a1), .val (.ref b1_), .val (.ref a), .val (.int (4 : Int32)), .val (.int (((((0 : Int32) + (1 : Int32)) + (1 : Int32)) + (1 : Int32)) + (1 : Int32))), .val (.int c4)] [(.ref b1_)])
          obtain ⟨cq66_, kq66_, q66_a, q66_b, q66_c⟩ := isOf hZ rfl r59_
          obtain ⟨_, _, ⟨T66_, L66_, k66_, n66_⟩, -, X66_, ⟨Lc66_, hQ66_, l66_, y66_, z66_⟩, st66_⟩ := X57_.virtualBack hx (y := (⟨"java/lang/StringBuilder", "toString", "()Ljava/lang/String;"⟩ : MethodName)) (z := (⟨"java/lang/StringBuilder", "toString", "()Ljava/lang/String;"⟩ : MethodName)) hown (mvT hZ (own_w hw 80 rfl)) (mvT hZ (own_w hw 81 rfl)) (notFace_of_selects (args := #[]) (mvT hZ (own_w hw 83 rfl))) (mvT hZ (own_w hw 83 rfl)) (mvT hZ (own_w hw 82 rfl)) (by decide) (backOf (W := 0) (own_rm_sbToS l Z a0 hw [] b1_ u3_ ku3 cd3 M3 ws3 (((((0 : Int32) + (1 : Int32)) + (1 : Int32)) + (1 : Int32)) + (1 : Int32)) [own_fc c1, own_fc c2, own_fc c3, own_fc c4] cz T57_.heap n0 (Nat.le_trans Z0 (Nat.le_trans (Nat.le_trans (Nat.le_trans (Nat.le_trans (Nat.le_trans (Nat.le_trans E1_.1 K7_.1) K17_.1) K25_.1) K37_.1) K47_.1) K57_.1)) (f58_.keep K57_ (allS g8_ (allS gu2 all0))) S1 (by first | assumption | decide) r59_ r60_ r61_ r62_ r63_ r64_ r65_ rfl (by simp) hsb4) hZ (own_w hw 84 rfl) (own_w hw 36 rfl) (by decide) (by decide)) q66_a q66_c (g := (mkF m 75 #[.val (.ref a1), .val (.ref b1_), .val (.ref a), .val (.int (4 : Int32)), .val (.int (((((0 : Int32) + (1 : Int32)) + (1 : Int32)) + (1 : Int32)) + (1 : Int32))), .val (.int c4)] [(.ref b1_)])) rfl (by rw [hml]; rfl) (Steps.refl _) (argsL := []) (rest := []) (lenOf own_pd31 rfl) rfl (by show 2 * 0 + _ ≤ _; exact Nat.le_of_eq rfl) (hb hby own_d599) (fun _ _ => ⟨rfl, rfl, (by decide : 0 + 1 + 0 + 1 + 1 + 1 + 1 + 1 + 1 + 2 ≤ _), (by decide : 0 + 4 + 0 + 4 + 4 + 8 + 8 + 8 + 8 + 12 ≤ _)⟩)
          dsimp only [Pt.U, Pt.locs, Pt.cells, Pt.slots] at X66_ l66_ y66_ z66_ st66_ hQ66_
          subst l66_ y66_ z66_
          obtain ⟨x, u, ku, cd2, M2, ws, rfl, Nq66_, K66_, r67_, r68_, r69_, r70_, r71_, hcod⟩ := hQ66_
          have N66_ := Fr.app N57_ Nq66_
          refine own_via (fun _ kq => st66_.trans kq) ?_
          show own_Fin _ _ _ _ _ _ _ T66_ (mkF m 78 #[.val (.ref a1), .val (.ref b1_), .val (.ref a), .val (.int (4 : Int32)), .val (.int (((((0 : Int32) + (1 : Int32)) + (1 : Int32)) + (1 : Int32)) + (1 : Int32))), .val (.int c4)] [(.ref x)])
          exact own_retA X66_ hx Bd.returns Bd.notSynchronized rfl rfl (hb hby own_d600) rfl ⟨x, u, ku, cd2, M2, ws, rfl, N66_, (((((((((Keep.refl h0 []).ext E1_).trans K7_ (allS (Or.inr (Nat.le_of_eq g1_.symm)) all0)).trans K17_ all0).trans K25_ (allS (Or.inr (Nat.le_of_eq g1_.symm)) (allS (Or.inr (Nat.le_trans E1_.1 r14_)) all0))).trans K37_ (allS (Or.inr (Nat.le_of_eq g1_.symm)) (allS (Or.inr su0) all0))).trans K47_ (allS (Or.inr (Nat.le_of_eq g1_.symm)) (allS (Or.inr su1) all0))).trans K57_ (allS (Or.inr (Nat.le_of_eq g1_.symm)) (allS (Or.inr su2) all0))).trans K66_ all0), (Nat.le_trans (Nat.le_trans (Nat.le_trans (Nat.le_trans (Nat.le_trans (Nat.le_trans (Nat.le_trans E1_.1 K7_.1) K17_.1) K25_.1) K37_.1) K47_.1) K57_.1) r67_), r68_, r69_, r70_, r71_, hcod⟩ (by decide) (by decide)
        refine own_via (fun _ kq => XS.iload X47_.here hx rfl (hb hby own_d606) rfl kq) ?_
        refine own_via (fun _ kq => XS.bipush X47_.here hx rfl (hb hby own_d607) kq) ?_
        rcases Classical.em (c4 < (65 : Int32)) with ha | ha
        · refine own_via (fun _ kq => XS.icmpYes X47_.here hx rfl (pc0 := 40) (pc' := 62) rfl (hb hby own_d608) rfl (tlt ha).1 (by decide) (by decide) kq) ?_
          show own_Fin _ _ _ _ _ _ _ T47_ (mkF m 62 #[.val (.ref a1), .val (.ref b1_), .val (.ref a), .val (.int (4 : Int32)), .val (.int ((((0 : Int32) + (1 : Int32)) + (1 : Int32)) + (1 : Int32))), .val (.int c4)] [(.ref b1_)])
          refine own_via (fun _ kq => XS.iload X47_.here hx rfl (hb hby own_d609) rfl kq) ?_
          show own_Fin _ _ _ _ _ _ _ T47_ (mkF m 64 #[.val (.ref a1), .val (.ref b1_), .val (.ref a), .val (.int (4 : Int32)), .val (.int ((((0 : Int32) + (1 : Int32)) + (1 : Int32)) + (1 : Int32))), .val (.int c4)] [(.int c4), (.ref b1_)])
          exact s3 _ (own_fc_a ha)
        · refine own_via (fun _ kq => XS.icmpNo X47_.here hx rfl (hb hby own_d608) rfl (flt ha).1 kq) ?_
          show own_Fin _ _ _ _ _ _ _ T47_ (mkF m 43 #[.val (.ref a1), .val (.ref b1_), .val (.ref a), .val (.int (4 : Int32)), .val (.int ((((0 : Int32) + (1 : Int32)) + (1 : Int32)) + (1 : Int32))), .val (.int c4)] [(.ref b1_)])
          refine own_via (fun _ kq => XS.iload X47_.here hx rfl (hb hby own_d610) rfl kq) ?_
          refine own_via (fun _ kq => XS.bipush X47_.here hx rfl (hb hby own_d611) kq) ?_
          rcases Classical.em ((90 : Int32) < c4) with hb_ | hb_
          · refine own_via (fun _ kq => XS.icmpYes X47_.here hx rfl (pc0 := 47) (pc' := 62) rfl (hb hby own_d612) rfl (tlt hb_).2.2.1 (by decide) (by decide) kq) ?_
            show own_Fin _ _ _ _ _ _ _ T47_ (mkF m 62 #[.val (.ref a1), .val (.ref b1_), .val (.ref a), .val (.int (4 : Int32)), .val (.int ((((0 : Int32) + (1 : Int32)) + (1 : Int32)) + (1 : Int32))), .val (.int c4)] [(.ref b1_)])
            refine own_via (fun _ kq => XS.iload X47_.here hx rfl (hb hby own_d609) rfl kq) ?_
            show own_Fin _ _ _ _ _ _ _ T47_ (mkF m 64 #[.val (.ref a1), .val (.ref b1_), .val (.ref a), .val (.int (4 : Int32)), .val (.int ((((0 : Int32) + (1 : Int32)) + (1 : Int32)) + (1 : Int32))), .val (.int c4)] [(.int c4), (.ref b1_)])
            exact s3 _ (own_fc_b hb_)
          · refine own_via (fun _ kq => XS.icmpNo X47_.here hx rfl (hb hby own_d612) rfl (flt hb_).2.2.1 kq) ?_
            show own_Fin _ _ _ _ _ _ _ T47_ (mkF m 50 #[.val (.ref a1), .val (.ref b1_), .val (.ref a), .val (.int (4 : Int32)), .val (.int ((((0 : Int32) + (1 : Int32)) + (1 : Int32)) + (1 : Int32))), .val (.int c4)] [(.ref b1_)])
            refine own_via (fun _ kq => XS.iload X47_.here hx rfl (hb hby own_d613) rfl kq) ?_
            refine own_via (fun _ kq => XS.bipush X47_.here hx rfl (hb hby own_d614) kq) ?_
            refine own_via (fun _ kq => XS.isub X47_.here hx rfl (hb hby own_d615) rfl kq) ?_
            show own_Fin _ _ _ _ _ _ _ T47_ (mkF m 55 #[.val (.ref a1), .val (.ref b1_), .val (.ref a), .val (.int (4 : Int32)), .val (.int ((((0 : Int32) + (1 : Int32)) + (1 : Int32)) + (1 : Int32))), .val (.int c4)] [(.int (c4 - (65 : Int32))), (.ref b1_)])
            refine own_via (fun _ kq => XS.bipush X47_.here hx rfl (hb hby own_d616) kq) ?_
            refine own_via (fun _ kq => XS.iadd X47_.here hx rfl (hb hby own_d617) rfl kq) ?_
            refine own_via (fun _ kq => XS.i2c X47_.here hx rfl (hb hby own_d618) rfl kq) ?_
            refine own_via (fun _ kq => XS.goto X47_.here hx rfl (pc0 := 59) (pc' := 64) rfl (hb hby own_d619) (by decide) (by decide) kq) ?_
            show own_Fin _ _ _ _ _ _ _ T47_ (mkF m 64 #[.val (.ref a1), .val (.ref b1_), .val (.ref a), .val (.int (4 : Int32)), .val (.int ((((0 : Int32) + (1 : Int32)) + (1 : Int32)) + (1 : Int32))), .val (.int c4)] [(.int (((c4 - (65 : Int32)) + (97 : Int32)).toUInt32.toUInt16.toUInt32.toInt32)), (.ref b1_)])
            exact s3 _ (own_fc_c ha hb_)
      refine own_via (fun _ kq => XS.iload X37_.here hx rfl (hb hby own_d606) rfl kq) ?_
      refine own_via (fun _ kq => XS.bipush X37_.here hx rfl (hb hby own_d607) kq) ?_
      rcases Classical.em (c3 < (65 : Int32)) with ha | ha
      · refine own_via (fun _ kq => XS.icmpYes X37_.here hx rfl (pc0 := 40) (pc' := 62) rfl (hb hby own_d608) rfl (tlt ha).1 (by decide) (by decide) kq) ?_
        show own_Fin _ _ _ _ _ _ _ T37_ (mkF m 62 #[.val (.ref a1), .val (.ref b1_), .val (.ref a), .val (.int (4 : Int32)), .val (.int (((0 : Int32) + (1 : Int32)) + (1 : Int32))), .val (.int c3)] [(.ref b1_)])
        refine own_via (fun _ kq => XS.iload X37_.here hx rfl (hb hby own_d609) rfl kq) ?_
        show own_Fin _ _ _ _ _ _ _ T37_ (mkF m 64 #[.val (.ref a1), .val (.ref b1_), .val (.ref a), .val (.int (4 : Int32)), .val (.int (((0 : Int32) + (1 : Int32)) + (1 : Int32))), .val (.int c3)] [(.int c3), (.ref b1_)])
        exact s2 _ (own_fc_a ha)
      · refine own_via (fun _ kq => XS.icmpNo X37_.here hx rfl (hb hby own_d608) rfl (flt ha).1 kq) ?_
        show own_Fin _ _ _ _ _ _ _ T37_ (mkF m 43 #[.val (.ref a1), .val (.ref b1_), .val (.ref a), .val (.int (4 : Int32)), .val (.int (((0 : Int32) + (1 : Int32)) + (1 : Int32))), .val (.int c3)] [(.ref b1_)])
        refine own_via (fun _ kq => XS.iload X37_.here hx rfl (hb hby own_d610) rfl kq) ?_
        refine own_via (fun _ kq => XS.bipush X37_.here hx rfl (hb hby own_d611) kq) ?_
        rcases Classical.em ((90 : Int32) < c3) with hb_ | hb_
        · refine own_via (fun _ kq => XS.icmpYes X37_.here hx rfl (pc0 := 47) (pc' := 62) rfl (hb hby own_d612) rfl (tlt hb_).2.2.1 (by decide) (by decide) kq) ?_
          show own_Fin _ _ _ _ _ _ _ T37_ (mkF m 62 #[.val (.ref a1), .val (.ref b1_), .val (.ref a), .val (.int (4 : Int32)), .val (.int (((0 : Int32) + (1 : Int32)) + (1 : Int32))), .val (.int c3)] [(.ref b1_)])
          refine own_via (fun _ kq => XS.iload X37_.here hx rfl (hb hby own_d609) rfl kq) ?_
          show own_Fin _ _ _ _ _ _ _ T37_ (mkF m 64 #[.val (.ref a1), .val (.ref b1_), .val (.ref a), .val (.int (4 : Int32)), .val (.int (((0 : Int32) + (1 : Int32)) + (1 : Int32))), .val (.int c3)] [(.int c3), (.ref b1_)])
          exact s2 _ (own_fc_b hb_)
        · refine own_via (fun _ kq => XS.icmpNo X37_.here hx rfl (hb hby own_d612) rfl (flt hb_).2.2.1 kq) ?_
          show own_Fin _ _ _ _ _ _ _ T37_ (mkF m 50 #[.val (.ref a1), .val (.ref b1_), .val (.ref a), .val (.int (4 : Int32)), .val (.int (((0 : Int32) + (1 : Int32)) + (1 : Int32))), .val (.int c3)] [(.ref b1_)])
          refine own_via (fun _ kq => XS.iload X37_.here hx rfl (hb hby own_d613) rfl kq) ?_
          refine own_via (fun _ kq => XS.bipush X37_.here hx rfl (hb hby own_d614) kq) ?_
          refine own_via (fun _ kq => XS.isub X37_.here hx rfl (hb hby own_d615) rfl kq) ?_
          show own_Fin _ _ _ _ _ _ _ T37_ (mkF m 55 #[.val (.ref a1), .val (.ref b1_), .val (.ref a), .val (.int (4 : Int32)), .val (.int (((0 : Int32) + (1 : Int32)) + (1 : Int32))), .val (.int c3)] [(.int (c3 - (65 : Int32))), (.ref b1_)])
          refine own_via (fun _ kq => XS.bipush X37_.here hx rfl (hb hby own_d616) kq) ?_
          refine own_via (fun _ kq => XS.iadd X37_.here hx rfl (hb hby own_d617) rfl kq) ?_
          refine own_via (fun _ kq => XS.i2c X37_.here hx rfl (hb hby own_d618) rfl kq) ?_
          refine own_via (fun _ kq => XS.goto X37_.here hx rfl (pc0 := 59) (pc' := 64) rfl (hb hby own_d619) (by decide) (by decide) kq) ?_
          show own_Fin _ _ _ _ _ _ _ T37_ (mkF m 64 #[.val (.ref a1), .val (.ref b1_), .val (.ref a), .val (.int (4 : Int32)), .val (.int (((0 : Int32) + (1 : Int32)) + (1 : Int32))), .val (.int c3)] [(.int (((c3 - (65 : Int32)) + (97 : Int32)).toUInt32.toUInt16.toUInt32.toInt32)), (.ref b1_)])
          exact s2 _ (own_fc_c ha hb_)
    refine own_via (fun _ kq => XS.iload X25_.here hx rfl (hb hby own_d606) rfl kq) ?_
    refine own_via (fun _ kq => XS.bipush X25_.here hx rfl (hb hby own_d607) kq) ?_
    rcases Classical.em (c2 < (65 : Int32)) with ha | ha
    · refine own_via (fun _ kq => XS.icmpYes X25_.here hx rfl (pc0 := 40) (pc' := 62) rfl (hb hby own_d608) rfl (tlt ha).1 (by decide) (by decide) kq) ?_
      show own_Fin _ _ _ _ _ _ _ T25_ (mkF m 62 #[.val (.ref a1), .val (.ref b1_), .val (.ref a), .val (.int (4 : Int32)), .val (.int ((0 : Int32) + (1 : Int32))), .val (.int c2)] [(.ref b1_)])
      refine own_via (fun _ kq => XS.iload X25_.here hx rfl (hb hby own_d609) rfl kq) ?_
      show own_Fin _ _ _ _ _ _ _ T25_ (mkF m 64 #[.val (.ref a1), .val (.ref b1_), .val (.ref a), .val (.int (4 : Int32)), .val (.int ((0 : Int32) + (1 : Int32))), .val (.int c2)] [(.int c2), (.ref b1_)])
      exact s1 _ (own_fc_a ha)
    · refine own_via (fun _ kq => XS.icmpNo X25_.here hx rfl (hb hby own_d608) rfl (flt ha).1 kq) ?_
      show own_Fin _ _ _ _ _ _ _ T25_ (mkF m 43 #[.val (.ref a1), .val (.ref b1_), .val (.ref a), .val (.int (4 : Int32)), .val (.int ((0 : Int32) + (1 : Int32))), .val (.int c2)] [(.ref b1_)])
      refine own_via (fun _ kq => XS.iload X25_.here hx rfl (hb hby own_d610) rfl kq) ?_
      refine own_via (fun _ kq => XS.bipush X25_.here hx rfl (hb hby own_d611) kq) ?_
      rcases Classical.em ((90 : Int32) < c2) with hb_ | hb_
      · refine own_via (fun _ kq => XS.icmpYes X25_.here hx rfl (pc0 := 47) (pc' := 62) rfl (hb hby own_d612) rfl (tlt hb_).2.2.1 (by decide) (by decide) kq) ?_
        show own_Fin _ _ _ _ _ _ _ T25_ (mkF m 62 #[.val (.ref a1), .val (.ref b1_), .val (.ref a), .val (.int (4 : Int32)), .val (.int ((0 : Int32) + (1 : Int32))), .val (.int c2)] [(.ref b1_)])
        refine own_via (fun _ kq => XS.iload X25_.here hx rfl (hb hby own_d609) rfl kq) ?_
        show own_Fin _ _ _ _ _ _ _ T25_ (mkF m 64 #[.val (.ref a1), .val (.ref b1_), .val (.ref a), .val (.int (4 : Int32)), .val (.int ((0 : Int32) + (1 : Int32))), .val (.int c2)] [(.int c2), (.ref b1_)])
        exact s1 _ (own_fc_b hb_)
      · refine own_via (fun _ kq => XS.icmpNo X25_.here hx rfl (hb hby own_d612) rfl (flt hb_).2.2.1 kq) ?_
        show own_Fin _ _ _ _ _ _ _ T25_ (mkF m 50 #[.val (.ref a1), .val (.ref b1_), .val (.ref a), .val (.int (4 : Int32)), .val (.int ((0 : Int32) + (1 : Int32))), .val (.int c2)] [(.ref b1_)])
        refine own_via (fun _ kq => XS.iload X25_.here hx rfl (hb hby own_d613) rfl kq) ?_
        refine own_via (fun _ kq => XS.bipush X25_.here hx rfl (hb hby own_d614) kq) ?_
        refine own_via (fun _ kq => XS.isub X25_.here hx rfl (hb hby own_d615) rfl kq) ?_
        show own_Fin _ _ _ _ _ _ _ T25_ (mkF m 55 #[.val (.ref a1), .val (.ref b1_), .val (.ref a), .val (.int (4 : Int32)), .val (.int ((0 : Int32) + (1 : Int32))), .val (.int c2)] [(.int (c2 - (65 : Int32))), (.ref b1_)])
        refine own_via (fun _ kq => XS.bipush X25_.here hx rfl (hb hby own_d616) kq) ?_
        refine own_via (fun _ kq => XS.iadd X25_.here hx rfl (hb hby own_d617) rfl kq) ?_
        refine own_via (fun _ kq => XS.i2c X25_.here hx rfl (hb hby own_d618) rfl kq) ?_
        refine own_via (fun _ kq => XS.goto X25_.here hx rfl (pc0 := 59) (pc' := 64) rfl (hb hby own_d619) (by decide) (by decide) kq) ?_
        show own_Fin _ _ _ _ _ _ _ T25_ (mkF m 64 #[.val (.ref a1), .val (.ref b1_), .val (.ref a), .val (.int (4 : Int32)), .val (.int ((0 : Int32) + (1 : Int32))), .val (.int c2)] [(.int (((c2 - (65 : Int32)) + (97 : Int32)).toUInt32.toUInt16.toUInt32.toInt32)), (.ref b1_)])
        exact s1 _ (own_fc_c ha hb_)
  refine own_via (fun _ kq => XS.iload X17_.here hx rfl (hb hby own_d606) rfl kq) ?_
  refine own_via (fun _ kq => XS.bipush X17_.here hx rfl (hb hby own_d607) kq) ?_
  rcases Classical.em (c1 < (65 : Int32)) with ha | ha
  · refine own_via (fun _ kq => XS.icmpYes X17_.here hx rfl (pc0 := 40) (pc' := 62) rfl (hb hby own_d608) rfl (tlt ha).1 (by decide) (by decide) kq) ?_
    show own_Fin _ _ _ _ _ _ _ T17_ (mkF m 62 #[.val (.ref a1), .val (.ref b1_), .val (.ref a), .val (.int (4 : Int32)), .val (.int (0 : Int32)), .val (.int c1)] [(.ref b1_)])
    refine own_via (fun _ kq => XS.iload X17_.here hx rfl (hb hby own_d609) rfl kq) ?_
    show own_Fin _ _ _ _ _ _ _ T17_ (mkF m 64 #[.val (.ref a1), .val (.ref b1_), .val (.ref a), .val (.int (4 : Int32)), .val (.int (0 : Int32)), .val (.int c1)] [(.int c1), (.ref b1_)])
    exact s0 _ (own_fc_a ha)
  · refine own_via (fun _ kq => XS.icmpNo X17_.here hx rfl (hb hby own_d608) rfl (flt ha).1 kq) ?_
    show own_Fin _ _ _ _ _ _ _ T17_ (mkF m 43 #[.val (.ref a1), .val (.ref b1_), .val (.ref a), .val (.int (4 : Int32)), .val (.int (0 : Int32)), .val (.int c1)] [(.ref b1_)])
    refine own_via (fun _ kq => XS.iload X17_.here hx rfl (hb hby own_d610) rfl kq) ?_
    refine own_via (fun _ kq => XS.bipush X17_.here hx rfl (hb hby own_d611) kq) ?_
    rcases Classical.em ((90 : Int32) < c1) with hb_ | hb_
    · refine own_via (fun _ kq => XS.icmpYes X17_.here hx rfl (pc0 := 47) (pc' := 62) rfl (hb hby own_d612) rfl (tlt hb_).2.2.1 (by decide) (by decide) kq) ?_
      show own_Fin _ _ _ _ _ _ _ T17_ (mkF m 62 #[.val (.ref a1), .val (.ref b1_), .val (.ref a), .val (.int (4 : Int32)), .val (.int (0 : Int32)), .val (.int c1)] [(.ref b1_)])
      refine own_via (fun _ kq => XS.iload X17_.here hx rfl (hb hby own_d609) rfl kq) ?_
      show own_Fin _ _ _ _ _ _ _ T17_ (mkF m 64 #[.val (.ref a1), .val (.ref b1_), .val (.ref a), .val (.int (4 : Int32)), .val (.int (0 : Int32)), .val (.int c1)] [(.int c1), (.ref b1_)])
      exact s0 _ (own_fc_b hb_)
    · refine own_via (fun _ kq => XS.icmpNo X17_.here hx rfl (hb hby own_d612) rfl (flt hb_).2.2.1 kq) ?_
      show own_Fin _ _ _ _ _ _ _ T17_ (mkF m 50 #[.val (.ref a1), .val (.ref b1_), .val (.ref a), .val (.int (4 : Int32)), .val (.int (0 : Int32)), .val (.int c1)] [(.ref b1_)])
      refine own_via (fun _ kq => XS.iload X17_.here hx rfl (hb hby own_d613) rfl kq) ?_
      refine own_via (fun _ kq => XS.bipush X17_.here hx rfl (hb hby own_d614) kq) ?_
      refine own_via (fun _ kq => XS.isub X17_.here hx rfl (hb hby own_d615) rfl kq) ?_
      show own_Fin _ _ _ _ _ _ _ T17_ (mkF m 55 #[.val (.ref a1), .val (.ref b1_), .val (.ref a), .val (.int (4 : Int32)), .val (.int (0 : Int32)), .val (.int c1)] [(.int (c1 - (65 : Int32))), (.ref b1_)])
      refine own_via (fun _ kq => XS.bipush X17_.here hx rfl (hb hby own_d616) kq) ?_
      refine own_via (fun _ kq => XS.iadd X17_.here hx rfl (hb hby own_d617) rfl kq) ?_
      refine own_via (fun _ kq => XS.i2c X17_.here hx rfl (hb hby own_d618) rfl kq) ?_
      refine own_via (fun _ kq => XS.goto X17_.here hx rfl (pc0 := 59) (pc' := 64) rfl (hb hby own_d619) (by decide) (by decide) kq) ?_
      show own_Fin _ _ _ _ _ _ _ T17_ (mkF m 64 #[.val (.ref a1), .val (.ref b1_), .val (.ref a), .val (.int (4 : Int32)), .val (.int (0 : Int32)), .val (.int c1)] [(.int (((c1 - (65 : Int32)) + (97 : Int32)).toUInt32.toUInt16.toUInt32.toInt32)), (.ref b1_)])
      exact s0 _ (own_fc_c ha hb_)
theorem own_d624 : decode method_3_code 0 = .ok (.iload_n 0, 1) := by decide +kernel
theorem own_d625 : decode method_3_code 1 = .ok (.iconst 1, 1) := by decide +kernel
theorem own_d626 : decode method_3_code 2 = .ok (.iand, 1) := by decide +kernel
theorem own_d627 : decode method_3_code 3 = .ok (.ifCond .eq 14, 3) := by decide +kernel
theorem own_d628 : decode method_3_code 17 = .ok (.iload_n 0, 1) := by decide +kernel
theorem own_d629 : decode method_3_code 18 = .ok (.iconst 1, 1) := by decide +kernel
theorem own_d630 : decode method_3_code 19 = .ok (.iushr, 1) := by decide +kernel
theorem own_d631 : decode method_3_code 20 = .ok (.i2c, 1) := by decide +kernel
theorem own_d632 : decode method_3_code 21 = .ok (.ireturn, 1) := by decide +kernel
theorem own_d633 : decode method_3_code 6 = .ok (.bipush 62, 2) := by decide +kernel
theorem own_d634 : decode method_3_code 8 = .ok (.iload_n 0, 1) := by decide +kernel
theorem own_d635 : decode method_3_code 9 = .ok (.iconst 1, 1) := by decide +kernel
theorem own_d636 : decode method_3_code 10 = .ok (.iushr, 1) := by decide +kernel
theorem own_d637 : decode method_3_code 11 = .ok (.bipush 63, 2) := by decide +kernel
theorem own_d638 : decode method_3_code 13 = .ok (.iand, 1) := by decide +kernel
theorem own_d639 : decode method_3_code 14 = .ok (.iadd, 1) := by decide +kernel
theorem own_d640 : decode method_3_code 15 = .ok (.i2c, 1) := by decide +kernel
theorem own_d641 : decode method_3_code 16 = .ok (.ireturn, 1) := by decide +kernel
theorem own_pn8 : plainName "com/example/even_rows/evenrows/mapping/SqlNameFoldedPinLaw" = true := by first | (simp [plainName, overriddenIn]; done) | decide +kernel
theorem own_ef_draw (m : MethodId) (x : Int32) : entryFrame m #[(.int x)] 1 = mkF m 0 #[.val (.int x)] [] := by (first | (simp [entryFrame, mkF, argsToLocals, Value.category]; done) | rfl)
def own_Q_draw (Z : State) (x : Int32) (h0 : Heap) (n0 : Nat) (vq : Option Value) (h : Heap) (Lq : List Loc) : Prop := ∃ (r : Int32), (vq = some (.int r)) ∧ (Fr n0 Lq) ∧ (h = h0) ∧ (own_chr r)
abbrev own_R_draw : Room := { frames := 0, cells := 0, slots := 0, locals := 0 }
set_option maxRecDepth 65536 in
set_option maxHeartbeats 40000000 in
theorem own_rm_draw (l : Launch) (Z : State) (a0 : Array Value) (hw : ∀ d ∈ tables_1, d.before a0 Z = true) (wsq : List Jvm.Cond) (x : Int32) (h0 : Heap) (n0 : Nat) (Z0 : n0 ≤ h0.size) :
    MetFree l (⟨"com/example/even_rows/evenrows/mapping/SqlNameFoldedPinLaw", "draw", "(I)C"⟩ : MethodName) (head1 (Jvm.Cond.code (⟨"com/example/even_rows/evenrows/mapping/SqlNameFoldedPinLaw", "draw", "(I)C"⟩ : MethodName) method_3_code 1 (some .char) :: wsq) own_R_draw) (fun aq Uq => aq = #[(.int x)] ∧ Z.Warmed39 Uq.vm ∧ Uq.heap = h0) (fun _ _ _ _ _ => True) (fun _ Uq oq Uq' => ∃ vq Lq, oq = .returned vq ∧ own_Q_draw Z x h0 n0 vq Uq'.heap Lq ∧ FrameEnd Uq oq Uq' Lq own_R_draw.cells own_R_draw.slots) := by
  refine MetFree.of_bodySF (plainFor_of_name own_pn8) hisR ?_
  intro p e s m args below meth cde s₁ Bd hml0 hP hK
  obtain ⟨rfl, hZ, hh⟩ := hP
  have hx := Bd.exec
  have hby := Bd.bytes
  have hml : cde.maxLocals = 1 := hml0
  have hown : s.vm.findClass "com/example/even_rows/evenrows/mapping/SqlNameFoldedPinLaw" = some m.cls := findClass_of_methodNamed Bd.named
  have hnm := (name_of_methodNamed Bd.named Bd.method).1
  have X0 : Stand p l e own_R_draw s m #[(.int x)] below meth cde s₁ [] 0 0 := Stand.of_body Bd
  have e0 : s₁.heap = h0 := by rw [← hh, Bd.state]; rfl
  have N0 := Fr.nil n0
  show own_Fin p e s below (own_Q_draw Z x h0 n0) own_R_draw.cells own_R_draw.slots s₁ (entryFrame m #[(.int x)] 1)
  rw [own_ef_draw m x]
  refine own_via (fun _ kq => XS.iloadN X0.here hx rfl (hb hby own_d624) rfl kq) ?_
  refine own_via (fun _ kq => XS.iconst X0.here hx rfl (hb hby own_d625) kq) ?_
  refine own_via (fun _ kq => XS.iand X0.here hx rfl (hb hby own_d626) rfl kq) ?_
  rcases Classical.em ((x &&& (1 : Int32)) = (0 : Int32)) with h1 | h1
  · refine own_via (fun _ kq => XS.ifYes X0.here hx rfl (pc0 := 3) (pc' := 17) rfl (hb hby own_d627) rfl ((if0 _ _).trans (teq h1).1) (by decide) (by decide) kq) ?_
    show own_Fin _ _ _ _ _ _ _ s₁ (mkF m 17 #[.val (.int x)] [])
    refine own_via (fun _ kq => XS.iloadN X0.here hx rfl (hb hby own_d628) rfl kq) ?_
    refine own_via (fun _ kq => XS.iconst X0.here hx rfl (hb hby own_d629) kq) ?_
    refine own_via (fun _ kq => XS.iushr X0.here hx rfl (hb hby own_d630) rfl kq) ?_
    refine own_via (fun _ kq => XS.i2c X0.here hx rfl (hb hby own_d631) rfl kq) ?_
    show own_Fin _ _ _ _ _ _ _ s₁ (mkF m 21 #[.val (.int x)] [(.int (((x.toUInt32 >>> ((1 : Int32) &&& 31).toUInt32).toInt32).toUInt32.toUInt16.toUInt32.toInt32))])
    exact own_retN X0 hx (t := .char) Bd.returns Bd.notSynchronized (by simp) (hb hby own_d632) e0 (own_narch (own_i2c_chr _)) ⟨(((x.toUInt32 >>> ((1 : Int32) &&& 31).toUInt32).toInt32).toUInt32.toUInt16.toUInt32.toInt32), rfl, N0, rfl, (own_i2c_chr _)⟩ (by decide) (by decide)
  · refine own_via (fun _ kq => XS.ifNo X0.here hx rfl (hb hby own_d627) rfl ((if0 _ _).trans (feq h1).1) kq) ?_
    show own_Fin _ _ _ _ _ _ _ s₁ (mkF m 6 #[.val (.int x)] [])
    refine own_via (fun _ kq => XS.bipush X0.here hx rfl (hb hby own_d633) kq) ?_
    refine own_via (fun _ kq => XS.iloadN X0.here hx rfl (hb hby own_d634) rfl kq) ?_
    refine own_via (fun _ kq => XS.iconst X0.here hx rfl (hb hby own_d635) kq) ?_
    refine own_via (fun _ kq => XS.iushr X0.here hx rfl (hb hby own_d636) rfl kq) ?_
    refine own_via (fun _ kq => XS.bipush X0.here hx rfl (hb hby own_d637) kq) ?_
    refine own_via (fun _ kq => XS.iand X0.here hx rfl (hb hby own_d638) rfl kq) ?_
    show own_Fin _ _ _ _ _ _ _ s₁ (mkF m 14 #[.val (.int x)] [(.int (((x.toUInt32 >>> ((1 : Int32) &&& 31).toUInt32).toInt32) &&& (63 : Int32))), (.int (62 : Int32))])
    refine own_via (fun _ kq => XS.iadd X0.here hx rfl (hb hby own_d639) rfl kq) ?_
    refine own_via (fun _ kq => XS.i2c X0.here hx rfl (hb hby own_d640) rfl kq) ?_
    show own_Fin _ _ _ _ _ _ _ s₁ (mkF m 16 #[.val (.int x)] [(.int (((62 : Int32) + (((x.toUInt32 >>> ((1 : Int32) &&& 31).toUInt32).toInt32) &&& (63 : Int32))).toUInt32.toUInt16.toUInt32.toInt32))])
    exact own_retN X0 hx (t := .char) Bd.returns Bd.notSynchronized (by simp) (hb hby own_d641) e0 (own_narch (own_i2c_chr _)) ⟨(((62 : Int32) + (((x.toUInt32 >>> ((1 : Int32) &&& 31).toUInt32).toInt32) &&& (63 : Int32))).toUInt32.toUInt16.toUInt32.toInt32), rfl, N0, rfl, (own_i2c_chr _)⟩ (by decide) (by decide)
theorem own_d642 : decode method_4_code 0 = .ok (.iload_n 0, 1) := by decide +kernel
theorem own_d643 : decode method_4_code 1 = .ok (.bipush 65, 2) := by decide +kernel
theorem own_d644 : decode method_4_code 3 = .ok (.if_icmp .ge 5, 3) := by decide +kernel
theorem own_d645 : decode method_4_code 6 = .ok (.iload_n 0, 1) := by decide +kernel
theorem own_d646 : decode method_4_code 7 = .ok (.ireturn, 1) := by decide +kernel
theorem own_d647 : decode method_4_code 8 = .ok (.iload_n 0, 1) := by decide +kernel
theorem own_d648 : decode method_4_code 9 = .ok (.bipush 90, 2) := by decide +kernel
theorem own_d649 : decode method_4_code 11 = .ok (.if_icmp .le 5, 3) := by decide +kernel
theorem own_d650 : decode method_4_code 14 = .ok (.iload_n 0, 1) := by decide +kernel
theorem own_d651 : decode method_4_code 15 = .ok (.ireturn, 1) := by decide +kernel
theorem own_d652 : decode method_4_code 16 = .ok (.iload_n 0, 1) := by decide +kernel
theorem own_d653 : decode method_4_code 17 = .ok (.bipush 32, 2) := by decide +kernel
theorem own_d654 : decode method_4_code 19 = .ok (.iadd, 1) := by decide +kernel
theorem own_d655 : decode method_4_code 20 = .ok (.i2c, 1) := by decide +kernel
theorem own_d656 : decode method_4_code 21 = .ok (.ireturn, 1) := by decide +kernel
theorem own_ef_foldC (m : MethodId) (c : Int32) : entryFrame m #[(.int c)] 1 = mkF m 0 #[.val (.int c)] [] := by (first | (simp [entryFrame, mkF, argsToLocals, Value.category]; done) | rfl)
def own_Q_foldC (Z : State) (c : Int32) (h0 : Heap) (n0 : Nat) (vq : Option Value) (h : Heap) (Lq : List Loc) : Prop := (vq = some (.int (own_fc c))) ∧ (Fr n0 Lq) ∧ (h = h0)
abbrev own_R_foldC : Room := { frames := 0, cells := 0, slots := 0, locals := 0 }
set_option maxRecDepth 65536 in
set_option maxHeartbeats 40000000 in
theorem own_rm_foldC (l : Launch) (Z : State) (a0 : Array Value) (hw : ∀ d ∈ tables_1, d.before a0 Z = true) (wsq : List Jvm.Cond) (c : Int32) (h0 : Heap) (n0 : Nat) (Z0 : n0 ≤ h0.size) (hc : own_chr c) :
    MetFree l (⟨"com/example/even_rows/evenrows/mapping/SqlNameFoldedPinLaw", "fold", "(C)C"⟩ : MethodName) (head1 (Jvm.Cond.code (⟨"com/example/even_rows/evenrows/mapping/SqlNameFoldedPinLaw", "fold", "(C)C"⟩ : MethodName) method_4_code 1 (some .char) :: wsq) own_R_foldC) (fun aq Uq => aq = #[(.int c)] ∧ Z.Warmed39 Uq.vm ∧ Uq.heap = h0) (fun _ _ _ _ _ => True) (fun _ Uq oq Uq' => ∃ vq Lq, oq = .returned vq ∧ own_Q_foldC Z c h0 n0 vq Uq'.heap Lq ∧ FrameEnd Uq oq Uq' Lq own_R_foldC.cells own_R_foldC.slots) := by
  refine MetFree.of_bodySF (plainFor_of_name own_pn8) hisR ?_
  intro p e s m args below meth cde s₁ Bd hml0 hP hK
  obtain ⟨rfl, hZ, hh⟩ := hP
  have hx := Bd.exec
  have hby := Bd.bytes
  have hml : cde.maxLocals = 1 := hml0
  have hown : s.vm.findClass "com/example/even_rows/evenrows/mapping/SqlNameFoldedPinLaw" = some m.cls := findClass_of_methodNamed Bd.named
  have hnm := (name_of_methodNamed Bd.named Bd.method).1
  have X0 : Stand p l e own_R_foldC s m #[(.int c)] below meth cde s₁ [] 0 0 := Stand.of_body Bd
  have e0 : s₁.heap = h0 := by rw [← hh, Bd.state]; rfl
  have N0 := Fr.nil n0
  show own_Fin p e s below (own_Q_foldC Z c h0 n0) own_R_foldC.cells own_R_foldC.slots s₁ (entryFrame m #[(.int c)] 1)
  rw [own_ef_foldC m c]
  refine own_via (fun _ kq => XS.iloadN X0.here hx rfl (hb hby own_d642) rfl kq) ?_
  refine own_via (fun _ kq => XS.bipush X0.here hx rfl (hb hby own_d643) kq) ?_
  rcases Classical.em (c < (65 : Int32)) with h1 | h1
  · refine own_via (fun _ kq => XS.icmpNo X0.here hx rfl (hb hby own_d644) rfl (tlt h1).2.1 kq) ?_
    show own_Fin _ _ _ _ _ _ _ s₁ (mkF m 6 #[.val (.int c)] [])
    refine own_via (fun _ kq => XS.iloadN X0.here hx rfl (hb hby own_d645) rfl kq) ?_
    show own_Fin _ _ _ _ _ _ _ s₁ (mkF m 7 #[.val (.int c)] [(.int c)])
    exact own_retN X0 hx (t := .char) Bd.returns Bd.notSynchronized (by simp) (hb hby own_d646) e0 (own_fl_a hc h1) ⟨rfl, N0, rfl⟩ (by decide) (by decide)
  · refine own_via (fun _ kq => XS.icmpYes X0.here hx rfl (pc0 := 3) (pc' := 8) rfl (hb hby own_d644) rfl (flt h1).2.1 (by decide) (by decide) kq) ?_
    show own_Fin _ _ _ _ _ _ _ s₁ (mkF m 8 #[.val (.int c)] [])
    refine own_via (fun _ kq => XS.iloadN X0.here hx rfl (hb hby own_d647) rfl kq) ?_
    refine own_via (fun _ kq => XS.bipush X0.here hx rfl (hb hby own_d648) kq) ?_
    rcases Classical.em ((90 : Int32) < c) with h2 | h2
    · refine own_via (fun _ kq => XS.icmpNo X0.here hx rfl (hb hby own_d649) rfl (tlt h2).2.2.2 kq) ?_
      show own_Fin _ _ _ _ _ _ _ s₁ (mkF m 14 #[.val (.int c)] [])
      refine own_via (fun _ kq => XS.iloadN X0.here hx rfl (hb hby own_d650) rfl kq) ?_
      show own_Fin _ _ _ _ _ _ _ s₁ (mkF m 15 #[.val (.int c)] [(.int c)])
      exact own_retN X0 hx (t := .char) Bd.returns Bd.notSynchronized (by simp) (hb hby own_d651) e0 (own_fl_b hc h2) ⟨rfl, N0, rfl⟩ (by decide) (by decide)
    · refine own_via (fun _ kq => XS.icmpYes X0.here hx rfl (pc0 := 11) (pc' := 16) rfl (hb hby own_d649) rfl (flt h2).2.2.2 (by decide) (by decide) kq) ?_
      show own_Fin _ _ _ _ _ _ _ s₁ (mkF m 16 #[.val (.int c)] [])
      refine own_via (fun _ kq => XS.iloadN X0.here hx rfl (hb hby own_d652) rfl kq) ?_
      refine own_via (fun _ kq => XS.bipush X0.here hx rfl (hb hby own_d653) kq) ?_
      refine own_via (fun _ kq => XS.iadd X0.here hx rfl (hb hby own_d654) rfl kq) ?_
      refine own_via (fun _ kq => XS.i2c X0.here hx rfl (hb hby own_d655) rfl kq) ?_
      show own_Fin _ _ _ _ _ _ _ s₁ (mkF m 21 #[.val (.int c)] [(.int ((c + (32 : Int32)).toUInt32.toUInt16.toUInt32.toInt32))])
      exact own_retN X0 hx (t := .char) Bd.returns Bd.notSynchronized (by simp) (hb hby own_d656) e0 (own_fl_c hc h1 h2) ⟨rfl, N0, rfl⟩ (by decide) (by decide)
theorem own_d657 : decode method_5_code 0 = .ok (.iload_n 0, 1) := by decide +kernel
theorem own_d658 : decode method_5_code 1 = .ok (.ifCond .ne 14, 3) := by decide +kernel
theorem own_d659 : decode method_5_code 15 = .ok (.iload_n 0, 1) := by decide +kernel
theorem own_d660 : decode method_5_code 16 = .ok (.iconst 1, 1) := by decide +kernel
theorem own_d661 : decode method_5_code 17 = .ok (.if_icmp .ne 18, 3) := by decide +kernel
theorem own_d662 : decode method_5_code 20 = .ok (.new 25, 3) := by decide +kernel
theorem own_d663 : decode method_5_code 23 = .ok (.dup, 1) := by decide +kernel
theorem own_d664 : decode method_5_code 24 = .ok (.iconst 1, 1) := by decide +kernel
theorem own_d665 : decode method_5_code 25 = .ok (.newarray .char, 2) := by decide +kernel
theorem own_d666 : decode method_5_code 27 = .ok (.dup, 1) := by decide +kernel
theorem own_d667 : decode method_5_code 28 = .ok (.iconst 0, 1) := by decide +kernel
theorem own_d668 : decode method_5_code 29 = .ok (.iload_n 1, 1) := by decide +kernel
theorem own_d669 : decode method_5_code 30 = .ok (.castore, 1) := by decide +kernel
theorem own_d670 : decode method_5_code 31 = .ok (.invokespecial 37, 3) := by decide +kernel
theorem own_pd33 : parseMethodDescriptor "([C)V" = some ⟨[(.array .char)], none⟩ := by decide +kernel
theorem own_d671 : decode method_5_code 34 = .ok (.areturn, 1) := by decide +kernel
theorem own_ef_make1 (m : MethodId) (c1 : Int32) (c2 : Int32) (c3 : Int32) (c4 : Int32) : entryFrame m #[(.int (1 : Int32)), (.int c1), (.int c2), (.int c3), (.int c4)] 5 = mkF m 0 #[.val (.int (1 : Int32)), .val (.int c1), .val (.int c2), .val (.int c3), .val (.int c4)] [] := by (first | (simp [entryFrame, mkF, argsToLocals, Value.category]; done) | rfl)
def own_Q_make1 (Z : State) (c1 : Int32) (c2 : Int32) (c3 : Int32) (c4 : Int32) (cz : Int32) (h0 : Heap) (n0 : Nat) (vq : Option Value) (h : Heap) (Lq : List Loc) : Prop := ∃ (x : Addr) (u : Addr) (ku : ClassId) (cd2 : Int32) (M2 : Int32) (ws : List Value), (vq = some (.ref x)) ∧ (Fr n0 Lq) ∧ (Keep h0 h []) ∧ (h0.size ≤ x) ∧ (Exa Z h x "java/lang/String") ∧ (Fld Z h x "java/lang/String" "coder" "B" (.int cd2)) ∧ (Fld Z h x "java/lang/String" "value" "[B" (.ref u)) ∧ (Arv Z h u ku .byte M2 ws (.int 0)) ∧ (own_cod [c1] cd2 M2 ws)
abbrev own_R_make1 : Room := { frames := 6, cells := 4, slots := 17, locals := 88 }
set_option maxRecDepth 65536 in
set_option maxHeartbeats 40000000 in
theorem own_rm_make1 (l : Launch) (Z : State) (a0 : Array Value) (hw : ∀ d ∈ tables_1, d.before a0 Z = true) (wsq : List Jvm.Cond) (c1 : Int32) (c2 : Int32) (c3 : Int32) (c4 : Int32) (cz : Int32) (h0 : Heap) (n0 : Nat) (Z0 : n0 ≤ h0.size) (O0 : Old Z n0 h0) (S1 : Sta Z Z.heap "java/lang/String" "COMPACT_STRINGS" "Z" (.int cz)) (P5 : ¬ cz = (0 : Int32)) (S3 : Sta Z Z.heap "java/lang/StringUTF16" "$assertionsDisabled" "Z" (.int (1 : Int32))) (S4 : Sta Z Z.heap "java/lang/StringUTF16" "HI_BYTE_SHIFT" "I" (.int (0 : Int32))) (S5 : Sta Z Z.heap "java/lang/StringUTF16" "LO_BYTE_SHIFT" "I" (.int (8 : Int32))) (hc1 : own_chr c1) (hc2 : own_chr c2) (hc3 : own_chr c3) (hc4 : own_chr c4) :
    MetFree l (⟨"com/example/even_rows/evenrows/mapping/SqlNameFoldedPinLaw", "make", "(ICCCC)Ljava/lang/String;"⟩ : MethodName) (head1 (Jvm.Cond.code (⟨"com/example/even_rows/evenrows/mapping/SqlNameFoldedPinLaw", "make", "(ICCCC)Ljava/lang/String;"⟩ : MethodName) method_5_code 5 (some (.object "java/lang/String")) :: wsq) own_R_make1) (fun aq Uq => aq = #[(.int (1 : Int32)), (.int c1), (.int c2), (.int c3), (.int c4)] ∧ Z.Warmed39 Uq.vm ∧ Uq.heap = h0) (fun _ _ _ _ _ => True) (fun _ Uq oq Uq' => ∃ vq Lq, oq = .returned vq ∧ own_Q_make1 Z c1 c2 c3 c4 cz h0 n0 vq Uq'.heap Lq ∧ FrameEnd Uq oq Uq' Lq own_R_make1.cells own_R_make1.slots) := by
  refine MetFree.of_bodySF (plainFor_of_name own_pn8) hisR ?_
  intro p e s m args below meth cde s₁ Bd hml0 hP hK
  obtain ⟨rfl, hZ, hh⟩ := hP
  have hx := Bd.exec
  have hby := Bd.bytes
  have hml : cde.maxLocals = 5 := hml0
  have hown : s.vm.findClass "com/example/even_rows/evenrows/mapping/SqlNameFoldedPinLaw" = some m.cls := findClass_of_methodNamed Bd.named
  have hnm := (name_of_methodNamed Bd.named Bd.method).1
  have X0 : Stand p l e own_R_make1 s m #[(.int (1 : Int32)), (.int c1), (.int c2), (.int c3), (.int c4)] below meth cde s₁ [] 0 0 := Stand.of_body Bd
  have e0 : s₁.heap = h0 := by rw [← hh, Bd.state]; rfl
  have N0 := Fr.nil n0
  show own_Fin p e s below (own_Q_make1 Z c1 c2 c3 c4 cz h0 n0) own_R_make1.cells own_R_make1.slots s₁ (entryFrame m #[(.int (1 : Int32)), (.int c1), (.int c2), (.int c3), (.int c4)] 5)
  rw [own_ef_make1 m c1 c2 c3 c4]
  refine own_via (fun _ kq => XS.iloadN X0.here hx rfl (hb hby own_d657) rfl kq) ?_
  refine own_via (fun _ kq => XS.ifYes X0.here hx rfl (pc0 := 1) (pc' := 15) rfl (hb hby own_d658) rfl ((if0 _ _).trans (feq (by decide)).2) (by decide) (by decide) kq) ?_
  show own_Fin _ _ _ _ _ _ _ s₁ (mkF m 15 #[.val (.int (1 : Int32)), .val (.int c1), .val (.int c2), .val (.int c3), .val (.int c4)] [])
  refine own_via (fun _ kq => XS.iloadN X0.here hx rfl (hb hby own_d659) rfl kq) ?_
  refine own_via (fun _ kq => XS.iconst X0.here hx rfl (hb hby own_d660) kq) ?_
  refine own_via (fun _ kq => XS.icmpNo X0.here hx rfl (hb hby own_d661) rfl (teq rfl).2 kq) ?_
  show own_Fin _ _ _ _ _ _ _ s₁ (mkF m 20 #[.val (.int (1 : Int32)), .val (.int c1), .val (.int c2), .val (.int c3), .val (.int c4)] [])
  obtain ⟨T1_, h1_, X1_, e1_, E1_, A1_, D1_, -, st1_⟩ := newO X0 hx hZ hown (own_w hw 8 rfl) (own_w hw 9 rfl) (own_w hw 10 rfl) e0 (g := (mkF m 20 #[.val (.int (1 : Int32)), .val (.int c1), .val (.int c2), .val (.int c3), .val (.int c4)] [])) rfl (hb hby own_d662) (by decide) (by decide)
  obtain ⟨b1_, g1_⟩ : ∃ z, z = h0.size := ⟨_, rfl⟩
  rw [← g1_] at A1_ D1_ st1_
  have F2_ : Fld Z h1_ b1_ "java/lang/String" "value" "[B" .null := D1_ (Or.inr (own_w hw 24 rfl)) (ty := (.array .byte)) (by decide)
  have F3_ : Fld Z h1_ b1_ "java/lang/String" "coder" "B" (.int (0 : Int32)) := D1_ (Or.inr (own_w hw 25 rfl)) (ty := .byte) (by decide)
  refine own_via (fun _ kq => st1_ _ kq) ?_
  show own_Fin _ _ _ _ _ _ _ T1_ (mkF m 23 #[.val (.int (1 : Int32)), .val (.int c1), .val (.int c2), .val (.int c3), .val (.int c4)] [(.ref b1_)])
  refine own_via (fun _ kq => XS.dup X1_.here hx rfl (hb hby own_d663) rfl rfl kq) ?_
  refine own_via (fun _ kq => XS.iconst X1_.here hx rfl (hb hby own_d664) kq) ?_
  show own_Fin _ _ _ _ _ _ _ T1_ (mkF m 25 #[.val (.int (1 : Int32)), .val (.int c1), .val (.int c2), .val (.int c3), .val (.int c4)] [(.int (1 : Int32)), (.ref b1_), (.ref b1_)])
  obtain ⟨T4_, h4_, k4_, X4_, e4_, E4_, A4_, st4_⟩ := newP X1_ hx hZ (own_w hw 11 rfl) e1_ (g := (mkF m 25 #[.val (.int (1 : Int32)), .val (.int c1), .val (.int c2), .val (.int c3), .val (.int c4)] [(.int (1 : Int32)), (.ref b1_), (.ref b1_)])) rfl (hb hby own_d665) rfl (by decide) (cap := 1) (by decide) (by decide) (by decide) (by decide)
  obtain ⟨b4_, g4_⟩ : ∃ z, z = h1_.size := ⟨_, rfl⟩
  rw [← g4_] at A4_ st4_
  have V4_ : Arv Z h4_ b4_ k4_ .char (1 : Int32) [(.int (0 : Int32))] (.int (0 : Int32)) := (Arv.new A4_ (by decide)).pad (pad_rep [] (.int (0 : Int32)) 1)
  refine own_via (fun _ kq => st4_ _ kq) ?_
  show own_Fin _ _ _ _ _ _ _ T4_ (mkF m 27 #[.val (.int (1 : Int32)), .val (.int c1), .val (.int c2), .val (.int c3), .val (.int c4)] [(.ref b4_), (.ref b1_), (.ref b1_)])
  refine own_via (fun _ kq => XS.dup X4_.here hx rfl (hb hby own_d666) rfl rfl kq) ?_
  refine own_via (fun _ kq => XS.iconst X4_.here hx rfl (hb hby own_d667) kq) ?_
  refine own_via (fun _ kq => XS.iloadN X4_.here hx rfl (hb hby own_d668) rfl kq) ?_
  show own_Fin _ _ _ _ _ _ _ T4_ (mkF m 30 #[.val (.int (1 : Int32)), .val (.int c1), .val (.int c2), .val (.int c3), .val (.int c4)] [(.int c1), (.int (0 : Int32)), (.ref b4_), (.ref b4_), (.ref b1_), (.ref b1_)])
  obtain ⟨c5_, Ar5_, q5_, S5_, M5_, H5_, G5_⟩ := (id V4_)
  have hin5_ : ¬ ((0 : Int32) < 0 ∨ c5_.slots.size ≤ ((0 : Int32)).toNatClampNeg) := inb_of S5_ ⟨by decide, by decide⟩
  obtain ⟨T5_, h5_, X5_, e5_, W5_, st5_⟩ := stC X4_ hx hZ e4_ Ar5_ (j := (0 : Int32)) hin5_ (g := (mkF m 30 #[.val (.int (1 : Int32)), .val (.int c1), .val (.int c2), .val (.int c3), .val (.int c4)] [(.int c1), (.int (0 : Int32)), (.ref b4_), (.ref b4_), (.ref b1_), (.ref b1_)])) rfl rfl (hb hby own_d669)
  have V5_ := Arv.set Ar5_ q5_ S5_ M5_ H5_ G5_ (fits_nar_char _) W5_ 0 rfl (Nat.le_of_ble_eq_true rfl)
  have U5_ : Arv Z h5_ b4_ k4_ .char (1 : Int32) [(.int c1)] (.int (0 : Int32)) := by
    have hq := V5_
    rw [show nar .char c1 = c1 from (own_narch hc1)] at hq
    exact hq
  have g6_ : n0 ≤ b4_ := Nat.le_trans (Nat.le_trans Z0 E1_.1) (Nat.le_of_eq g4_.symm)
  have N5_ := Fr.snoc X5_ N0 g6_
  refine own_via (fun _ kq => st5_ _ kq) ?_
  show own_Fin _ _ _ _ _ _ _ T5_ (mkF m 31 #[.val (.int (1 : Int32)), .val (.int c1), .val (.int c2), .val (.int c3), .val (.int c4)] [(.ref b4_), (.ref b1_), (.ref b1_)])
  have q8_ : b1_ ≠ b4_ := Nat.ne_of_lt (Nat.lt_of_lt_of_le A1_.lt (Nat.le_of_eq g4_.symm))
  have g9_ : n0 ≤ b1_ := Nat.le_trans Z0 (Nat.le_of_eq g1_.symm)
  obtain ⟨_, _, ⟨T7_, L7_, k7_, n7_⟩, -, X7_, ⟨Lc7_, hQ7_, l7_, y7_, z7_⟩, st7_⟩ := X5_.specialBack hx (y := (⟨"java/lang/String", "<init>", "([C)V"⟩ : MethodName)) rfl hown (mvT hZ (own_w hw 12 rfl)) (mvT hZ (own_w hw 13 rfl)) (mvT hZ (own_w hw 14 rfl)) (by decide) (backOf (W := 1) (own_rm_sInitC l Z a0 hw [] b1_ cz .null (.int (0 : Int32)) b4_ k4_ (1 : Int32) [c1] h5_ n0 (Nat.le_trans Z0 (Nat.le_trans (Nat.le_trans E1_.1 E4_.1) (Keep.of_wr W5_).1)) (((O0.ext E1_).ext E4_).wr W5_ g6_) S1 (by first | assumption | decide) S3 S4 S5 ((A1_.ext E4_).wr W5_) ((F2_.ext E4_).other W5_ (Or.inl q8_)) ((F3_.ext E4_).other W5_ (Or.inl q8_)) g9_ U5_ rfl (by simp) (by simp) (own_ch1 hc1)) hZ (own_w hw 14 rfl) (own_w hw 10 rfl) (by decide) (by decide)) (g := (mkF m 31 #[.val (.int (1 : Int32)), .val (.int c1), .val (.int c2), .val (.int c3), .val (.int c4)] [(.ref b4_), (.ref b1_), (.ref b1_)])) rfl (by rw [hml]; rfl) (Steps.refl _) (a := b1_) (argsL := [(.ref b4_)]) (rest := [(.ref b1_)]) (lenOf own_pd33 rfl) rfl (by show 2 * 0 + _ ≤ _; exact Nat.le_of_eq rfl) (hb hby own_d670) (fun _ _ => ⟨rfl, e5_, (by decide : 0 + 1 + 1 + 2 ≤ _), (by decide : 0 + 4 + 1 + 12 ≤ _)⟩)
  dsimp only [Pt.U, Pt.locs, Pt.cells, Pt.slots] at X7_ l7_ y7_ z7_ st7_ hQ7_
  subst l7_ y7_ z7_
  obtain ⟨u, ku, cd2, M2, ws, rfl, Nq7_, K7_, r10_, r11_, r12_, r13_, r14_, hcod⟩ := hQ7_
  have N7_ := Fr.app N5_ Nq7_
  refine own_via (fun _ kq => st7_.trans kq) ?_
  show own_Fin _ _ _ _ _ _ _ T7_ (mkF m 34 #[.val (.int (1 : Int32)), .val (.int c1), .val (.int c2), .val (.int c3), .val (.int c4)] [(.ref b1_)])
  exact own_retA X7_ hx Bd.returns Bd.notSynchronized rfl rfl (hb hby own_d671) rfl ⟨b1_, u, ku, cd2, M2, ws, rfl, N7_, (((((Keep.refl h0 []).ext E1_).ext E4_).wr W5_ (Or.inr (Nat.le_trans E1_.1 (Nat.le_of_eq g4_.symm)))).trans K7_ (allS (Or.inr (Nat.le_of_eq g1_.symm)) all0)), (Nat.le_of_eq g1_.symm), r10_, r11_, r12_, r14_, hcod⟩ (by decide) (by decide)
theorem own_d672 : decode method_5_code 35 = .ok (.iload_n 0, 1) := by decide +kernel
theorem own_d673 : decode method_5_code 36 = .ok (.iconst 2, 1) := by decide +kernel
theorem own_d674 : decode method_5_code 37 = .ok (.if_icmp .ne 22, 3) := by decide +kernel
theorem own_d675 : decode method_5_code 40 = .ok (.new 25, 3) := by decide +kernel
theorem own_d676 : decode method_5_code 43 = .ok (.dup, 1) := by decide +kernel
theorem own_d677 : decode method_5_code 44 = .ok (.iconst 2, 1) := by decide +kernel
theorem own_d678 : decode method_5_code 45 = .ok (.newarray .char, 2) := by decide +kernel
theorem own_d679 : decode method_5_code 47 = .ok (.dup, 1) := by decide +kernel
theorem own_d680 : decode method_5_code 48 = .ok (.iconst 0, 1) := by decide +kernel
theorem own_d681 : decode method_5_code 49 = .ok (.iload_n 1, 1) := by decide +kernel
theorem own_d682 : decode method_5_code 50 = .ok (.castore, 1) := by decide +kernel
theorem own_d683 : decode method_5_code 51 = .ok (.dup, 1) := by decide +kernel
theorem own_d684 : decode method_5_code 52 = .ok (.iconst 1, 1) := by decide +kernel
theorem own_d685 : decode method_5_code 53 = .ok (.iload_n 2, 1) := by decide +kernel
theorem own_d686 : decode method_5_code 54 = .ok (.castore, 1) := by decide +kernel
theorem own_d687 : decode method_5_code 55 = .ok (.invokespecial 37, 3) := by decide +kernel
theorem own_d688 : decode method_5_code 58 = .ok (.areturn, 1) := by decide +kernel
theorem own_ef_make2 (m : MethodId) (c1 : Int32) (c2 : Int32) (c3 : Int32) (c4 : Int32) : entryFrame m #[(.int (2 : Int32)), (.int c1), (.int c2), (.int c3), (.int c4)] 5 = mkF m 0 #[.val (.int (2 : Int32)), .val (.int c1), .val (.int c2), .val (.int c3), .val (.int c4)] [] := by (first | (simp [entryFrame, mkF, argsToLocals, Value.category]; done) | rfl)
def own_Q_make2 (Z : State) (c1 : Int32) (c2 : Int32) (c3 : Int32) (c4 : Int32) (cz : Int32) (h0 : Heap) (n0 : Nat) (vq : Option Value) (h : Heap) (Lq : List Loc) : Prop := ∃ (x : Addr) (u : Addr) (ku : ClassId) (cd2 : Int32) (M2 : Int32) (ws : List Value), (vq = some (.ref x)) ∧ (Fr n0 Lq) ∧ (Keep h0 h []) ∧ (h0.size ≤ x) ∧ (Exa Z h x "java/lang/String") ∧ (Fld Z h x "java/lang/String" "coder" "B" (.int cd2)) ∧ (Fld Z h x "java/lang/String" "value" "[B" (.ref u)) ∧ (Arv Z h u ku .byte M2 ws (.int 0)) ∧ (own_cod [c1, c2] cd2 M2 ws)
abbrev own_R_make2 : Room := { frames := 6, cells := 4, slots := 18, locals := 88 }
set_option maxRecDepth 65536 in
set_option maxHeartbeats 40000000 in
theorem own_rm_make2 (l : Launch) (Z : State) (a0 : Array Value) (hw : ∀ d ∈ tables_1, d.before a0 Z = true) (wsq : List Jvm.Cond) (c1 : Int32) (c2 : Int32) (c3 : Int32) (c4 : Int32) (cz : Int32) (h0 : Heap) (n0 : Nat) (Z0 : n0 ≤ h0.size) (O0 : Old Z n0 h0) (S1 : Sta Z Z.heap "java/lang/String" "COMPACT_STRINGS" "Z" (.int cz)) (P5 : ¬ cz = (0 : Int32)) (S3 : Sta Z Z.heap "java/lang/StringUTF16" "$assertionsDisabled" "Z" (.int (1 : Int32))) (S4 : Sta Z Z.heap "java/lang/StringUTF16" "HI_BYTE_SHIFT" "I" (.int (0 : Int32))) (S5 : Sta Z Z.heap "java/lang/StringUTF16" "LO_BYTE_SHIFT" "I" (.int (8 : Int32))) (hc1 : own_chr c1) (hc2 : own_chr c2) (hc3 : own_chr c3) (hc4 : own_chr c4) :
    MetFree l (⟨"com/example/even_rows/evenrows/mapping/SqlNameFoldedPinLaw", "make", "(ICCCC)Ljava/lang/String;"⟩ : MethodName) (head1 (Jvm.Cond.code (⟨"com/example/even_rows/evenrows/mapping/SqlNameFoldedPinLaw", "make", "(ICCCC)Ljava/lang/String;"⟩ : MethodName) method_5_code 5 (some (.object "java/lang/String")) :: wsq) own_R_make2) (fun aq Uq => aq = #[(.int (2 : Int32)), (.int c1), (.int c2), (.int c3), (.int c4)] ∧ Z.Warmed39 Uq.vm ∧ Uq.heap = h0) (fun _ _ _ _ _ => True) (fun _ Uq oq Uq' => ∃ vq Lq, oq = .returned vq ∧ own_Q_make2 Z c1 c2 c3 c4 cz h0 n0 vq Uq'.heap Lq ∧ FrameEnd Uq oq Uq' Lq own_R_make2.cells own_R_make2.slots) := by
  refine MetFree.of_bodySF (plainFor_of_name own_pn8) hisR ?_
  intro p e s m args below meth cde s₁ Bd hml0 hP hK
  obtain ⟨rfl, hZ, hh⟩ := hP
  have hx := Bd.exec
  have hby := Bd.bytes
  have hml : cde.maxLocals = 5 := hml0
  have hown : s.vm.findClass "com/example/even_rows/evenrows/mapping/SqlNameFoldedPinLaw" = some m.cls := findClass_of_methodNamed Bd.named
  have hnm := (name_of_methodNamed Bd.named Bd.method).1
  have X0 : Stand p l e own_R_make2 s m #[(.int (2 : Int32)), (.int c1), (.int c2), (.int c3), (.int c4)] below meth cde s₁ [] 0 0 := Stand.of_body Bd
  have e0 : s₁.heap = h0 := by rw [← hh, Bd.state]; rfl
  have N0 := Fr.nil n0
  show own_Fin p e s below (own_Q_make2 Z c1 c2 c3 c4 cz h0 n0) own_R_make2.cells own_R_make2.slots s₁ (entryFrame m #[(.int (2 : Int32)), (.int c1), (.int c2), (.int c3), (.int c4)] 5)
  rw [own_ef_make2 m c1 c2 c3 c4]
  refine own_via (fun _ kq => XS.iloadN X0.here hx rfl (hb hby own_d657) rfl kq) ?_
  refine own_via (fun _ kq => XS.ifYes X0.here hx rfl (pc0 := 1) (pc' := 15) rfl (hb hby own_d658) rfl ((if0 _ _).trans (feq (by decide)).2) (by decide) (by decide) kq) ?_
  show own_Fin _ _ _ _ _ _ _ s₁ (mkF m 15 #[.val (.int (2 : Int32)), .val (.int c1), .val (.int c2), .val (.int c3), .val (.int c4)] [])
  refine own_via (fun _ kq => XS.iloadN X0.here hx rfl (hb hby own_d659) rfl kq) ?_
  refine own_via (fun _ kq => XS.iconst X0.here hx rfl (hb hby own_d660) kq) ?_
  refine own_via (fun _ kq => XS.icmpYes X0.here hx rfl (pc0 := 17) (pc' := 35) rfl (hb hby own_d661) rfl (feq (by decide)).2 (by decide) (by decide) kq) ?_
  show own_Fin _ _ _ _ _ _ _ s₁ (mkF m 35 #[.val (.int (2 : Int32)), .val (.int c1), .val (.int c2), .val (.int c3), .val (.int c4)] [])
  refine own_via (fun _ kq => XS.iloadN X0.here hx rfl (hb hby own_d672) rfl kq) ?_
  refine own_via (fun _ kq => XS.iconst X0.here hx rfl (hb hby own_d673) kq) ?_
  refine own_via (fun _ kq => XS.icmpNo X0.here hx rfl (hb hby own_d674) rfl (teq rfl).2 kq) ?_
  show own_Fin _ _ _ _ _ _ _ s₁ (mkF m 40 #[.val (.int (2 : Int32)), .val (.int c1), .val (.int c2), .val (.int c3), .val (.int c4)] [])
  obtain ⟨T1_, h1_, X1_, e1_, E1_, A1_, D1_, -, st1_⟩ := newO X0 hx hZ hown (own_w hw 8 rfl) (own_w hw 9 rfl) (own_w hw 10 rfl) e0 (g := (mkF m 40 #[.val (.int (2 : Int32)), .val (.int c1), .val (.int c2), .val (.int c3), .val (.int c4)] [])) rfl (hb hby own_d675) (by decide) (by decide)
  obtain ⟨b1_, g1_⟩ : ∃ z, z = h0.size := ⟨_, rfl⟩
  rw [← g1_] at A1_ D1_ st1_
  have F2_ : Fld Z h1_ b1_ "java/lang/String" "value" "[B" .null := D1_ (Or.inr (own_w hw 24 rfl)) (ty := (.array .byte)) (by decide)
  have F3_ : Fld Z h1_ b1_ "java/lang/String" "coder" "B" (.int (0 : Int32)) := D1_ (Or.inr (own_w hw 25 rfl)) (ty := .byte) (by decide)
  refine own_via (fun _ kq => st1_ _ kq) ?_
  show own_Fin _ _ _ _ _ _ _ T1_ (mkF m 43 #[.val (.int (2 : Int32)), .val (.int c1), .val (.int c2), .val (.int c3), .val (.int c4)] [(.ref b1_)])
  refine own_via (fun _ kq => XS.dup X1_.here hx rfl (hb hby own_d676) rfl rfl kq) ?_
  refine own_via (fun _ kq => XS.iconst X1_.here hx rfl (hb hby own_d677) kq) ?_
  show own_Fin _ _ _ _ _ _ _ T1_ (mkF m 45 #[.val (.int (2 : Int32)), .val (.int c1), .val (.int c2), .val (.int c3), .val (.int c4)] [(.int (2 : Int32)), (.ref b1_), (.ref b1_)])
  obtain ⟨T4_, h4_, k4_, X4_, e4_, E4_, A4_, st4_⟩ := newP X1_ hx hZ (own_w hw 11 rfl) e1_ (g := (mkF m 45 #[.val (.int (2 : Int32)), .val (.int c1), .val (.int c2), .val (.int c3), .val (.int c4)] [(.int (2 : Int32)), (.ref b1_), (.ref b1_)])) rfl (hb hby own_d678) rfl (by decide) (cap := 2) (by decide) (by decide) (by decide) (by decide)
  obtain ⟨b4_, g4_⟩ : ∃ z, z = h1_.size := ⟨_, rfl⟩
  rw [← g4_] at A4_ st4_
  have V4_ : Arv Z h4_ b4_ k4_ .char (2 : Int32) [(.int (0 : Int32)), (.int (0 : Int32))] (.int (0 : Int32)) := (Arv.new A4_ (by decide)).pad (pad_rep [] (.int (0 : Int32)) 2)
  refine own_via (fun _ kq => st4_ _ kq) ?_
  show own_Fin _ _ _ _ _ _ _ T4_ (mkF m 47 #[.val (.int (2 : Int32)), .val (.int c1), .val (.int c2), .val (.int c3), .val (.int c4)] [(.ref b4_), (.ref b1_), (.ref b1_)])
  refine own_via (fun _ kq => XS.dup X4_.here hx rfl (hb hby own_d679) rfl rfl kq) ?_
  refine own_via (fun _ kq => XS.iconst X4_.here hx rfl (hb hby own_d680) kq) ?_
  refine own_via (fun _ kq => XS.iloadN X4_.here hx rfl (hb hby own_d681) rfl kq) ?_
  show own_Fin _ _ _ _ _ _ _ T4_ (mkF m 50 #[.val (.int (2 : Int32)), .val (.int c1), .val (.int c2), .val (.int c3), .val (.int c4)] [(.int c1), (.int (0 : Int32)), (.ref b4_), (.ref b4_), (.ref b1_), (.ref b1_)])
  obtain ⟨c5_, Ar5_, q5_, S5_, M5_, H5_, G5_⟩ := (id V4_)
  have hin5_ : ¬ ((0 : Int32) < 0 ∨ c5_.slots.size ≤ ((0 : Int32)).toNatClampNeg) := inb_of S5_ ⟨by decide, by decide⟩
  obtain ⟨T5_, h5_, X5_, e5_, W5_, st5_⟩ := stC X4_ hx hZ e4_ Ar5_ (j := (0 : Int32)) hin5_ (g := (mkF m 50 #[.val (.int (2 : Int32)), .val (.int c1), .val (.int c2), .val (.int c3), .val (.int c4)] [(.int c1), (.int (0 : Int32)), (.ref b4_), (.ref b4_), (.ref b1_), (.ref b1_)])) rfl rfl (hb hby own_d682)
  have V5_ := Arv.set Ar5_ q5_ S5_ M5_ H5_ G5_ (fits_nar_char _) W5_ 0 rfl (Nat.le_of_ble_eq_true rfl)
  have U5_ : Arv Z h5_ b4_ k4_ .char (2 : Int32) [(.int c1), (.int (0 : Int32))] (.int (0 : Int32)) := by
    have hq := V5_
    rw [show nar .char c1 = c1 from (own_narch hc1)] at hq
    exact hq
  have g6_ : n0 ≤ b4_ := Nat.le_trans (Nat.le_trans Z0 E1_.1) (Nat.le_of_eq g4_.symm)
  have N5_ := Fr.snoc X5_ N0 g6_
  refine own_via (fun _ kq => st5_ _ kq) ?_
  show own_Fin _ _ _ _ _ _ _ T5_ (mkF m 51 #[.val (.int (2 : Int32)), .val (.int c1), .val (.int c2), .val (.int c3), .val (.int c4)] [(.ref b4_), (.ref b1_), (.ref b1_)])
  refine own_via (fun _ kq => XS.dup X5_.here hx rfl (hb hby own_d683) rfl rfl kq) ?_
  refine own_via (fun _ kq => XS.iconst X5_.here hx rfl (hb hby own_d684) kq) ?_
  refine own_via (fun _ kq => XS.iloadN X5_.here hx rfl (hb hby own_d685) rfl kq) ?_
  show own_Fin _ _ _ _ _ _ _ T5_ (mkF m 54 #[.val (.int (2 : Int32)), .val (.int c1), .val (.int c2), .val (.int c3), .val (.int c4)] [(.int c2), (.int (1 : Int32)), (.ref b4_), (.ref b4_), (.ref b1_), (.ref b1_)])
  obtain ⟨c7_, Ar7_, q7_, S7_, M7_, H7_, G7_⟩ := (id U5_)
  have hin7_ : ¬ ((1 : Int32) < 0 ∨ c7_.slots.size ≤ ((1 : Int32)).toNatClampNeg) := inb_of S7_ ⟨by decide, by decide⟩
  obtain ⟨T7_, h7_, X7_, e7_, W7_, st7_⟩ := stC X5_ hx hZ e5_ Ar7_ (j := (1 : Int32)) hin7_ (g := (mkF m 54 #[.val (.int (2 : Int32)), .val (.int c1), .val (.int c2), .val (.int c3), .val (.int c4)] [(.int c2), (.int (1 : Int32)), (.ref b4_), (.ref b4_), (.ref b1_), (.ref b1_)])) rfl rfl (hb hby own_d686)
  have V7_ := Arv.set Ar7_ q7_ S7_ M7_ H7_ G7_ (fits_nar_char _) W7_ 1 rfl (Nat.le_of_ble_eq_true rfl)
  have U7_ : Arv Z h7_ b4_ k4_ .char (2 : Int32) [(.int c1), (.int c2)] (.int (0 : Int32)) := by
    have hq := V7_
    rw [show nar .char c2 = c2 from (own_narch hc2)] at hq
    exact hq
  have N7_ := Fr.snoc X7_ N5_ g6_
  refine own_via (fun _ kq => st7_ _ kq) ?_
  show own_Fin _ _ _ _ _ _ _ T7_ (mkF m 55 #[.val (.int (2 : Int32)), .val (.int c1), .val (.int c2), .val (.int c3), .val (.int c4)] [(.ref b4_), (.ref b1_), (.ref b1_)])
  have q9_ : b1_ ≠ b4_ := Nat.ne_of_lt (Nat.lt_of_lt_of_le A1_.lt (Nat.le_of_eq g4_.symm))
  have f10_ := (((F2_.ext E4_).other W5_ (Or.inl q9_)).other W7_ (Or.inl q9_))
  have f11_ := (((F3_.ext E4_).other W5_ (Or.inl q9_)).other W7_ (Or.inl q9_))
  have g12_ : n0 ≤ b1_ := Nat.le_trans Z0 (Nat.le_of_eq g1_.symm)
  obtain ⟨_, _, ⟨T8_, L8_, k8_, n8_⟩, -, X8_, ⟨Lc8_, hQ8_, l8_, y8_, z8_⟩, st8_⟩ := X7_.specialBack hx (y := (⟨"java/lang/String", "<init>", "([C)V"⟩ : MethodName)) rfl hown (mvT hZ (own_w hw 12 rfl)) (mvT hZ (own_w hw 13 rfl)) (mvT hZ (own_w hw 14 rfl)) (by decide) (backOf (W := 1) (own_rm_sInitC l Z a0 hw [] b1_ cz .null (.int (0 : Int32)) b4_ k4_ (2 : Int32) [c1, c2] h7_ n0 (Nat.le_trans Z0 (Nat.le_trans (Nat.le_trans (Nat.le_trans E1_.1 E4_.1) (Keep.of_wr W5_).1) (Keep.of_wr W7_).1)) ((((O0.ext E1_).ext E4_).wr W5_ g6_).wr W7_ g6_) S1 (by first | assumption | decide) S3 S4 S5 (((A1_.ext E4_).wr W5_).wr W7_) f10_ f11_ g12_ U7_ rfl (by simp) (by simp) (own_ch2 hc1 hc2)) hZ (own_w hw 14 rfl) (own_w hw 10 rfl) (by decide) (by decide)) (g := (mkF m 55 #[.val (.int (2 : Int32)), .val (.int c1), .val (.int c2), .val (.int c3), .val (.int c4)] [(.ref b4_), (.ref b1_), (.ref b1_)])) rfl (by rw [hml]; rfl) (Steps.refl _) (a := b1_) (argsL := [(.ref b4_)]) (rest := [(.ref b1_)]) (lenOf own_pd33 rfl) rfl (by show 2 * 0 + _ ≤ _; exact Nat.le_of_eq rfl) (hb hby own_d687) (fun _ _ => ⟨rfl, e7_, (by decide : 0 + 1 + 1 + 2 ≤ _), (by decide : 0 + 4 + 2 + 12 ≤ _)⟩)
  dsimp only [Pt.U, Pt.locs, Pt.cells, Pt.slots] at X8_ l8_ y8_ z8_ st8_ hQ8_
  subst l8_ y8_ z8_
  obtain ⟨u, ku, cd2, M2, ws, rfl, Nq8_, K8_, r13_, r14_, r15_, r16_, r17_, hcod⟩ := hQ8_
  have N8_ := Fr.app N7_ Nq8_
  refine own_via (fun _ kq => st8_.trans kq) ?_
  show own_Fin _ _ _ _ _ _ _ T8_ (mkF m 58 #[.val (.int (2 : Int32)), .val (.int c1), .val (.int c2), .val (.int c3), .val (.int c4)] [(.ref b1_)])
  exact own_retA X8_ hx Bd.returns Bd.notSynchronized rfl rfl (hb hby own_d688) rfl ⟨b1_, u, ku, cd2, M2, ws, rfl, N8_, ((((((Keep.refl h0 []).ext E1_).ext E4_).wr W5_ (Or.inr (Nat.le_trans E1_.1 (Nat.le_of_eq g4_.symm)))).wr W7_ (Or.inr (Nat.le_trans E1_.1 (Nat.le_of_eq g4_.symm)))).trans K8_ (allS (Or.inr (Nat.le_of_eq g1_.symm)) all0)), (Nat.le_of_eq g1_.symm), r13_, r14_, r15_, r17_, hcod⟩ (by decide) (by decide)
theorem own_d689 : decode method_5_code 59 = .ok (.iload_n 0, 1) := by decide +kernel
theorem own_d690 : decode method_5_code 60 = .ok (.iconst 3, 1) := by decide +kernel
theorem own_d691 : decode method_5_code 61 = .ok (.if_icmp .ne 26, 3) := by decide +kernel
theorem own_d692 : decode method_5_code 64 = .ok (.new 25, 3) := by decide +kernel
theorem own_d693 : decode method_5_code 67 = .ok (.dup, 1) := by decide +kernel
theorem own_d694 : decode method_5_code 68 = .ok (.iconst 3, 1) := by decide +kernel
theorem own_d695 : decode method_5_code 69 = .ok (.newarray .char, 2) := by decide +kernel
theorem own_d696 : decode method_5_code 71 = .ok (.dup, 1) := by decide +kernel
theorem own_d697 : decode method_5_code 72 = .ok (.iconst 0, 1) := by decide +kernel
theorem own_d698 : decode method_5_code 73 = .ok (.iload_n 1, 1) := by decide +kernel
theorem own_d699 : decode method_5_code 74 = .ok (.castore, 1) := by decide +kernel
theorem own_d700 : decode method_5_code 75 = .ok (.dup, 1) := by decide +kernel
theorem own_d701 : decode method_5_code 76 = .ok (.iconst 1, 1) := by decide +kernel
theorem own_d702 : decode method_5_code 77 = .ok (.iload_n 2, 1) := by decide +kernel
theorem own_d703 : decode method_5_code 78 = .ok (.castore, 1) := by decide +kernel
theorem own_d704 : decode method_5_code 79 = .ok (.dup, 1) := by decide +kernel
theorem own_d705 : decode method_5_code 80 = .ok (.iconst 2, 1) := by decide +kernel
theorem own_d706 : decode method_5_code 81 = .ok (.iload_n 3, 1) := by decide +kernel
theorem own_d707 : decode method_5_code 82 = .ok (.castore, 1) := by decide +kernel
theorem own_d708 : decode method_5_code 83 = .ok (.invokespecial 37, 3) := by decide +kernel
theorem own_d709 : decode method_5_code 86 = .ok (.areturn, 1) := by decide +kernel
theorem own_ef_make3 (m : MethodId) (c1 : Int32) (c2 : Int32) (c3 : Int32) (c4 : Int32) : entryFrame m #[(.int (3 : Int32)), (.int c1), (.int c2), (.int c3), (.int c4)] 5 = mkF m 0 #[.val (.int (3 : Int32)), .val (.int c1), .val (.int c2), .val (.int c3), .val (.int c4)] [] := by (first | (simp [entryFrame, mkF, argsToLocals, Value.category]; done) | rfl)
def own_Q_make3 (Z : State) (c1 : Int32) (c2 : Int32) (c3 : Int32) (c4 : Int32) (cz : Int32) (h0 : Heap) (n0 : Nat) (vq : Option Value) (h : Heap) (Lq : List Loc) : Prop := ∃ (x : Addr) (u : Addr) (ku : ClassId) (cd2 : Int32) (M2 : Int32) (ws : List Value), (vq = some (.ref x)) ∧ (Fr n0 Lq) ∧ (Keep h0 h []) ∧ (h0.size ≤ x) ∧ (Exa Z h x "java/lang/String") ∧ (Fld Z h x "java/lang/String" "coder" "B" (.int cd2)) ∧ (Fld Z h x "java/lang/String" "value" "[B" (.ref u)) ∧ (Arv Z h u ku .byte M2 ws (.int 0)) ∧ (own_cod [c1, c2, c3] cd2 M2 ws)
abbrev own_R_make3 : Room := { frames := 6, cells := 4, slots := 19, locals := 88 }
set_option maxRecDepth 65536 in
set_option maxHeartbeats 40000000 in
theorem own_rm_make3 (l : Launch) (Z : State) (a0 : Array Value) (hw : ∀ d ∈ tables_1, d.before a0 Z = true) (wsq : List Jvm.Cond) (c1 : Int32) (c2 : Int32) (c3 : Int32) (c4 : Int32) (cz : Int32) (h0 : Heap) (n0 : Nat) (Z0 : n0 ≤ h0.size) (O0 : Old Z n0 h0) (S1 : Sta Z Z.heap "java/lang/String" "COMPACT_STRINGS" "Z" (.int cz)) (P5 : ¬ cz = (0 : Int32)) (S3 : Sta Z Z.heap "java/lang/StringUTF16" "$assertionsDisabled" "Z" (.int (1 : Int32))) (S4 : Sta Z Z.heap "java/lang/StringUTF16" "HI_BYTE_SHIFT" "I" (.int (0 : Int32))) (S5 : Sta Z Z.heap "java/lang/StringUTF16" "LO_BYTE_SHIFT" "I" (.int (8 : Int32))) (hc1 : own_chr c1) (hc2 : own_chr c2) (hc3 : own_chr c3) (hc4 : own_chr c4) :
    MetFree l (⟨"com/example/even_rows/evenrows/mapping/SqlNameFoldedPinLaw", "make", "(ICCCC)Ljava/lang/String;"⟩ : MethodName) (head1 (Jvm.Cond.code (⟨"com/example/even_rows/evenrows/mapping/SqlNameFoldedPinLaw", "make", "(ICCCC)Ljava/lang/String;"⟩ : MethodName) method_5_code 5 (some (.object "java/lang/String")) :: wsq) own_R_make3) (fun aq Uq => aq = #[(.int (3 : Int32)), (.int c1), (.int c2), (.int c3), (.int c4)] ∧ Z.Warmed39 Uq.vm ∧ Uq.heap = h0) (fun _ _ _ _ _ => True) (fun _ Uq oq Uq' => ∃ vq Lq, oq = .returned vq ∧ own_Q_make3 Z c1 c2 c3 c4 cz h0 n0 vq Uq'.heap Lq ∧ FrameEnd Uq oq Uq' Lq own_R_make3.cells own_R_make3.slots) := by
  refine MetFree.of_bodySF (plainFor_of_name own_pn8) hisR ?_
  intro p e s m args below meth cde s₁ Bd hml0 hP hK
  obtain ⟨rfl, hZ, hh⟩ := hP
  have hx := Bd.exec
  have hby := Bd.bytes
  have hml : cde.maxLocals = 5 := hml0
  have hown : s.vm.findClass "com/example/even_rows/evenrows/mapping/SqlNameFoldedPinLaw" = some m.cls := findClass_of_methodNamed Bd.named
  have hnm := (name_of_methodNamed Bd.named Bd.method).1
  have X0 : Stand p l e own_R_make3 s m #[(.int (3 : Int32)), (.int c1), (.int c2), (.int c3), (.int c4)] below meth cde s₁ [] 0 0 := Stand.of_body Bd
  have e0 : s₁.heap = h0 := by rw [← hh, Bd.state]; rfl
  have N0 := Fr.nil n0
  show own_Fin p e s below (own_Q_make3 Z c1 c2 c3 c4 cz h0 n0) own_R_make3.cells own_R_make3.slots s₁ (entryFrame m #[(.int (3 : Int32)), (.int c1), (.int c2), (.int c3), (.int c4)] 5)
  rw [own_ef_make3 m c1 c2 c3 c4]
  refine own_via (fun _ kq => XS.iloadN X0.here hx rfl (hb hby own_d657) rfl kq) ?_
  refine own_via (fun _ kq => XS.ifYes X0.here hx rfl (pc0 := 1) (pc' := 15) rfl (hb hby own_d658) rfl ((if0 _ _).trans (feq (by decide)).2) (by decide) (by decide) kq) ?_
  show own_Fin _ _ _ _ _ _ _ s₁ (mkF m 15 #[.val (.int (3 : Int32)), .val (.int c1), .val (.int c2), .val (.int c3), .val (.int c4)] [])
  refine own_via (fun _ kq => XS.iloadN X0.here hx rfl (hb hby own_d659) rfl kq) ?_
  refine own_via (fun _ kq => XS.iconst X0.here hx rfl (hb hby own_d660) kq) ?_
  refine own_via (fun _ kq => XS.icmpYes X0.here hx rfl (pc0 := 17) (pc' := 35) rfl (hb hby own_d661) rfl (feq (by decide)).2 (by decide) (by decide) kq) ?_
  show own_Fin _ _ _ _ _ _ _ s₁ (mkF m 35 #[.val (.int (3 : Int32)), .val (.int c1), .val (.int c2), .val (.int c3), .val (.int c4)] [])
  refine own_via (fun _ kq => XS.iloadN X0.here hx rfl (hb hby own_d672) rfl kq) ?_
  refine own_via (fun _ kq => XS.iconst X0.here hx rfl (hb hby own_d673) kq) ?_
  refine own_via (fun _ kq => XS.icmpYes X0.here hx rfl (pc0 := 37) (pc' := 59) rfl (hb hby own_d674) rfl (feq (by decide)).2 (by decide) (by decide) kq) ?_
  show own_Fin _ _ _ _ _ _ _ s₁ (mkF m 59 #[.val (.int (3 : Int32)), .val (.int c1), .val (.int c2), .val (.int c3), .val (.int c4)] [])
  refine own_via (fun _ kq => XS.iloadN X0.here hx rfl (hb hby own_d689) rfl kq) ?_
  refine own_via (fun _ kq => XS.iconst X0.here hx rfl (hb hby own_d690) kq) ?_
  refine own_via (fun _ kq => XS.icmpNo X0.here hx rfl (hb hby own_d691) rfl (teq rfl).2 kq) ?_
  show own_Fin _ _ _ _ _ _ _ s₁ (mkF m 64 #[.val (.int (3 : Int32)), .val (.int c1), .val (.int c2), .val (.int c3), .val (.int c4)] [])
  obtain ⟨T1_, h1_, X1_, e1_, E1_, A1_, D1_, -, st1_⟩ := newO X0 hx hZ hown (own_w hw 8 rfl) (own_w hw 9 rfl) (own_w hw 10 rfl) e0 (g := (mkF m 64 #[.val (.int (3 : Int32)), .val (.int c1), .val (.int c2), .val (.int c3), .val (.int c4)] [])) rfl (hb hby own_d692) (by decide) (by decide)
  obtain ⟨b1_, g1_⟩ : ∃ z, z = h0.size := ⟨_, rfl⟩
  rw [← g1_] at A1_ D1_ st1_
  have F2_ : Fld Z h1_ b1_ "java/lang/String" "value" "[B" .null := D1_ (Or.inr (own_w hw 24 rfl)) (ty := (.array .byte)) (by decide)
  have F3_ : Fld Z h1_ b1_ "java/lang/String" "coder" "B" (.int (0 : Int32)) := D1_ (Or.inr (own_w hw 25 rfl)) (ty := .byte) (by decide)
  refine own_via (fun _ kq => st1_ _ kq) ?_
  show own_Fin _ _ _ _ _ _ _ T1_ (mkF m 67 #[.val (.int (3 : Int32)), .val (.int c1), .val (.int c2), .val (.int c3), .val (.int c4)] [(.ref b1_)])
  refine own_via (fun _ kq => XS.dup X1_.here hx rfl (hb hby own_d693) rfl rfl kq) ?_
  refine own_via (fun _ kq => XS.iconst X1_.here hx rfl (hb hby own_d694) kq) ?_
  show own_Fin _ _ _ _ _ _ _ T1_ (mkF m 69 #[.val (.int (3 : Int32)), .val (.int c1), .val (.int c2), .val (.int c3), .val (.int c4)] [(.int (3 : Int32)), (.ref b1_), (.ref b1_)])
  obtain ⟨T4_, h4_, k4_, X4_, e4_, E4_, A4_, st4_⟩ := newP X1_ hx hZ (own_w hw 11 rfl) e1_ (g := (mkF m 69 #[.val (.int (3 : Int32)), .val (.int c1), .val (.int c2), .val (.int c3), .val (.int c4)] [(.int (3 : Int32)), (.ref b1_), (.ref b1_)])) rfl (hb hby own_d695) rfl (by decide) (cap := 3) (by decide) (by decide) (by decide) (by decide)
  obtain ⟨b4_, g4_⟩ : ∃ z, z = h1_.size := ⟨_, rfl⟩
  rw [← g4_] at A4_ st4_
  have V4_ : Arv Z h4_ b4_ k4_ .char (3 : Int32) [(.int (0 : Int32)), (.int (0 : Int32)), (.int (0 : Int32))] (.int (0 : Int32)) := (Arv.new A4_ (by decide)).pad (pad_rep [] (.int (0 : Int32)) 3)
  refine own_via (fun _ kq => st4_ _ kq) ?_
  show own_Fin _ _ _ _ _ _ _ T4_ (mkF m 71 #[.val (.int (3 : Int32)), .val (.int c1), .val (.int c2), .val (.int c3), .val (.int c4)] [(.ref b4_), (.ref b1_), (.ref b1_)])
  refine own_via (fun _ kq => XS.dup X4_.here hx rfl (hb hby own_d696) rfl rfl kq) ?_
  refine own_via (fun _ kq => XS.iconst X4_.here hx rfl (hb hby own_d697) kq) ?_
  refine own_via (fun _ kq => XS.iloadN X4_.here hx rfl (hb hby own_d698) rfl kq) ?_
  show own_Fin _ _ _ _ _ _ _ T4_ (mkF m 74 #[.val (.int (3 : Int32)), .val (.int c1), .val (.int c2), .val (.int c3), .val (.int c4)] [(.int c1), (.int (0 : Int32)), (.ref b4_), (.ref b4_), (.ref b1_), (.ref b1_)])
  obtain ⟨c5_, Ar5_, q5_, S5_, M5_, H5_, G5_⟩ := (id V4_)
  have hin5_ : ¬ ((0 : Int32) < 0 ∨ c5_.slots.size ≤ ((0 : Int32)).toNatClampNeg) := inb_of S5_ ⟨by decide, by decide⟩
  obtain ⟨T5_, h5_, X5_, e5_, W5_, st5_⟩ := stC X4_ hx hZ e4_ Ar5_ (j := (0 : Int32)) hin5_ (g := (mkF m 74 #[.val (.int (3 : Int32)), .val (.int c1), .val (.int c2), .val (.int c3), .val (.int c4)] [(.int c1), (.int (0 : Int32)), (.ref b4_), (.ref b4_), (.ref b1_), (.ref b1_)])) rfl rfl (hb hby own_d699)
  have V5_ := Arv.set Ar5_ q5_ S5_ M5_ H5_ G5_ (fits_nar_char _) W5_ 0 rfl (Nat.le_of_ble_eq_true rfl)
  have U5_ : Arv Z h5_ b4_ k4_ .char (3 : Int32) [(.int c1), (.int (0 : Int32)), (.int (0 : Int32))] (.int (0 : Int32)) := by
    have hq := V5_
    rw [show nar .char c1 = c1 from (own_narch hc1)] at hq
    exact hq
  have g6_ : n0 ≤ b4_ := Nat.le_trans (Nat.le_trans Z0 E1_.1) (Nat.le_of_eq g4_.symm)
  have N5_ := Fr.snoc X5_ N0 g6_
  refine own_via (fun _ kq => st5_ _ kq) ?_
  show own_Fin _ _ _ _ _ _ _ T5_ (mkF m 75 #[.val (.int (3 : Int32)), .val (.int c1), .val (.int c2), .val (.int c3), .val (.int c4)] [(.ref b4_), (.ref b1_), (.ref b1_)])
  refine own_via (fun _ kq => XS.dup X5_.here hx rfl (hb hby own_d700) rfl rfl kq) ?_
  refine own_via (fun _ kq => XS.iconst X5_.here hx rfl (hb hby own_d701) kq) ?_
  refine own_via (fun _ kq => XS.iloadN X5_.here hx rfl (hb hby own_d702) rfl kq) ?_
  show own_Fin _ _ _ _ _ _ _ T5_ (mkF m 78 #[.val (.int (3 : Int32)), .val (.int c1), .val (.int c2), .val (.int c3), .val (.int c4)] [(.int c2), (.int (1 : Int32)), (.ref b4_), (.ref b4_), (.ref b1_), (.ref b1_)])
  obtain ⟨c7_, Ar7_, q7_, S7_, M7_, H7_, G7_⟩ := (id U5_)
  have hin7_ : ¬ ((1 : Int32) < 0 ∨ c7_.slots.size ≤ ((1 : Int32)).toNatClampNeg) := inb_of S7_ ⟨by decide, by decide⟩
  obtain ⟨T7_, h7_, X7_, e7_, W7_, st7_⟩ := stC X5_ hx hZ e5_ Ar7_ (j := (1 : Int32)) hin7_ (g := (mkF m 78 #[.val (.int (3 : Int32)), .val (.int c1), .val (.int c2), .val (.int c3), .val (.int c4)] [(.int c2), (.int (1 : Int32)), (.ref b4_), (.ref b4_), (.ref b1_), (.ref b1_)])) rfl rfl (hb hby own_d703)
  have V7_ := Arv.set Ar7_ q7_ S7_ M7_ H7_ G7_ (fits_nar_char _) W7_ 1 rfl (Nat.le_of_ble_eq_true rfl)
  have U7_ : Arv Z h7_ b4_ k4_ .char (3 : Int32) [(.int c1), (.int c2), (.int (0 : Int32))] (.int (0 : Int32)) := by
    have hq := V7_
    rw [show nar .char c2 = c2 from (own_narch hc2)] at hq
    exact hq
  have N7_ := Fr.snoc X7_ N5_ g6_
  refine own_via (fun _ kq => st7_ _ kq) ?_
  show own_Fin _ _ _ _ _ _ _ T7_ (mkF m 79 #[.val (.int (3 : Int32)), .val (.int c1), .val (.int c2), .val (.int c3), .val (.int c4)] [(.ref b4_), (.ref b1_), (.ref b1_)])
  refine own_via (fun _ kq => XS.dup X7_.here hx rfl (hb hby own_d704) rfl rfl kq) ?_
  refine own_via (fun _ kq => XS.iconst X7_.here hx rfl (hb hby own_d705) kq) ?_
  refine own_via (fun _ kq => XS.iloadN X7_.here hx rfl (hb hby own_d706) rfl kq) ?_
  show own_Fin _ _ _ _ _ _ _ T7_ (mkF m 82 #[.val (.int (3 : Int32)), .val (.int c1), .val (.int c2), .val (.int c3), .val (.int c4)] [(.int c3), (.int (2 : Int32)), (.ref b4_), (.ref b4_), (.ref b1_), (.ref b1_)])
  obtain ⟨c8_, Ar8_, q8_, S8_, M8_, H8_, G8_⟩ := (id U7_)
  have hin8_ : ¬ ((2 : Int32) < 0 ∨ c8_.slots.size ≤ ((2 : Int32)).toNatClampNeg) := inb_of S8_ ⟨by decide, by decide⟩
  obtain ⟨T8_, h8_, X8_, e8_, W8_, st8_⟩ := stC X7_ hx hZ e7_ Ar8_ (j := (2 : Int32)) hin8_ (g := (mkF m 82 #[.val (.int (3 : Int32)), .val (.int c1), .val (.int c2), .val (.int c3), .val (.int c4)] [(.int c3), (.int (2 : Int32)), (.ref b4_), (.ref b4_), (.ref b1_), (.ref b1_)])) rfl rfl (hb hby own_d707)
  have V8_ := Arv.set Ar8_ q8_ S8_ M8_ H8_ G8_ (fits_nar_char _) W8_ 2 rfl (Nat.le_of_ble_eq_true rfl)
  have U8_ : Arv Z h8_ b4_ k4_ .char (3 : Int32) [(.int c1), (.int c2), (.int c3)] (.int (0 : Int32)) := by
    have hq := V8_
    rw [show nar .char c3 = c3 from (own_narch hc3)] at hq
    exact hq
  have N8_ := Fr.snoc X8_ N7_ g6_
  refine own_via (fun _ kq => st8_ _ kq) ?_
  show own_Fin _ _ _ _ _ _ _ T8_ (mkF m 83 #[.val (.int (3 : Int32)), .val (.int c1), .val (.int c2), .val (.int c3), .val (.int c4)] [(.ref b4_), (.ref b1_), (.ref b1_)])
  have f10_ := (((((O0.ext E1_).ext E4_).wr W5_ g6_).wr W7_ g6_).wr W8_ g6_)
  have q11_ : b1_ ≠ b4_ := Nat.ne_of_lt (Nat.lt_of_lt_of_le A1_.lt (Nat.le_of_eq g4_.symm))
  have f12_ := ((((F2_.ext E4_).other W5_ (Or.inl q11_)).other W7_ (Or.inl q11_)).other W8_ (Or.inl q11_))
  have f13_ := ((((F3_.ext E4_).other W5_ (Or.inl q11_)).other W7_ (Or.inl q11_)).other W8_ (Or.inl q11_))
  have g14_ : n0 ≤ b1_ := Nat.le_trans Z0 (Nat.le_of_eq g1_.symm)
  obtain ⟨_, _, ⟨T9_, L9_, k9_, n9_⟩, -, X9_, ⟨Lc9_, hQ9_, l9_, y9_, z9_⟩, st9_⟩ := X8_.specialBack hx (y := (⟨"java/lang/String", "<init>", "([C)V"⟩ : MethodName)) rfl hown (mvT hZ (own_w hw 12 rfl)) (mvT hZ (own_w hw 13 rfl)) (mvT hZ (own_w hw 14 rfl)) (by decide) (backOf (W := 1) (own_rm_sInitC l Z a0 hw [] b1_ cz .null (.int (0 : Int32)) b4_ k4_ (3 : Int32) [c1, c2, c3] h8_ n0 (Nat.le_trans Z0 (Nat.le_trans (Nat.le_trans (Nat.le_trans (Nat.le_trans E1_.1 E4_.1) (Keep.of_wr W5_).1) (Keep.of_wr W7_).1) (Keep.of_wr W8_).1)) f10_ S1 (by first | assumption | decide) S3 S4 S5 ((((A1_.ext E4_).wr W5_).wr W7_).wr W8_) f12_ f13_ g14_ U8_ rfl (by simp) (by simp) (own_ch3 hc1 hc2 hc3)) hZ (own_w hw 14 rfl) (own_w hw 10 rfl) (by decide) (by decide)) (g := (mkF m 83 #[.val (.int (3 : Int32)), .val (.int c1), .val (.int c2), .val (.int c3), .val (.int c4)] [(.ref b4_), (.ref b1_), (.ref b1_)])) rfl (by rw [hml]; rfl) (Steps.refl _) (a := b1_) (argsL := [(.ref b4_)]) (rest := [(.ref b1_)]) (lenOf own_pd33 rfl) rfl (by show 2 * 0 + _ ≤ _; exact Nat.le_of_eq rfl) (hb hby own_d708) (fun _ _ => ⟨rfl, e8_, (by decide : 0 + 1 + 1 + 2 ≤ _), (by decide : 0 + 4 + 3 + 12 ≤ _)⟩)
  dsimp only [Pt.U, Pt.locs, Pt.cells, Pt.slots] at X9_ l9_ y9_ z9_ st9_ hQ9_
  subst l9_ y9_ z9_
  obtain ⟨u, ku, cd2, M2, ws, rfl, Nq9_, K9_, r15_, r16_, r17_, r18_, r19_, hcod⟩ := hQ9_
  have N9_ := Fr.app N8_ Nq9_
  refine own_via (fun _ kq => st9_.trans kq) ?_
  show own_Fin _ _ _ _ _ _ _ T9_ (mkF m 86 #[.val (.int (3 : Int32)), .val (.int c1), .val (.int c2), .val (.int c3), .val (.int c4)] [(.ref b1_)])
  exact own_retA X9_ hx Bd.returns Bd.notSynchronized rfl rfl (hb hby own_d709) rfl ⟨b1_, u, ku, cd2, M2, ws, rfl, N9_, (((((((Keep.refl h0 []).ext E1_).ext E4_).wr W5_ (Or.inr (Nat.le_trans E1_.1 (Nat.le_of_eq g4_.symm)))).wr W7_ (Or.inr (Nat.le_trans E1_.1 (Nat.le_of_eq g4_.symm)))).wr W8_ (Or.inr (Nat.le_trans E1_.1 (Nat.le_of_eq g4_.symm)))).trans K9_ (allS (Or.inr (Nat.le_of_eq g1_.symm)) all0)), (Nat.le_of_eq g1_.symm), r15_, r16_, r17_, r19_, hcod⟩ (by decide) (by decide)
theorem own_d710 : decode method_5_code 87 = .ok (.new 25, 3) := by decide +kernel
theorem own_d711 : decode method_5_code 90 = .ok (.dup, 1) := by decide +kernel
theorem own_d712 : decode method_5_code 91 = .ok (.iconst 4, 1) := by decide +kernel
theorem own_d713 : decode method_5_code 92 = .ok (.newarray .char, 2) := by decide +kernel
theorem own_d714 : decode method_5_code 94 = .ok (.dup, 1) := by decide +kernel
theorem own_d715 : decode method_5_code 95 = .ok (.iconst 0, 1) := by decide +kernel
theorem own_d716 : decode method_5_code 96 = .ok (.iload_n 1, 1) := by decide +kernel
theorem own_d717 : decode method_5_code 97 = .ok (.castore, 1) := by decide +kernel
theorem own_d718 : decode method_5_code 98 = .ok (.dup, 1) := by decide +kernel
theorem own_d719 : decode method_5_code 99 = .ok (.iconst 1, 1) := by decide +kernel
theorem own_d720 : decode method_5_code 100 = .ok (.iload_n 2, 1) := by decide +kernel
theorem own_d721 : decode method_5_code 101 = .ok (.castore, 1) := by decide +kernel
theorem own_d722 : decode method_5_code 102 = .ok (.dup, 1) := by decide +kernel
theorem own_d723 : decode method_5_code 103 = .ok (.iconst 2, 1) := by decide +kernel
theorem own_d724 : decode method_5_code 104 = .ok (.iload_n 3, 1) := by decide +kernel
theorem own_d725 : decode method_5_code 105 = .ok (.castore, 1) := by decide +kernel
theorem own_d726 : decode method_5_code 106 = .ok (.dup, 1) := by decide +kernel
theorem own_d727 : decode method_5_code 107 = .ok (.iconst 3, 1) := by decide +kernel
theorem own_d728 : decode method_5_code 108 = .ok (.iload 4, 2) := by decide +kernel
theorem own_d729 : decode method_5_code 110 = .ok (.castore, 1) := by decide +kernel
theorem own_d730 : decode method_5_code 111 = .ok (.invokespecial 37, 3) := by decide +kernel
theorem own_d731 : decode method_5_code 114 = .ok (.areturn, 1) := by decide +kernel
theorem own_ef_make4 (m : MethodId) (c1 : Int32) (c2 : Int32) (c3 : Int32) (c4 : Int32) : entryFrame m #[(.int (4 : Int32)), (.int c1), (.int c2), (.int c3), (.int c4)] 5 = mkF m 0 #[.val (.int (4 : Int32)), .val (.int c1), .val (.int c2), .val (.int c3), .val (.int c4)] [] := by (first | (simp [entryFrame, mkF, argsToLocals, Value.category]; done) | rfl)
def own_Q_make4 (Z : State) (c1 : Int32) (c2 : Int32) (c3 : Int32) (c4 : Int32) (cz : Int32) (h0 : Heap) (n0 : Nat) (vq : Option Value) (h : Heap) (Lq : List Loc) : Prop := ∃ (x : Addr) (u : Addr) (ku : ClassId) (cd2 : Int32) (M2 : Int32) (ws : List Value), (vq = some (.ref x)) ∧ (Fr n0 Lq) ∧ (Keep h0 h []) ∧ (h0.size ≤ x) ∧ (Exa Z h x "java/lang/String") ∧ (Fld Z h x "java/lang/String" "coder" "B" (.int cd2)) ∧ (Fld Z h x "java/lang/String" "value" "[B" (.ref u)) ∧ (Arv Z h u ku .byte M2 ws (.int 0)) ∧ (own_cod [c1, c2, c3, c4] cd2 M2 ws)
abbrev own_R_make4 : Room := { frames := 6, cells := 4, slots := 20, locals := 88 }
set_option maxRecDepth 65536 in
set_option maxHeartbeats 40000000 in
theorem own_rm_make4 (l : Launch) (Z : State) (a0 : Array Value) (hw : ∀ d ∈ tables_1, d.before a0 Z = true) (wsq : List Jvm.Cond) (c1 : Int32) (c2 : Int32) (c3 : Int32) (c4 : Int32) (cz : Int32) (h0 : Heap) (n0 : Nat) (Z0 : n0 ≤ h0.size) (O0 : Old Z n0 h0) (S1 : Sta Z Z.heap "java/lang/String" "COMPACT_STRINGS" "Z" (.int cz)) (P5 : ¬ cz = (0 : Int32)) (S3 : Sta Z Z.heap "java/lang/StringUTF16" "$assertionsDisabled" "Z" (.int (1 : Int32))) (S4 : Sta Z Z.heap "java/lang/StringUTF16" "HI_BYTE_SHIFT" "I" (.int (0 : Int32))) (S5 : Sta Z Z.heap "java/lang/StringUTF16" "LO_BYTE_SHIFT" "I" (.int (8 : Int32))) (hc1 : own_chr c1) (hc2 : own_chr c2) (hc3 : own_chr c3) (hc4 : own_chr c4) :
    MetFree l (⟨"com/example/even_rows/evenrows/mapping/SqlNameFoldedPinLaw", "make", "(ICCCC)Ljava/lang/String;"⟩ : MethodName) (head1 (Jvm.Cond.code (⟨"com/example/even_rows/evenrows/mapping/SqlNameFoldedPinLaw", "make", "(ICCCC)Ljava/lang/String;"⟩ : MethodName) method_5_code 5 (some (.object "java/lang/String")) :: wsq) own_R_make4) (fun aq Uq => aq = #[(.int (4 : Int32)), (.int c1), (.int c2), (.int c3), (.int c4)] ∧ Z.Warmed39 Uq.vm ∧ Uq.heap = h0) (fun _ _ _ _ _ => True) (fun _ Uq oq Uq' => ∃ vq Lq, oq = .returned vq ∧ own_Q_make4 Z c1 c2 c3 c4 cz h0 n0 vq Uq'.heap Lq ∧ FrameEnd Uq oq Uq' Lq own_R_make4.cells own_R_make4.slots) := by
  refine MetFree.of_bodySF (plainFor_of_name own_pn8) hisR ?_
  intro p e s m args below meth cde s₁ Bd hml0 hP hK
  obtain ⟨rfl, hZ, hh⟩ := hP
  have hx := Bd.exec
  have hby := Bd.bytes
  have hml : cde.maxLocals = 5 := hml0
  have hown : s.vm.findClass "com/example/even_rows/evenrows/mapping/SqlNameFoldedPinLaw" = some m.cls := findClass_of_methodNamed Bd.named
  have hnm := (name_of_methodNamed Bd.named Bd.method).1
  have X0 : Stand p l e own_R_make4 s m #[(.int (4 : Int32)), (.int c1), (.int c2), (.int c3), (.int c4)] below meth cde s₁ [] 0 0 := Stand.of_body Bd
  have e0 : s₁.heap = h0 := by rw [← hh, Bd.state]; rfl
  have N0 := Fr.nil n0
  show own_Fin p e s below (own_Q_make4 Z c1 c2 c3 c4 cz h0 n0) own_R_make4.cells own_R_make4.slots s₁ (entryFrame m #[(.int (4 : Int32)), (.int c1), (.int c2), (.int c3), (.int c4)] 5)
  rw [own_ef_make4 m c1 c2 c3 c4]
  refine own_via (fun _ kq => XS.iloadN X0.here hx rfl (hb hby own_d657) rfl kq) ?_
  refine own_via (fun _ kq => XS.ifYes X0.here hx rfl (pc0 := 1) (pc' := 15) rfl (hb hby own_d658) rfl ((if0 _ _).trans (feq (by decide)).2) (by decide) (by decide) kq) ?_
  show own_Fin _ _ _ _ _ _ _ s₁ (mkF m 15 #[.val (.int (4 : Int32)), .val (.int c1), .val (.int c2), .val (.int c3), .val (.int c4)] [])
  refine own_via (fun _ kq => XS.iloadN X0.here hx rfl (hb hby own_d659) rfl kq) ?_
  refine own_via (fun _ kq => XS.iconst X0.here hx rfl (hb hby own_d660) kq) ?_
  refine own_via (fun _ kq => XS.icmpYes X0.here hx rfl (pc0 := 17) (pc' := 35) rfl (hb hby own_d661) rfl (feq (by decide)).2 (by decide) (by decide) kq) ?_
  show own_Fin _ _ _ _ _ _ _ s₁ (mkF m 35 #[.val (.int (4 : Int32)), .val (.int c1), .val (.int c2), .val (.int c3), .val (.int c4)] [])
  refine own_via (fun _ kq => XS.iloadN X0.here hx rfl (hb hby own_d672) rfl kq) ?_
  refine own_via (fun _ kq => XS.iconst X0.here hx rfl (hb hby own_d673) kq) ?_
  refine own_via (fun _ kq => XS.icmpYes X0.here hx rfl (pc0 := 37) (pc' := 59) rfl (hb hby own_d674) rfl (feq (by decide)).2 (by decide) (by decide) kq) ?_
  show own_Fin _ _ _ _ _ _ _ s₁ (mkF m 59 #[.val (.int (4 : Int32)), .val (.int c1), .val (.int c2), .val (.int c3), .val (.int c4)] [])
  refine own_via (fun _ kq => XS.iloadN X0.here hx rfl (hb hby own_d689) rfl kq) ?_
  refine own_via (fun _ kq => XS.iconst X0.here hx rfl (hb hby own_d690) kq) ?_
  refine own_via (fun _ kq => XS.icmpYes X0.here hx rfl (pc0 := 61) (pc' := 87) rfl (hb hby own_d691) rfl (feq (by decide)).2 (by decide) (by decide) kq) ?_
  show own_Fin _ _ _ _ _ _ _ s₁ (mkF m 87 #[.val (.int (4 : Int32)), .val (.int c1), .val (.int c2), .val (.int c3), .val (.int c4)] [])
  obtain ⟨T1_, h1_, X1_, e1_, E1_, A1_, D1_, -, st1_⟩ := newO X0 hx hZ hown (own_w hw 8 rfl) (own_w hw 9 rfl) (own_w hw 10 rfl) e0 (g := (mkF m 87 #[.val (.int (4 : Int32)), .val (.int c1), .val (.int c2), .val (.int c3), .val (.int c4)] [])) rfl (hb hby own_d710) (by decide) (by decide)
  obtain ⟨b1_, g1_⟩ : ∃ z, z = h0.size := ⟨_, rfl⟩
  rw [← g1_] at A1_ D1_ st1_
  have F2_ : Fld Z h1_ b1_ "java/lang/String" "value" "[B" .null := D1_ (Or.inr (own_w hw 24 rfl)) (ty := (.array .byte)) (by decide)
  have F3_ : Fld Z h1_ b1_ "java/lang/String" "coder" "B" (.int (0 : Int32)) := D1_ (Or.inr (own_w hw 25 rfl)) (ty := .byte) (by decide)
  refine own_via (fun _ kq => st1_ _ kq) ?_
  show own_Fin _ _ _ _ _ _ _ T1_ (mkF m 90 #[.val (.int (4 : Int32)), .val (.int c1), .val (.int c2), .val (.int c3), .val (.int c4)] [(.ref b1_)])
  refine own_via (fun _ kq => XS.dup X1_.here hx rfl (hb hby own_d711) rfl rfl kq) ?_
  refine own_via (fun _ kq => XS.iconst X1_.here hx rfl (hb hby own_d712) kq) ?_
  show own_Fin _ _ _ _ _ _ _ T1_ (mkF m 92 #[.val (.int (4 : Int32)), .val (.int c1), .val (.int c2), .val (.int c3), .val (.int c4)] [(.int (4 : Int32)), (.ref b1_), (.ref b1_)])
  obtain ⟨T4_, h4_, k4_, X4_, e4_, E4_, A4_, st4_⟩ := newP X1_ hx hZ (own_w hw 11 rfl) e1_ (g := (mkF m 92 #[.val (.int (4 : Int32)), .val (.int c1), .val (.int c2), .val (.int c3), .val (.int c4)] [(.int (4 : Int32)), (.ref b1_), (.ref b1_)])) rfl (hb hby own_d713) rfl (by decide) (cap := 4) (by decide) (by decide) (by decide) (by decide)
  obtain ⟨b4_, g4_⟩ : ∃ z, z = h1_.size := ⟨_, rfl⟩
  rw [← g4_] at A4_ st4_
  have V4_ : Arv Z h4_ b4_ k4_ .char (4 : Int32) [(.int (0 : Int32)), (.int (0 : Int32)), (.int (0 : Int32)), (.int (0 : Int32))] (.int (0 : Int32)) := (Arv.new A4_ (by decide)).pad (pad_rep [] (.int (0 : Int32)) 4)
  refine own_via (fun _ kq => st4_ _ kq) ?_
  show own_Fin _ _ _ _ _ _ _ T4_ (mkF m 94 #[.val (.int (4 : Int32)), .val (.int c1), .val (.int c2), .val (.int c3), .val (.int c4)] [(.ref b4_), (.ref b1_), (.ref b1_)])
  refine own_via (fun _ kq => XS.dup X4_.here hx rfl (hb hby own_d714) rfl rfl kq) ?_
  refine own_via (fun _ kq => XS.iconst X4_.here hx rfl (hb hby own_d715) kq) ?_
  refine own_via (fun _ kq => XS.iloadN X4_.here hx rfl (hb hby own_d716) rfl kq) ?_
  show own_Fin _ _ _ _ _ _ _ T4_ (mkF m 97 #[.val (.int (4 : Int32)), .val (.int c1), .val (.int c2), .val (.int c3), .val (.int c4)] [(.int c1), (.int (0 : Int32)), (.ref b4_), (.ref b4_), (.ref b1_), (.ref b1_)])
  obtain ⟨c5_, Ar5_, q5_, S5_, M5_, H5_, G5_⟩ := (id V4_)
  have hin5_ : ¬ ((0 : Int32) < 0 ∨ c5_.slots.size ≤ ((0 : Int32)).toNatClampNeg) := inb_of S5_ ⟨by decide, by decide⟩
  obtain ⟨T5_, h5_, X5_, e5_, W5_, st5_⟩ := stC X4_ hx hZ e4_ Ar5_ (j := (0 : Int32)) hin5_ (g := (mkF m 97 #[.val (.int (4 : Int32)), .val (.int c1), .val (.int c2), .val (.int c3), .val (.int c4)] [(.int c1), (.int (0 : Int32)), (.ref b4_), (.ref b4_), (.ref b1_), (.ref b1_)])) rfl rfl (hb hby own_d717)
  have V5_ := Arv.set Ar5_ q5_ S5_ M5_ H5_ G5_ (fits_nar_char _) W5_ 0 rfl (Nat.le_of_ble_eq_true rfl)
  have U5_ : Arv Z h5_ b4_ k4_ .char (4 : Int32) [(.int c1), (.int (0 : Int32)), (.int (0 : Int32)), (.int (0 : Int32))] (.int (0 : Int32)) := by
    have hq := V5_
    rw [show nar .char c1 = c1 from (own_narch hc1)] at hq
    exact hq
  have g6_ : n0 ≤ b4_ := Nat.le_trans (Nat.le_trans Z0 E1_.1) (Nat.le_of_eq g4_.symm)
  have N5_ := Fr.snoc X5_ N0 g6_
  refine own_via (fun _ kq => st5_ _ kq) ?_
  show own_Fin _ _ _ _ _ _ _ T5_ (mkF m 98 #[.val (.int (4 : Int32)), .val (.int c1), .val (.int c2), .val (.int c3), .val (.int c4)] [(.ref b4_), (.ref b1_), (.ref b1_)])
  refine own_via (fun _ kq => XS.dup X5_.here hx rfl (hb hby own_d718) rfl rfl kq) ?_
  refine own_via (fun _ kq => XS.iconst X5_.here hx rfl (hb hby own_d719) kq) ?_
  refine own_via (fun _ kq => XS.iloadN X5_.here hx rfl (hb hby own_d720) rfl kq) ?_
  show own_Fin _ _ _ _ _ _ _ T5_ (mkF m 101 #[.val (.int (4 : Int32)), .val (.int c1), .val (.int c2), .val (.int c3), .val (.int c4)] [(.int c2), (.int (1 : Int32)), (.ref b4_), (.ref b4_), (.ref b1_), (.ref b1_)])
  obtain ⟨c7_, Ar7_, q7_, S7_, M7_, H7_, G7_⟩ := (id U5_)
  have hin7_ : ¬ ((1 : Int32) < 0 ∨ c7_.slots.size ≤ ((1 : Int32)).toNatClampNeg) := inb_of S7_ ⟨by decide, by decide⟩
  obtain ⟨T7_, h7_, X7_, e7_, W7_, st7_⟩ := stC X5_ hx hZ e5_ Ar7_ (j := (1 : Int32)) hin7_ (g := (mkF m 101 #[.val (.int (4 : Int32)), .val (.int c1), .val (.int c2), .val (.int c3), .val (.int c4)] [(.int c2), (.int (1 : Int32)), (.ref b4_), (.ref b4_), (.ref b1_), (.ref b1_)])) rfl rfl (hb hby own_d721)
  have V7_ := Arv.set Ar7_ q7_ S7_ M7_ H7_ G7_ (fits_nar_char _) W7_ 1 rfl (Nat.le_of_ble_eq_true rfl)
  have U7_ : Arv Z h7_ b4_ k4_ .char (4 : Int32) [(.int c1), (.int c2), (.int (0 : Int32)), (.int (0 : Int32))] (.int (0 : Int32)) := by
    have hq := V7_
    rw [show nar .char c2 = c2 from (own_narch hc2)] at hq
    exact hq
  have N7_ := Fr.snoc X7_ N5_ g6_
  refine own_via (fun _ kq => st7_ _ kq) ?_
  show own_Fin _ _ _ _ _ _ _ T7_ (mkF m 102 #[.val (.int (4 : Int32)), .val (.int c1), .val (.int c2), .val (.int c3), .val (.int c4)] [(.ref b4_), (.ref b1_), (.ref b1_)])
  refine own_via (fun _ kq => XS.dup X7_.here hx rfl (hb hby own_d722) rfl rfl kq) ?_
  refine own_via (fun _ kq => XS.iconst X7_.here hx rfl (hb hby own_d723) kq) ?_
  refine own_via (fun _ kq => XS.iloadN X7_.here hx rfl (hb hby own_d724) rfl kq) ?_
  show own_Fin _ _ _ _ _ _ _ T7_ (mkF m 105 #[.val (.int (4 : Int32)), .val (.int c1), .val (.int c2), .val (.int c3), .val (.int c4)] [(.int c3), (.int (2 : Int32)), (.ref b4_), (.ref b4_), (.ref b1_), (.ref b1_)])
  obtain ⟨c8_, Ar8_, q8_, S8_, M8_, H8_, G8_⟩ := (id U7_)
  have hin8_ : ¬ ((2 : Int32) < 0 ∨ c8_.slots.size ≤ ((2 : Int32)).toNatClampNeg) := inb_of S8_ ⟨by decide, by decide⟩
  obtain ⟨T8_, h8_, X8_, e8_, W8_, st8_⟩ := stC X7_ hx hZ e7_ Ar8_ (j := (2 : Int32)) hin8_ (g := (mkF m 105 #[.val (.int (4 : Int32)), .val (.int c1), .val (.int c2), .val (.int c3), .val (.int c4)] [(.int c3), (.int (2 : Int32)), (.ref b4_), (.ref b4_), (.ref b1_), (.ref b1_)])) rfl rfl (hb hby own_d725)
  have V8_ := Arv.set Ar8_ q8_ S8_ M8_ H8_ G8_ (fits_nar_char _) W8_ 2 rfl (Nat.le_of_ble_eq_true rfl)
  have U8_ : Arv Z h8_ b4_ k4_ .char (4 : Int32) [(.int c1), (.int c2), (.int c3), (.int (0 : Int32))] (.int (0 : Int32)) := by
    have hq := V8_
    rw [show nar .char c3 = c3 from (own_narch hc3)] at hq
    exact hq
  have N8_ := Fr.snoc X8_ N7_ g6_
  refine own_via (fun _ kq => st8_ _ kq) ?_
  show own_Fin _ _ _ _ _ _ _ T8_ (mkF m 106 #[.val (.int (4 : Int32)), .val (.int c1), .val (.int c2), .val (.int c3), .val (.int c4)] [(.ref b4_), (.ref b1_), (.ref b1_)])
  refine own_via (fun _ kq => XS.dup X8_.here hx rfl (hb hby own_d726) rfl rfl kq) ?_
  refine own_via (fun _ kq => XS.iconst X8_.here hx rfl (hb hby own_d727) kq) ?_
  refine own_via (fun _ kq => XS.iload X8_.here hx rfl (hb hby own_d728) rfl kq) ?_
  show own_Fin _ _ _ _ _ _ _ T8_ (mkF m 110 #[.val (.int (4 : Int32)), .val (.int c1), .val (.int c2), .val (.int c3), .val (.int c4)] [(.int c4), (.int (3 : Int32)), (.ref b4_), (.ref b4_), (.ref b1_), (.ref b1_)])
  obtain ⟨c9_, Ar9_, q9_, S9_, M9_, H9_, G9_⟩ := (id U8_)
  have hin9_ : ¬ ((3 : Int32) < 0 ∨ c9_.slots.size ≤ ((3 : Int32)).toNatClampNeg) := inb_of S9_ ⟨by decide, by decide⟩
  obtain ⟨T9_, h9_, X9_, e9_, W9_, st9_⟩ := stC X8_ hx hZ e8_ Ar9_ (j := (3 : Int32)) hin9_ (g := (mkF m 110 #[.val (.int (4 : Int32)), .val (.int c1), .val (.int c2), .val (.int c3), .val (.int c4)] [(.int c4), (.int (3 : Int32)), (.ref b4_), (.ref b4_), (.ref b1_), (.ref b1_)])) rfl rfl (hb hby own_d729)
  have V9_ := Arv.set Ar9_ q9_ S9_ M9_ H9_ G9_ (fits_nar_char _) W9_ 3 rfl (Nat.le_of_ble_eq_true rfl)
  have U9_ : Arv Z h9_ b4_ k4_ .char (4 : Int32) [(.int c1), (.int c2), (.int c3), (.int c4)] (.int (0 : Int32)) := by
    have hq := V9_
    rw [show nar .char c4 = c4 from (own_narch hc4)] at hq
    exact hq
  have N9_ := Fr.snoc X9_ N8_ g6_
  refine own_via (fun _ kq => st9_ _ kq) ?_
  show own_Fin _ _ _ _ _ _ _ T9_ (mkF m 111 #[.val (.int (4 : Int32)), .val (.int c1), .val (.int c2), .val (.int c3), .val (.int c4)] [(.ref b4_), (.ref b1_), (.ref b1_)])
  have f11_ := ((((((O0.ext E1_).ext E4_).wr W5_ g6_).wr W7_ g6_).wr W8_ g6_).wr W9_ g6_)
  have q12_ : b1_ ≠ b4_ := Nat.ne_of_lt (Nat.lt_of_lt_of_le A1_.lt (Nat.le_of_eq g4_.symm))
  have f13_ := (((((F2_.ext E4_).other W5_ (Or.inl q12_)).other W7_ (Or.inl q12_)).other W8_ (Or.inl q12_)).other W9_ (Or.inl q12_))
  have f14_ := (((((F3_.ext E4_).other W5_ (Or.inl q12_)).other W7_ (Or.inl q12_)).other W8_ (Or.inl q12_)).other W9_ (Or.inl q12_))
  have g15_ : n0 ≤ b1_ := Nat.le_trans Z0 (Nat.le_of_eq g1_.symm)
  obtain ⟨_, _, ⟨T10_, L10_, k10_, n10_⟩, -, X10_, ⟨Lc10_, hQ10_, l10_, y10_, z10_⟩, st10_⟩ := X9_.specialBack hx (y := (⟨"java/lang/String", "<init>", "([C)V"⟩ : MethodName)) rfl hown (mvT hZ (own_w hw 12 rfl)) (mvT hZ (own_w hw 13 rfl)) (mvT hZ (own_w hw 14 rfl)) (by decide) (backOf (W := 1) (own_rm_sInitC l Z a0 hw [] b1_ cz .null (.int (0 : Int32)) b4_ k4_ (4 : Int32) [c1, c2, c3, c4] h9_ n0 (Nat.le_trans Z0 (Nat.le_trans (Nat.le_trans (Nat.le_trans (Nat.le_trans (Nat.le_trans E1_.1 E4_.1) (Keep.of_wr W5_).1) (Keep.of_wr W7_).1) (Keep.of_wr W8_).1) (Keep.of_wr W9_).1)) f11_ S1 (by first | assumption | decide) S3 S4 S5 (((((A1_.ext E4_).wr W5_).wr W7_).wr W8_).wr W9_) f13_ f14_ g15_ U9_ rfl (by simp) (by simp) (own_ch4 hc1 hc2 hc3 hc4)) hZ (own_w hw 14 rfl) (own_w hw 10 rfl) (by decide) (by decide)) (g := (mkF m 111 #[.val (.int (4 : Int32)), .val (.int c1), .val (.int c2), .val (.int c3), .val (.int c4)] [(.ref b4_), (.ref b1_), (.ref b1_)])) rfl (by rw [hml]; rfl) (Steps.refl _) (a := b1_) (argsL := [(.ref b4_)]) (rest := [(.ref b1_)]) (lenOf own_pd33 rfl) rfl (by show 2 * 0 + _ ≤ _; exact Nat.le_of_eq rfl) (hb hby own_d730) (fun _ _ => ⟨rfl, e9_, (by decide : 0 + 1 + 1 + 2 ≤ _), (by decide : 0 + 4 + 4 + 12 ≤ _)⟩)
  dsimp only [Pt.U, Pt.locs, Pt.cells, Pt.slots] at X10_ l10_ y10_ z10_ st10_ hQ10_
  subst l10_ y10_ z10_
  obtain ⟨u, ku, cd2, M2, ws, rfl, Nq10_, K10_, r16_, r17_, r18_, r19_, r20_, hcod⟩ := hQ10_
  have N10_ := Fr.app N9_ Nq10_
  refine own_via (fun _ kq => st10_.trans kq) ?_
  show own_Fin _ _ _ _ _ _ _ T10_ (mkF m 114 #[.val (.int (4 : Int32)), .val (.int c1), .val (.int c2), .val (.int c3), .val (.int c4)] [(.ref b1_)])
  exact own_retA X10_ hx Bd.returns Bd.notSynchronized rfl rfl (hb hby own_d731) rfl ⟨b1_, u, ku, cd2, M2, ws, rfl, N10_, ((((((((Keep.refl h0 []).ext E1_).ext E4_).wr W5_ (Or.inr (Nat.le_trans E1_.1 (Nat.le_of_eq g4_.symm)))).wr W7_ (Or.inr (Nat.le_trans E1_.1 (Nat.le_of_eq g4_.symm)))).wr W8_ (Or.inr (Nat.le_trans E1_.1 (Nat.le_of_eq g4_.symm)))).wr W9_ (Or.inr (Nat.le_trans E1_.1 (Nat.le_of_eq g4_.symm)))).trans K10_ (allS (Or.inr (Nat.le_of_eq g1_.symm)) all0)), (Nat.le_of_eq g1_.symm), r16_, r17_, r18_, r20_, hcod⟩ (by decide) (by decide)
theorem own_d732 : decode method_5_code 4 = .ok (.new 25, 3) := by decide +kernel
theorem own_d733 : decode method_5_code 7 = .ok (.dup, 1) := by decide +kernel
theorem own_d734 : decode method_5_code 8 = .ok (.iconst 0, 1) := by decide +kernel
theorem own_d735 : decode method_5_code 9 = .ok (.newarray .char, 2) := by decide +kernel
theorem own_d736 : decode method_5_code 11 = .ok (.invokespecial 37, 3) := by decide +kernel
theorem own_d737 : decode method_5_code 14 = .ok (.areturn, 1) := by decide +kernel
theorem own_ef_make0 (m : MethodId) (c1 : Int32) (c2 : Int32) (c3 : Int32) (c4 : Int32) : entryFrame m #[(.int (0 : Int32)), (.int c1), (.int c2), (.int c3), (.int c4)] 5 = mkF m 0 #[.val (.int (0 : Int32)), .val (.int c1), .val (.int c2), .val (.int c3), .val (.int c4)] [] := by (first | (simp [entryFrame, mkF, argsToLocals, Value.category]; done) | rfl)
def own_Q_make0 (Z : State) (c1 : Int32) (c2 : Int32) (c3 : Int32) (c4 : Int32) (h0 : Heap) (n0 : Nat) (vq : Option Value) (h : Heap) (Lq : List Loc) : Prop := ∃ (x : Addr) (u : Addr) (ku : ClassId), (vq = some (.ref x)) ∧ (Fr n0 Lq) ∧ (Keep h0 h []) ∧ (h0.size ≤ x) ∧ (Exa Z h x "java/lang/String") ∧ (Fld Z h x "java/lang/String" "coder" "B" (.int (0 : Int32))) ∧ (Fld Z h x "java/lang/String" "value" "[B" (.ref u)) ∧ (Arv Z h u ku .byte (0 : Int32) [] (.int 0))
abbrev own_R_make0 : Room := { frames := 3, cells := 6, slots := 12, locals := 43 }
set_option maxRecDepth 65536 in
set_option maxHeartbeats 40000000 in
theorem own_rm_make0 (l : Launch) (Z : State) (a0 : Array Value) (hw : ∀ d ∈ tables_1, d.before a0 Z = true) (wsq : List Jvm.Cond) (c1 : Int32) (c2 : Int32) (c3 : Int32) (c4 : Int32) (h0 : Heap) (n0 : Nat) (Z0 : n0 ≤ h0.size) :
    MetFree l (⟨"com/example/even_rows/evenrows/mapping/SqlNameFoldedPinLaw", "make", "(ICCCC)Ljava/lang/String;"⟩ : MethodName) (head1 (Jvm.Cond.code (⟨"com/example/even_rows/evenrows/mapping/SqlNameFoldedPinLaw", "make", "(ICCCC)Ljava/lang/String;"⟩ : MethodName) method_5_code 5 (some (.object "java/lang/String")) :: wsq) own_R_make0) (fun aq Uq => aq = #[(.int (0 : Int32)), (.int c1), (.int c2), (.int c3), (.int c4)] ∧ Z.Warmed39 Uq.vm ∧ Uq.heap = h0 ∧ CHv Z own_EL Uq.vm h0) (fun _ _ _ _ _ => True) (fun _ Uq oq Uq' => ∃ vq Lq, oq = .returned vq ∧ own_Q_make0 Z c1 c2 c3 c4 h0 n0 vq Uq'.heap Lq ∧ CHr Z own_EL Uq.vm Uq.heap Uq'.vm Uq'.heap ∧ ReturnedEndW Uq oq Uq' Lq own_R_make0.cells own_R_make0.slots) := by
  refine MetFree.of_bodySF (plainFor_of_name own_pn8) hisR ?_
  intro p e s m args below meth cde s₁ Bd hml0 hP hK
  obtain ⟨rfl, hZ, hh, H0⟩ := hP
  have hx := Bd.exec
  have hby := Bd.bytes
  have hml : cde.maxLocals = 5 := hml0
  have hown : s.vm.findClass "com/example/even_rows/evenrows/mapping/SqlNameFoldedPinLaw" = some m.cls := findClass_of_methodNamed Bd.named
  have hnm := (name_of_methodNamed Bd.named Bd.method).1
  have X0 : Stand p l e own_R_make0 (s.setVm s.vm) m #[(.int (0 : Int32)), (.int c1), (.int c2), (.int c3), (.int c4)] below meth cde s₁ [] 0 0 := Stand.of_body Bd
  have e0 : s₁.heap = h0 := by rw [← hh, Bd.state]; rfl
  have N0 := Fr.nil n0
  have hS0 : s.Since s.vm h0.size := (State.WarmedH.refl s).since _
  have hk0 : h0.size ≤ h0.size := Nat.le_refl _
  have C0 : CHr Z own_EL s.vm h0 s.vm h0 := CHr.refl H0
  show own_FinH p e s below Z own_EL (own_Q_make0 Z c1 c2 c3 c4 h0 n0) own_R_make0.cells own_R_make0.slots s₁ (entryFrame m #[(.int (0 : Int32)), (.int c1), (.int c2), (.int c3), (.int c4)] 5)
  rw [own_ef_make0 m c1 c2 c3 c4]
  refine own_viaH (fun _ kq => XS.iloadN X0.here hx rfl (hb hby own_d657) rfl kq) ?_
  refine own_viaH (fun _ kq => XS.ifNo X0.here hx rfl (hb hby own_d658) rfl ((if0 _ _).trans (teq rfl).2) kq) ?_
  show own_FinH _ _ _ _ _ _ _ _ _ s₁ (mkF m 4 #[.val (.int (0 : Int32)), .val (.int c1), .val (.int c2), .val (.int c3), .val (.int c4)] [])
  obtain ⟨T1_, h1_, X1_, e1_, E1_, A1_, D1_, -, st1_⟩ := newO X0 hx hZ hown (own_w hw 8 rfl) (own_w hw 9 rfl) (own_w hw 10 rfl) e0 (g := (mkF m 4 #[.val (.int (0 : Int32)), .val (.int c1), .val (.int c2), .val (.int c3), .val (.int c4)] [])) rfl (hb hby own_d732) (by decide) (by decide)
  obtain ⟨b1_, g1_⟩ : ∃ z, z = h0.size := ⟨_, rfl⟩
  rw [← g1_] at A1_ D1_ st1_
  have F2_ : Fld Z h1_ b1_ "java/lang/String" "value" "[B" .null := D1_ (Or.inr (own_w hw 24 rfl)) (ty := (.array .byte)) (by decide)
  have F3_ : Fld Z h1_ b1_ "java/lang/String" "coder" "B" (.int (0 : Int32)) := D1_ (Or.inr (own_w hw 25 rfl)) (ty := .byte) (by decide)
  refine own_viaH (fun _ kq => st1_ _ kq) ?_
  show own_FinH _ _ _ _ _ _ _ _ _ T1_ (mkF m 7 #[.val (.int (0 : Int32)), .val (.int c1), .val (.int c2), .val (.int c3), .val (.int c4)] [(.ref b1_)])
  refine own_viaH (fun _ kq => XS.dup X1_.here hx rfl (hb hby own_d733) rfl rfl kq) ?_
  refine own_viaH (fun _ kq => XS.iconst X1_.here hx rfl (hb hby own_d734) kq) ?_
  show own_FinH _ _ _ _ _ _ _ _ _ T1_ (mkF m 9 #[.val (.int (0 : Int32)), .val (.int c1), .val (.int c2), .val (.int c3), .val (.int c4)] [(.int (0 : Int32)), (.ref b1_), (.ref b1_)])
  obtain ⟨T4_, h4_, k4_, X4_, e4_, E4_, A4_, st4_⟩ := newP X1_ hx hZ (own_w hw 11 rfl) e1_ (g := (mkF m 9 #[.val (.int (0 : Int32)), .val (.int c1), .val (.int c2), .val (.int c3), .val (.int c4)] [(.int (0 : Int32)), (.ref b1_), (.ref b1_)])) rfl (hb hby own_d735) rfl (by decide) (cap := 0) (by decide) (by decide) (by decide) (by decide)
  obtain ⟨b4_, g4_⟩ : ∃ z, z = h1_.size := ⟨_, rfl⟩
  rw [← g4_] at A4_ st4_
  have V4_ : Arv Z h4_ b4_ k4_ .char (0 : Int32) [] (.int (0 : Int32)) := (Arv.new A4_ (by decide)).pad (pad_rep [] (.int (0 : Int32)) 0)
  refine own_viaH (fun _ kq => st4_ _ kq) ?_
  show own_FinH _ _ _ _ _ _ _ _ _ T4_ (mkF m 11 #[.val (.int (0 : Int32)), .val (.int c1), .val (.int c2), .val (.int c3), .val (.int c4)] [(.ref b4_), (.ref b1_), (.ref b1_)])
  have g6_ : n0 ≤ b1_ := Nat.le_trans Z0 (Nat.le_of_eq g1_.symm)
  have C7_ := C0.trans (CHr.ext E1_ H0)
  have H7_ := C7_.1
  have C8_ := C7_.trans (CHr.ext E4_ H7_)
  have H8_ := C8_.1
  obtain ⟨_, _, ⟨T5_, L5_, k5_, n5_⟩, -, Y5_, hSq5_, hgq5_, ⟨Lc5_, hQ5_, l5_, y5_, z5_, Cq5_⟩, st5_⟩ := X4_.specialBackS hx (y := (⟨"java/lang/String", "<init>", "([C)V"⟩ : MethodName)) rfl hown (mvT hZ (own_w hw 12 rfl)) (mvT hZ (own_w hw 13 rfl)) (mvT hZ (own_w hw 14 rfl)) (by decide) (backOfSH (s := s) (vm0 := s.vm) (W := 1) (own_rm_sInit1 l Z a0 hw [] b1_ b4_ k4_ (.int (0 : Int32)) h4_ n0 (Nat.le_trans Z0 (Nat.le_trans E1_.1 E4_.1)) (A1_.ext E4_) (F2_.ext E4_) (F3_.ext E4_) V4_ g6_) hZ (own_w hw 14 rfl) (own_w hw 10 rfl) (by decide) (by decide) (own_ew hw) H8_) (g := (mkF m 11 #[.val (.int (0 : Int32)), .val (.int c1), .val (.int c2), .val (.int c3), .val (.int c4)] [(.ref b4_), (.ref b1_), (.ref b1_)])) rfl (by rw [hml]; rfl) (Steps.refl _) (a := b1_) (argsL := [(.ref b4_)]) (rest := [(.ref b1_)]) (lenOf own_pd33 rfl) rfl (by show 2 * 0 + _ ≤ _; exact Nat.le_of_eq rfl) (hb hby own_d736) (fun _ _ => ⟨rfl, e4_, (by decide : 0 + 1 + 1 + 4 ≤ _), (by decide : 0 + 4 + 0 + 8 ≤ _)⟩)
  dsimp only [Pt.U, Pt.locs, Pt.cells, Pt.slots] at Y5_ l5_ y5_ z5_ st5_ hQ5_ hSq5_ hgq5_ Cq5_
  subst l5_ y5_ z5_
  obtain ⟨X5_, hS5_, hZ5_, hown5_⟩ := rebS hS0 (by rw [e4_]; exact (Nat.le_trans hk0 (Nat.le_trans E1_.1 E4_.1))) Y5_ hSq5_ hgq5_ hZ hown
  obtain ⟨t, kt, rfl, Nq5_, K5_, r9_, r10_, r11_, r12_⟩ := hQ5_
  have N5_ := Fr.app N0 Nq5_
  refine own_viaH (fun _ kq => st5_.trans kq) ?_
  show own_FinH _ _ _ _ _ _ _ _ _ T5_ (mkF m 14 #[.val (.int (0 : Int32)), .val (.int c1), .val (.int c2), .val (.int c3), .val (.int c4)] [(.ref b1_)])
  have C13_ := C8_.trans Cq5_
  have H13_ := C13_.1
  exact own_retAH X5_ hx Bd.returns Bd.notSynchronized (own_ew hw) hZ5_ hS5_ (Nat.le_refl _) hh C13_ rfl rfl (hb hby own_d737) rfl ⟨b1_, t, kt, rfl, N5_, ((((Keep.refl h0 []).ext E1_).ext E4_).trans K5_ (allS (Or.inr (Nat.le_of_eq g1_.symm)) all0)), (Nat.le_of_eq g1_.symm), r9_, r10_, r11_, r12_⟩ (by decide) (by decide)
theorem own_pd34 : parseMethodDescriptor "(I)C" = some ⟨[.int], some .char⟩ := by decide +kernel
theorem own_pd35 : parseMethodDescriptor "(ICCCC)Ljava/lang/String;" = some ⟨[.int, .char, .char, .char, .char], some (.object "java/lang/String")⟩ := by decide +kernel
theorem own_pd36 : parseMethodDescriptor "(Ljava/lang/String;)Ljava/lang/String;" = some ⟨[(.object "java/lang/String")], some (.object "java/lang/String")⟩ := by decide +kernel
theorem own_pd37 : parseMethodDescriptor "(C)C" = some ⟨[.char], some .char⟩ := by decide +kernel
theorem own_ef_law (m : MethodId) (p1 : Int32) (p2 : Int32) (p3 : Int32) (p4 : Int32) (p5 : Int32) : entryFrame m #[(.int p1), (.int p2), (.int p3), (.int p4), (.int p5)] maxLocals = mkF m 0 #[.val (.int p1), .val (.int p2), .val (.int p3), .val (.int p4), .val (.int p5), .unset, .unset, .unset, .unset, .unset, .unset, .unset, .unset] [] := by (first | (simp [entryFrame, mkF, argsToLocals, Value.category, maxLocals]; done) | rfl)
def own_Q_law (Z : State) (p1 : Int32) (p2 : Int32) (p3 : Int32) (p4 : Int32) (p5 : Int32) (cz : Int32) (fm : Value) (h0 : Heap) (n0 : Nat) (vq : Option Value) (h : Heap) (Lq : List Loc) : Prop := (vq = some (.int (1 : Int32))) ∧ (Fr n0 Lq)
set_option maxRecDepth 65536 in
set_option maxHeartbeats 40000000 in
theorem own_rm_law (l : Launch) (Z : State) (a0 : Array Value) (hw : ∀ d ∈ tables_1, d.before a0 Z = true) (wsq : List Jvm.Cond) (p1 : Int32) (p2 : Int32) (p3 : Int32) (p4 : Int32) (p5 : Int32) (cz : Int32) (fm : Value) (h0 : Heap) (n0 : Nat) (Z0 : n0 ≤ h0.size) (O0 : Old Z n0 h0) (S1 : Sta Z Z.heap "java/lang/String" "COMPACT_STRINGS" "Z" (.int cz)) (P5 : ¬ cz = (0 : Int32)) (S2 : Sta Z Z.heap "jdk/internal/util/Preconditions" "SIOOBE_FORMATTER" "Ljava/util/function/BiFunction;" fm) (r_fm : fm.isRef = true) (S3 : Sta Z Z.heap "java/lang/StringUTF16" "$assertionsDisabled" "Z" (.int (1 : Int32))) (S4 : Sta Z Z.heap "java/lang/StringUTF16" "HI_BYTE_SHIFT" "I" (.int (0 : Int32))) (S5 : Sta Z Z.heap "java/lang/StringUTF16" "LO_BYTE_SHIFT" "I" (.int (8 : Int32))) :
    MetFree l x (head1 (Jvm.Cond.code x code maxLocals ret :: wsq) room_1) (fun aq Uq => aq = #[(.int p1), (.int p2), (.int p3), (.int p4), (.int p5)] ∧ Z.Warmed39 Uq.vm ∧ Uq.heap = h0 ∧ CHv Z own_EL Uq.vm h0) (fun _ _ _ _ _ => True) (fun _ Uq oq Uq' => ∃ vq Lq, oq = .returned vq ∧ own_Q_law Z p1 p2 p3 p4 p5 cz fm h0 n0 vq Uq'.heap Lq ∧ CHr Z own_EL Uq.vm Uq.heap Uq'.vm Uq'.heap ∧ ReturnedEndW Uq oq Uq' Lq room_1.cells room_1.slots) := by
  refine MetFree.of_bodySF (plainFor_of_name own_pn8) hisR ?_
  intro p e s m args below meth cde s₁ Bd hml0 hP hK
  obtain ⟨rfl, hZ, hh, H0⟩ := hP
  have hx := Bd.exec
  have hby := Bd.bytes
  have hml : cde.maxLocals = 13 := hml0
  have hown : s.vm.findClass "com/example/even_rows/evenrows/mapping/SqlNameFoldedPinLaw" = some m.cls := findClass_of_methodNamed Bd.named
  have hnm := (name_of_methodNamed Bd.named Bd.method).1
  have X0 : Stand p l e room_1 (s.setVm s.vm) m #[(.int p1), (.int p2), (.int p3), (.int p4), (.int p5)] below meth cde s₁ [] 0 0 := Stand.of_body Bd
  have e0 : s₁.heap = h0 := by rw [← hh, Bd.state]; rfl
  have N0 := Fr.nil n0
  have hS0 : s.Since s.vm h0.size := (State.WarmedH.refl s).since _
  have hk0 : h0.size ≤ h0.size := Nat.le_refl _
  have C0 : CHr Z own_EL s.vm h0 s.vm h0 := CHr.refl H0
  show own_FinH p e s below Z own_EL (own_Q_law Z p1 p2 p3 p4 p5 cz fm h0 n0) room_1.cells room_1.slots s₁ (entryFrame m #[(.int p1), (.int p2), (.int p3), (.int p4), (.int p5)] maxLocals)
  rw [own_ef_law m p1 p2 p3 p4 p5]
  refine own_viaH (fun _ kq => XS.iloadN X0.here hx rfl (hb hby at_0) rfl kq) ?_
  show own_FinH _ _ _ _ _ _ _ _ _ s₁ (mkF m 1 #[.val (.int p1), .val (.int p2), .val (.int p3), .val (.int p4), .val (.int p5), .unset, .unset, .unset, .unset, .unset, .unset, .unset, .unset] [(.int p1)])
  refine own_viaH (fun _ kq => X0.ldcInt hx hown (mvT hZ (own_w hw 0 rfl)) (g := (mkF m 1 #[.val (.int p1), .val (.int p2), .val (.int p3), .val (.int p4), .val (.int p5), .unset, .unset, .unset, .unset, .unset, .unset, .unset, .unset] [(.int p1)])) rfl (hb hby at_1) _ kq) ?_
  show own_FinH _ _ _ _ _ _ _ _ _ s₁ (mkF m 3 #[.val (.int p1), .val (.int p2), .val (.int p3), .val (.int p4), .val (.int p5), .unset, .unset, .unset, .unset, .unset, .unset, .unset, .unset] [(.int (2147483647 : Int32)), (.int p1)])
  refine own_viaH (fun _ kq => XS.iand X0.here hx rfl (hb hby at_3) rfl kq) ?_
  refine own_viaH (fun _ kq => XS.iconst X0.here hx rfl (hb hby at_4) kq) ?_
  show own_FinH _ _ _ _ _ _ _ _ _ s₁ (mkF m 5 #[.val (.int p1), .val (.int p2), .val (.int p3), .val (.int p4), .val (.int p5), .unset, .unset, .unset, .unset, .unset, .unset, .unset, .unset] [(.int (5 : Int32)), (.int (p1 &&& (2147483647 : Int32)))])
  refine own_viaH (fun _ kq => iremM (g := (mkF m 5 #[.val (.int p1), .val (.int p2), .val (.int p3), .val (.int p4), .val (.int p5), .unset, .unset, .unset, .unset, .unset, .unset, .unset, .unset] [(.int (5 : Int32)), (.int (p1 &&& (2147483647 : Int32)))])) X0 hx rfl (hb hby at_5) rfl (by decide) kq) ?_
  show own_FinH _ _ _ _ _ _ _ _ _ s₁ (mkF m 6 #[.val (.int p1), .val (.int p2), .val (.int p3), .val (.int p4), .val (.int p5), .unset, .unset, .unset, .unset, .unset, .unset, .unset, .unset] [(.int ((p1 &&& (2147483647 : Int32)) % (5 : Int32)))])
  refine own_viaH (fun _ kq => XS.istore X0.here hx rfl (hb hby at_6) rfl (l' := #[.val (.int p1), .val (.int p2), .val (.int p3), .val (.int p4), .val (.int p5), .val (.int ((p1 &&& (2147483647 : Int32)) % (5 : Int32))), .unset, .unset, .unset, .unset, .unset, .unset, .unset]) rfl kq) ?_
  refine own_viaH (fun _ kq => XS.iloadN X0.here hx rfl (hb hby at_8) rfl kq) ?_
  show own_FinH _ _ _ _ _ _ _ _ _ s₁ (mkF m 9 #[.val (.int p1), .val (.int p2), .val (.int p3), .val (.int p4), .val (.int p5), .val (.int ((p1 &&& (2147483647 : Int32)) % (5 : Int32))), .unset, .unset, .unset, .unset, .unset, .unset, .unset] [(.int p2)])
  obtain ⟨_, _, ⟨T1_, L1_, k1_, n1_⟩, -, X1_, ⟨Lc1_, hQ1_, l1_, y1_, z1_⟩, st1_⟩ := Jvm.LawKit.callS X0 hx (y := (⟨"com/example/even_rows/evenrows/mapping/SqlNameFoldedPinLaw", "draw", "(I)C"⟩ : MethodName)) hown (mvT hZ (own_w hw 1 rfl)) (mvT hZ (own_w hw 2 rfl)) (mvT hZ (own_w hw 3 rfl)) (mvT hZ (own_w hw 4 rfl)) (by decide) (backOf (W := 0) (own_rm_draw l Z a0 hw [] p2 h0 n0 Z0 ) hZ (own_w hw 4 rfl) (own_w hw 3 rfl) (by decide) (by decide)) (g := (mkF m 9 #[.val (.int p1), .val (.int p2), .val (.int p3), .val (.int p4), .val (.int p5), .val (.int ((p1 &&& (2147483647 : Int32)) % (5 : Int32))), .unset, .unset, .unset, .unset, .unset, .unset, .unset] [(.int p2)])) rfl (by rw [hml]; rfl) (argsL := [(.int p2)]) (rest := []) (lenOf own_pd34 rfl) rfl (by show 2 * 0 + _ ≤ _; exact Nat.le_of_eq rfl) (hb hby at_9) (fun _ _ => ⟨rfl, e0, (by decide : 0 + 0 ≤ _), (by decide : 0 + 0 ≤ _)⟩)
  dsimp only [Pt.U, Pt.locs, Pt.cells, Pt.slots] at X1_ l1_ y1_ z1_ st1_ hQ1_
  subst l1_ y1_ z1_
  obtain ⟨c1, rfl, Nq1_, hh1_, hc1⟩ := hQ1_
  have N1_ := Fr.app N0 Nq1_
  refine own_viaH (fun _ kq => st1_ _ kq) ?_
  show own_FinH _ _ _ _ _ _ _ _ _ T1_ (mkF m 12 #[.val (.int p1), .val (.int p2), .val (.int p3), .val (.int p4), .val (.int p5), .val (.int ((p1 &&& (2147483647 : Int32)) % (5 : Int32))), .unset, .unset, .unset, .unset, .unset, .unset, .unset] [(.int c1)])
  refine own_viaH (fun _ kq => XS.istore X1_.here hx rfl (hb hby at_12) rfl (l' := #[.val (.int p1), .val (.int p2), .val (.int p3), .val (.int p4), .val (.int p5), .val (.int ((p1 &&& (2147483647 : Int32)) % (5 : Int32))), .val (.int c1), .unset, .unset, .unset, .unset, .unset, .unset]) rfl kq) ?_
  refine own_viaH (fun _ kq => XS.iloadN X1_.here hx rfl (hb hby at_14) rfl kq) ?_
  show own_FinH _ _ _ _ _ _ _ _ _ T1_ (mkF m 15 #[.val (.int p1), .val (.int p2), .val (.int p3), .val (.int p4), .val (.int p5), .val (.int ((p1 &&& (2147483647 : Int32)) % (5 : Int32))), .val (.int c1), .unset, .unset, .unset, .unset, .unset, .unset] [(.int p3)])
  obtain ⟨_, _, ⟨T2_, L2_, k2_, n2_⟩, -, X2_, ⟨Lc2_, hQ2_, l2_, y2_, z2_⟩, st2_⟩ := Jvm.LawKit.callS X1_ hx (y := (⟨"com/example/even_rows/evenrows/mapping/SqlNameFoldedPinLaw", "draw", "(I)C"⟩ : MethodName)) hown (mvT hZ (own_w hw 1 rfl)) (mvT hZ (own_w hw 2 rfl)) (mvT hZ (own_w hw 3 rfl)) (mvT hZ (own_w hw 4 rfl)) (by decide) (backOf (W := 0) (own_rm_draw l Z a0 hw [] p3 h0 n0 Z0 ) hZ (own_w hw 4 rfl) (own_w hw 3 rfl) (by decide) (by decide)) (g := (mkF m 15 #[.val (.int p1), .val (.int p2), .val (.int p3), .val (.int p4), .val (.int p5), .val (.int ((p1 &&& (2147483647 : Int32)) % (5 : Int32))), .val (.int c1), .unset, .unset, .unset, .unset, .unset, .unset] [(.int p3)])) rfl (by rw [hml]; rfl) (argsL := [(.int p3)]) (rest := []) (lenOf own_pd34 rfl) rfl (by show 2 * 0 + _ ≤ _; exact Nat.le_of_eq rfl) (hb hby at_15) (fun _ _ => ⟨rfl, hh1_, (by decide : 0 + 0 + 0 ≤ _), (by decide : 0 + 0 + 0 ≤ _)⟩)
  dsimp only [Pt.U, Pt.locs, Pt.cells, Pt.slots] at X2_ l2_ y2_ z2_ st2_ hQ2_
  subst l2_ y2_ z2_
  obtain ⟨c2, rfl, Nq2_, hh2_, hc2⟩ := hQ2_
  have N2_ := Fr.app N1_ Nq2_
  refine own_viaH (fun _ kq => st2_ _ kq) ?_
  show own_FinH _ _ _ _ _ _ _ _ _ T2_ (mkF m 18 #[.val (.int p1), .val (.int p2), .val (.int p3), .val (.int p4), .val (.int p5), .val (.int ((p1 &&& (2147483647 : Int32)) % (5 : Int32))), .val (.int c1), .unset, .unset, .unset, .unset, .unset, .unset] [(.int c2)])
  refine own_viaH (fun _ kq => XS.istore X2_.here hx rfl (hb hby at_18) rfl (l' := #[.val (.int p1), .val (.int p2), .val (.int p3), .val (.int p4), .val (.int p5), .val (.int ((p1 &&& (2147483647 : Int32)) % (5 : Int32))), .val (.int c1), .val (.int c2), .unset, .unset, .unset, .unset, .unset]) rfl kq) ?_
  refine own_viaH (fun _ kq => XS.iloadN X2_.here hx rfl (hb hby at_20) rfl kq) ?_
  show own_FinH _ _ _ _ _ _ _ _ _ T2_ (mkF m 21 #[.val (.int p1), .val (.int p2), .val (.int p3), .val (.int p4), .val (.int p5), .val (.int ((p1 &&& (2147483647 : Int32)) % (5 : Int32))), .val (.int c1), .val (.int c2), .unset, .unset, .unset, .unset, .unset] [(.int p4)])
  obtain ⟨_, _, ⟨T3_, L3_, k3_, n3_⟩, -, X3_, ⟨Lc3_, hQ3_, l3_, y3_, z3_⟩, st3_⟩ := Jvm.LawKit.callS X2_ hx (y := (⟨"com/example/even_rows/evenrows/mapping/SqlNameFoldedPinLaw", "draw", "(I)C"⟩ : MethodName)) hown (mvT hZ (own_w hw 1 rfl)) (mvT hZ (own_w hw 2 rfl)) (mvT hZ (own_w hw 3 rfl)) (mvT hZ (own_w hw 4 rfl)) (by decide) (backOf (W := 0) (own_rm_draw l Z a0 hw [] p4 h0 n0 Z0 ) hZ (own_w hw 4 rfl) (own_w hw 3 rfl) (by decide) (by decide)) (g := (mkF m 21 #[.val (.int p1), .val (.int p2), .val (.int p3), .val (.int p4), .val (.int p5), .val (.int ((p1 &&& (2147483647 : Int32)) % (5 : Int32))), .val (.int c1), .val (.int c2), .unset, .unset, .unset, .unset, .unset] [(.int p4)])) rfl (by rw [hml]; rfl) (argsL := [(.int p4)]) (rest := []) (lenOf own_pd34 rfl) rfl (by show 2 * 0 + _ ≤ _; exact Nat.le_of_eq rfl) (hb hby at_21) (fun _ _ => ⟨rfl, hh2_, (by decide : 0 + 0 + 0 + 0 ≤ _), (by decide : 0 + 0 + 0 + 0 ≤ _)⟩)
  dsimp only [Pt.U, Pt.locs, Pt.cells, Pt.slots] at X3_ l3_ y3_ z3_ st3_ hQ3_
  subst l3_ y3_ z3_
  obtain ⟨c3, rfl, Nq3_, hh3_, hc3⟩ := hQ3_
  have N3_ := Fr.app N2_ Nq3_
  refine own_viaH (fun _ kq => st3_ _ kq) ?_
  show own_FinH _ _ _ _ _ _ _ _ _ T3_ (mkF m 24 #[.val (.int p1), .val (.int p2), .val (.int p3), .val (.int p4), .val (.int p5), .val (.int ((p1 &&& (2147483647 : Int32)) % (5 : Int32))), .val (.int c1), .val (.int c2), .unset, .unset, .unset, .unset, .unset] [(.int c3)])
  refine own_viaH (fun _ kq => XS.istore X3_.here hx rfl (hb hby at_24) rfl (l' := #[.val (.int p1), .val (.int p2), .val (.int p3), .val (.int p4), .val (.int p5), .val (.int ((p1 &&& (2147483647 : Int32)) % (5 : Int32))), .val (.int c1), .val (.int c2), .val (.int c3), .unset, .unset, .unset, .unset]) rfl kq) ?_
  refine own_viaH (fun _ kq => XS.iload X3_.here hx rfl (hb hby at_26) rfl kq) ?_
  show own_FinH _ _ _ _ _ _ _ _ _ T3_ (mkF m 28 #[.val (.int p1), .val (.int p2), .val (.int p3), .val (.int p4), .val (.int p5), .val (.int ((p1 &&& (2147483647 : Int32)) % (5 : Int32))), .val (.int c1), .val (.int c2), .val (.int c3), .unset, .unset, .unset, .unset] [(.int p5)])
  obtain ⟨_, _, ⟨T4_, L4_, k4_, n4_⟩, -, X4_, ⟨Lc4_, hQ4_, l4_, y4_, z4_⟩, st4_⟩ := Jvm.LawKit.callS X3_ hx (y := (⟨"com/example/even_rows/evenrows/mapping/SqlNameFoldedPinLaw", "draw", "(I)C"⟩ : MethodName)) hown (mvT hZ (own_w hw 1 rfl)) (mvT hZ (own_w hw 2 rfl)) (mvT hZ (own_w hw 3 rfl)) (mvT hZ (own_w hw 4 rfl)) (by decide) (backOf (W := 0) (own_rm_draw l Z a0 hw [] p5 h0 n0 Z0 ) hZ (own_w hw 4 rfl) (own_w hw 3 rfl) (by decide) (by decide)) (g := (mkF m 28 #[.val (.int p1), .val (.int p2), .val (.int p3), .val (.int p4), .val (.int p5), .val (.int ((p1 &&& (2147483647 : Int32)) % (5 : Int32))), .val (.int c1), .val (.int c2), .val (.int c3), .unset, .unset, .unset, .unset] [(.int p5)])) rfl (by rw [hml]; rfl) (argsL := [(.int p5)]) (rest := []) (lenOf own_pd34 rfl) rfl (by show 2 * 0 + _ ≤ _; exact Nat.le_of_eq rfl) (hb hby at_28) (fun _ _ => ⟨rfl, hh3_, (by decide : 0 + 0 + 0 + 0 + 0 ≤ _), (by decide : 0 + 0 + 0 + 0 + 0 ≤ _)⟩)
  dsimp only [Pt.U, Pt.locs, Pt.cells, Pt.slots] at X4_ l4_ y4_ z4_ st4_ hQ4_
  subst l4_ y4_ z4_
  obtain ⟨c4, rfl, Nq4_, hh4_, hc4⟩ := hQ4_
  have N4_ := Fr.app N3_ Nq4_
  refine own_viaH (fun _ kq => st4_ _ kq) ?_
  show own_FinH _ _ _ _ _ _ _ _ _ T4_ (mkF m 31 #[.val (.int p1), .val (.int p2), .val (.int p3), .val (.int p4), .val (.int p5), .val (.int ((p1 &&& (2147483647 : Int32)) % (5 : Int32))), .val (.int c1), .val (.int c2), .val (.int c3), .unset, .unset, .unset, .unset] [(.int c4)])
  refine own_viaH (fun _ kq => XS.istore X4_.here hx rfl (hb hby at_31) rfl (l' := #[.val (.int p1), .val (.int p2), .val (.int p3), .val (.int p4), .val (.int p5), .val (.int ((p1 &&& (2147483647 : Int32)) % (5 : Int32))), .val (.int c1), .val (.int c2), .val (.int c3), .val (.int c4), .unset, .unset, .unset]) rfl kq) ?_
  have s33 : ∀ (nn : Int32) (hnn : own_05 nn), own_FinH p e s below Z own_EL (own_Q_law Z p1 p2 p3 p4 p5 cz fm h0 n0) room_1.cells room_1.slots T4_ (mkF m 33 #[.val (.int p1), .val (.int p2), .val (.int p3), .val (.int p4), .val (.int p5), .val (.int nn), .val (.int c1), .val (.int c2), .val (.int c3), .val (.int c4), .unset, .unset, .unset] []) := by
    intro nn hnn
    rcases hnn with rfl | rfl | rfl | rfl | rfl
    · show own_FinH _ _ _ _ _ _ _ _ _ T4_ (mkF m 33 #[.val (.int p1), .val (.int p2), .val (.int p3), .val (.int p4), .val (.int p5), .val (.int (0 : Int32)), .val (.int c1), .val (.int c2), .val (.int c3), .val (.int c4), .unset, .unset, .unset] [])
      refine own_viaH (fun _ kq => XS.iload X4_.here hx rfl (hb hby at_33) rfl kq) ?_
      refine own_viaH (fun _ kq => XS.iload X4_.here hx rfl (hb hby at_35) rfl kq) ?_
      refine own_viaH (fun _ kq => XS.iload X4_.here hx rfl (hb hby at_37) rfl kq) ?_
      refine own_viaH (fun _ kq => XS.iload X4_.here hx rfl (hb hby at_39) rfl kq) ?_
      refine own_viaH (fun _ kq => XS.iload X4_.here hx rfl (hb hby at_41) rfl kq) ?_
      show own_FinH _ _ _ _ _ _ _ _ _ T4_ (mkF m 43 #[.val (.int p1), .val (.int p2), .val (.int p3), .val (.int p4), .val (.int p5), .val (.int (0 : Int32)), .val (.int c1), .val (.int c2), .val (.int c3), .val (.int c4), .unset, .unset, .unset] [(.int c4), (.int c3), (.int c2), (.int c1), (.int (0 : Int32))])
      have hrs : own_chs ([] : List Int32) := own_chs_nil
      have hrd : own_chs ([] : List Int32) := own_fcs0 hrs
      obtain ⟨_, _, ⟨T5_, L5_, k5_, n5_⟩, -, Y5_, hSq5_, hgq5_, ⟨Lc5_, hQ5_, l5_, y5_, z5_, Cq5_⟩, st5_⟩ := callSS X4_ hx (y := (⟨"com/example/even_rows/evenrows/mapping/SqlNameFoldedPinLaw", "make", "(ICCCC)Ljava/lang/String;"⟩ : MethodName)) hown (mvT hZ (own_w hw 5 rfl)) (mvT hZ (own_w hw 6 rfl)) (mvT hZ (own_w hw 3 rfl)) (mvT hZ (own_w hw 7 rfl)) (by decide) (backOfSH (s := s) (vm0 := s.vm) (W := 0) (own_rm_make0 l Z a0 hw [] c1 c2 c3 c4 h0 n0 Z0 ) hZ (own_w hw 7 rfl) (own_w hw 3 rfl) (by decide) (by decide) (own_ew hw) H0) (g := (mkF m 43 #[.val (.int p1), .val (.int p2), .val (.int p3), .val (.int p4), .val (.int p5), .val (.int (0 : Int32)), .val (.int c1), .val (.int c2), .val (.int c3), .val (.int c4), .unset, .unset, .unset] [(.int c4), (.int c3), (.int c2), (.int c1), (.int (0 : Int32))])) rfl (by rw [hml]; rfl) (argsL := [(.int (0 : Int32)), (.int c1), (.int c2), (.int c3), (.int c4)]) (rest := []) (lenOf own_pd35 rfl) rfl (by show 2 * 0 + _ ≤ _; exact Nat.le_of_eq rfl) (hb hby at_43) (fun _ _ => ⟨rfl, hh4_, (by decide : 0 + 0 + 0 + 0 + 0 + 6 ≤ _), (by decide : 0 + 0 + 0 + 0 + 0 + 12 ≤ _)⟩)
      dsimp only [Pt.U, Pt.locs, Pt.cells, Pt.slots] at Y5_ l5_ y5_ z5_ st5_ hQ5_ hSq5_ hgq5_ Cq5_
      subst l5_ y5_ z5_
      obtain ⟨X5_, hS5_, hZ5_, hown5_⟩ := rebS hS0 (by rw [hh4_]; exact hk0) Y5_ hSq5_ hgq5_ hZ hown
      obtain ⟨xA, uA, kuA, rfl, Nq5_, K5_, r6_, r7_, r8_, r9_, r10_⟩ := hQ5_
      have N5_ := Fr.app N4_ Nq5_
      refine own_viaH (fun _ kq => st5_.trans kq) ?_
      show own_FinH _ _ _ _ _ _ _ _ _ T5_ (mkF m 46 #[.val (.int p1), .val (.int p2), .val (.int p3), .val (.int p4), .val (.int p5), .val (.int (0 : Int32)), .val (.int c1), .val (.int c2), .val (.int c3), .val (.int c4), .unset, .unset, .unset] [(.ref xA)])
      refine own_viaH (fun _ kq => XS.astore X5_.here hx rfl (hb hby at_46) rfl rfl (l' := #[.val (.int p1), .val (.int p2), .val (.int p3), .val (.int p4), .val (.int p5), .val (.int (0 : Int32)), .val (.int c1), .val (.int c2), .val (.int c3), .val (.int c4), .val (.ref xA), .unset, .unset]) rfl kq) ?_
      refine own_viaH (fun _ kq => XS.aload X5_.here hx rfl (hb hby at_48) rfl rfl kq) ?_
      show own_FinH _ _ _ _ _ _ _ _ _ T5_ (mkF m 50 #[.val (.int p1), .val (.int p2), .val (.int p3), .val (.int p4), .val (.int p5), .val (.int (0 : Int32)), .val (.int c1), .val (.int c2), .val (.int c3), .val (.int c4), .val (.ref xA), .unset, .unset] [(.ref xA)])
      obtain ⟨_, _, ⟨T11_, L11_, k11_, n11_⟩, -, X11_, ⟨Lc11_, hQ11_, l11_, y11_, z11_⟩, st11_⟩ := Jvm.LawKit.callS X5_ hx (y := (⟨"com/example/even_rows/evenrows/mapping/SqlName", "folded", "(Ljava/lang/String;)Ljava/lang/String;"⟩ : MethodName)) hown5_ (mvT hZ5_ (own_w hw 30 rfl)) (mvT hZ5_ (own_w hw 31 rfl)) (mvT hZ5_ (own_w hw 32 rfl)) (mvT hZ5_ (own_w hw 33 rfl)) (by decide) (backOf (W := 0) (own_rm_fold0 l Z a0 hw [] xA cz uA kuA (0 : Int32) (0 : Int32) [] fm T5_.heap n0 (Nat.le_trans Z0 K5_.1) (O0.keep K5_ all0) S1 (by first | assumption | decide) S2 r_fm S3 S4 S5 r7_ r8_ r9_ r10_ own_cod_nil hrs) hZ5_ (own_w hw 33 rfl) (own_w hw 32 rfl) (by decide) (by decide)) (g := (mkF m 50 #[.val (.int p1), .val (.int p2), .val (.int p3), .val (.int p4), .val (.int p5), .val (.int (0 : Int32)), .val (.int c1), .val (.int c2), .val (.int c3), .val (.int c4), .val (.ref xA), .unset, .unset] [(.ref xA)])) rfl (by rw [hml]; rfl) (argsL := [(.ref xA)]) (rest := []) (lenOf own_pd36 rfl) rfl (by show 2 * 0 + _ ≤ _; exact Nat.le_of_eq rfl) (hb hby at_50) (fun _ _ => ⟨rfl, rfl, (by decide : 0 + 0 + 0 + 0 + 0 + 6 + 5 ≤ _), (by decide : 0 + 0 + 0 + 0 + 0 + 12 + 24 ≤ _)⟩)
      dsimp only [Pt.U, Pt.locs, Pt.cells, Pt.slots] at X11_ l11_ y11_ z11_ st11_ hQ11_
      subst l11_ y11_ z11_
      obtain ⟨xB, uB, kuB, cdB, MB, wsB, rfl, Nq11_, K11_, r12_, r13_, r14_, r15_, r16_, hcB⟩ := hQ11_
      have N11_ := Fr.app N5_ Nq11_
      refine own_viaH (fun _ kq => st11_ _ kq) ?_
      show own_FinH _ _ _ _ _ _ _ _ _ T11_ (mkF m 53 #[.val (.int p1), .val (.int p2), .val (.int p3), .val (.int p4), .val (.int p5), .val (.int (0 : Int32)), .val (.int c1), .val (.int c2), .val (.int c3), .val (.int c4), .val (.ref xA), .unset, .unset] [(.ref xB)])
      refine own_viaH (fun _ kq => XS.astore X11_.here hx rfl (hb hby at_53) rfl rfl (l' := #[.val (.int p1), .val (.int p2), .val (.int p3), .val (.int p4), .val (.int p5), .val (.int (0 : Int32)), .val (.int c1), .val (.int c2), .val (.int c3), .val (.int c4), .val (.ref xA), .val (.ref xB), .unset]) rfl kq) ?_
      refine own_viaH (fun _ kq => XS.aload X11_.here hx rfl (hb hby at_55) rfl rfl kq) ?_
      refine own_viaH (fun _ kq => XS.ifnullNo X11_.here hx rfl (hb hby at_57) rfl kq) ?_
      show own_FinH _ _ _ _ _ _ _ _ _ T11_ (mkF m 60 #[.val (.int p1), .val (.int p2), .val (.int p3), .val (.int p4), .val (.int p5), .val (.int (0 : Int32)), .val (.int c1), .val (.int c2), .val (.int c3), .val (.int c4), .val (.ref xA), .val (.ref xB), .unset] [])
      refine own_viaH (fun _ kq => XS.aload X11_.here hx rfl (hb hby at_60) rfl rfl kq) ?_
      show own_FinH _ _ _ _ _ _ _ _ _ T11_ (mkF m 62 #[.val (.int p1), .val (.int p2), .val (.int p3), .val (.int p4), .val (.int p5), .val (.int (0 : Int32)), .val (.int c1), .val (.int c2), .val (.int c3), .val (.int c4), .val (.ref xA), .val (.ref xB), .unset] [(.ref xB)])
      obtain ⟨cq17_, kq17_, q17_a, q17_b, q17_c⟩ := isOf hZ5_ rfl r13_
      obtain ⟨_, _, ⟨T17_, L17_, k17_, n17_⟩, -, X17_, ⟨Lc17_, hQ17_, l17_, y17_, z17_⟩, st17_⟩ := X11_.virtualBack hx (y := (⟨"java/lang/String", "length", "()I"⟩ : MethodName)) (z := (⟨"java/lang/String", "length", "()I"⟩ : MethodName)) hown5_ (mvT hZ5_ (own_w hw 126 rfl)) (mvT hZ5_ (own_w hw 38 rfl)) (notFace_of_selects (args := #[]) (mvT hZ5_ (own_w hw 40 rfl))) (mvT hZ5_ (own_w hw 40 rfl)) (mvT hZ5_ (own_w hw 39 rfl)) (by decide) (backOf (W := 0) (own_rm_len l Z a0 hw [] xB cz uB kuB cdB MB wsB ([] : List Int32) T11_.heap n0 (Nat.le_trans Z0 (Nat.le_trans K5_.1 K11_.1)) ((O0.keep K5_ all0).keep K11_ all0) S1 (by first | assumption | decide) r13_ r14_ r15_ r16_ hcB (by simp) hrd) hZ5_ (own_w hw 41 rfl) (own_w hw 10 rfl) (by decide) (by decide)) q17_a q17_c (g := (mkF m 62 #[.val (.int p1), .val (.int p2), .val (.int p3), .val (.int p4), .val (.int p5), .val (.int (0 : Int32)), .val (.int c1), .val (.int c2), .val (.int c3), .val (.int c4), .val (.ref xA), .val (.ref xB), .unset] [(.ref xB)])) rfl (by rw [hml]; rfl) (Steps.refl _) (argsL := []) (rest := []) (lenOf own_pd21 rfl) rfl (by show 2 * 0 + _ ≤ _; exact Nat.le_of_eq rfl) (hb hby at_62) (fun _ _ => ⟨rfl, rfl, (by decide : 0 + 0 + 0 + 0 + 0 + 6 + 5 + 0 ≤ _), (by decide : 0 + 0 + 0 + 0 + 0 + 12 + 24 + 0 ≤ _)⟩)
      dsimp only [Pt.U, Pt.locs, Pt.cells, Pt.slots] at X17_ l17_ y17_ z17_ st17_ hQ17_
      subst l17_ y17_ z17_
      obtain ⟨rfl, Nq17_, hh17_⟩ := hQ17_
      have N17_ := Fr.app N11_ Nq17_
      refine own_viaH (fun _ kq => st17_.trans kq) ?_
      show own_FinH _ _ _ _ _ _ _ _ _ T17_ (mkF m 65 #[.val (.int p1), .val (.int p2), .val (.int p3), .val (.int p4), .val (.int p5), .val (.int (0 : Int32)), .val (.int c1), .val (.int c2), .val (.int c3), .val (.int c4), .val (.ref xA), .val (.ref xB), .unset] [(.int (Int32.ofNat ([] : List Int32).length))])
      refine own_viaH (fun _ kq => XS.iload X17_.here hx rfl (hb hby at_65) rfl kq) ?_
      refine own_viaH (fun _ kq => XS.icmpYes X17_.here hx rfl (pc0 := 67) (pc' := 72) rfl (hb hby at_67) rfl (teq rfl).1 (by decide) (by decide) kq) ?_
      show own_FinH _ _ _ _ _ _ _ _ _ T17_ (mkF m 72 #[.val (.int p1), .val (.int p2), .val (.int p3), .val (.int p4), .val (.int p5), .val (.int (0 : Int32)), .val (.int c1), .val (.int c2), .val (.int c3), .val (.int c4), .val (.ref xA), .val (.ref xB), .unset] [])
      refine own_viaH (fun _ kq => XS.iconst X17_.here hx rfl (hb hby at_72) kq) ?_
      refine own_viaH (fun _ kq => XS.istore X17_.here hx rfl (hb hby at_73) rfl (l' := #[.val (.int p1), .val (.int p2), .val (.int p3), .val (.int p4), .val (.int p5), .val (.int (0 : Int32)), .val (.int c1), .val (.int c2), .val (.int c3), .val (.int c4), .val (.ref xA), .val (.ref xB), .val (.int (1 : Int32))]) rfl kq) ?_
      refine own_viaH (fun _ kq => XS.iload X17_.here hx rfl (hb hby at_75) rfl kq) ?_
      refine own_viaH (fun _ kq => XS.ifYes X17_.here hx rfl (pc0 := 77) (pc' := 106) rfl (hb hby at_77) rfl ((if0 _ _).trans (flt (by decide)).2.2.2) (by decide) (by decide) kq) ?_
      show own_FinH _ _ _ _ _ _ _ _ _ T17_ (mkF m 106 #[.val (.int p1), .val (.int p2), .val (.int p3), .val (.int p4), .val (.int p5), .val (.int (0 : Int32)), .val (.int c1), .val (.int c2), .val (.int c3), .val (.int c4), .val (.ref xA), .val (.ref xB), .val (.int (1 : Int32))] [])
      refine own_viaH (fun _ kq => XS.iload X17_.here hx rfl (hb hby at_106) rfl kq) ?_
      refine own_viaH (fun _ kq => XS.iconst X17_.here hx rfl (hb hby at_108) kq) ?_
      refine own_viaH (fun _ kq => XS.icmpYes X17_.here hx rfl (pc0 := 109) (pc' := 138) rfl (hb hby at_109) rfl (flt (by decide)).2.2.2 (by decide) (by decide) kq) ?_
      show own_FinH _ _ _ _ _ _ _ _ _ T17_ (mkF m 138 #[.val (.int p1), .val (.int p2), .val (.int p3), .val (.int p4), .val (.int p5), .val (.int (0 : Int32)), .val (.int c1), .val (.int c2), .val (.int c3), .val (.int c4), .val (.ref xA), .val (.ref xB), .val (.int (1 : Int32))] [])
      refine own_viaH (fun _ kq => XS.iload X17_.here hx rfl (hb hby at_138) rfl kq) ?_
      refine own_viaH (fun _ kq => XS.iconst X17_.here hx rfl (hb hby at_140) kq) ?_
      refine own_viaH (fun _ kq => XS.icmpYes X17_.here hx rfl (pc0 := 141) (pc' := 170) rfl (hb hby at_141) rfl (flt (by decide)).2.2.2 (by decide) (by decide) kq) ?_
      show own_FinH _ _ _ _ _ _ _ _ _ T17_ (mkF m 170 #[.val (.int p1), .val (.int p2), .val (.int p3), .val (.int p4), .val (.int p5), .val (.int (0 : Int32)), .val (.int c1), .val (.int c2), .val (.int c3), .val (.int c4), .val (.ref xA), .val (.ref xB), .val (.int (1 : Int32))] [])
      refine own_viaH (fun _ kq => XS.iload X17_.here hx rfl (hb hby at_170) rfl kq) ?_
      show own_FinH _ _ _ _ _ _ _ _ _ T17_ (mkF m 172 #[.val (.int p1), .val (.int p2), .val (.int p3), .val (.int p4), .val (.int p5), .val (.int (0 : Int32)), .val (.int c1), .val (.int c2), .val (.int c3), .val (.int c4), .val (.ref xA), .val (.ref xB), .val (.int (1 : Int32))] [(.int (0 : Int32))])
      refine own_viaH (fun _ kq => XS.iconst X17_.here hx rfl (hb hby at_172) kq) ?_
      refine own_viaH (fun _ kq => XS.icmpYes X17_.here hx rfl (pc0 := 173) (pc' := 202) rfl (hb hby at_173) rfl (flt (by decide)).2.2.2 (by decide) (by decide) kq) ?_
      show own_FinH _ _ _ _ _ _ _ _ _ T17_ (mkF m 202 #[.val (.int p1), .val (.int p2), .val (.int p3), .val (.int p4), .val (.int p5), .val (.int (0 : Int32)), .val (.int c1), .val (.int c2), .val (.int c3), .val (.int c4), .val (.ref xA), .val (.ref xB), .val (.int (1 : Int32))] [])
      refine own_viaH (fun _ kq => XS.iload X17_.here hx rfl (hb hby at_202) rfl kq) ?_
      show own_FinH _ _ _ _ _ _ _ _ _ T17_ (mkF m 204 #[.val (.int p1), .val (.int p2), .val (.int p3), .val (.int p4), .val (.int p5), .val (.int (0 : Int32)), .val (.int c1), .val (.int c2), .val (.int c3), .val (.int c4), .val (.ref xA), .val (.ref xB), .val (.int (1 : Int32))] [(.int (1 : Int32))])
      have C18_ := C0.trans Cq5_
      have H18_ := C18_.1
      have C19_ := C18_.trans (CHr.keep K11_ sf0 H18_)
      have H19_ := C19_.1
      exact own_retNH X17_ hx (t := .boolean) Bd.returns Bd.notSynchronized (own_ew hw) hZ5_ hS5_ (Nat.le_trans (Nat.le_refl _) K11_.1) hh C19_ (by simp) (hb hby at_204) hh17_ (by decide) ⟨rfl, N17_⟩ (by decide) (by decide)
    · show own_FinH _ _ _ _ _ _ _ _ _ T4_ (mkF m 33 #[.val (.int p1), .val (.int p2), .val (.int p3), .val (.int p4), .val (.int p5), .val (.int (1 : Int32)), .val (.int c1), .val (.int c2), .val (.int c3), .val (.int c4), .unset, .unset, .unset] [])
      refine own_viaH (fun _ kq => XS.iload X4_.here hx rfl (hb hby at_33) rfl kq) ?_
      refine own_viaH (fun _ kq => XS.iload X4_.here hx rfl (hb hby at_35) rfl kq) ?_
      refine own_viaH (fun _ kq => XS.iload X4_.here hx rfl (hb hby at_37) rfl kq) ?_
      refine own_viaH (fun _ kq => XS.iload X4_.here hx rfl (hb hby at_39) rfl kq) ?_
      refine own_viaH (fun _ kq => XS.iload X4_.here hx rfl (hb hby at_41) rfl kq) ?_
      show own_FinH _ _ _ _ _ _ _ _ _ T4_ (mkF m 43 #[.val (.int p1), .val (.int p2), .val (.int p3), .val (.int p4), .val (.int p5), .val (.int (1 : Int32)), .val (.int c1), .val (.int c2), .val (.int c3), .val (.int c4), .unset, .unset, .unset] [(.int c4), (.int c3), (.int c2), (.int c1), (.int (1 : Int32))])
      have hrs : own_chs [c1] := (own_ch1 hc1)
      have hrd : own_chs [own_fc c1] := own_fcs1 hrs
      obtain ⟨_, _, ⟨T20_, L20_, k20_, n20_⟩, -, X20_, ⟨Lc20_, hQ20_, l20_, y20_, z20_⟩, st20_⟩ := Jvm.LawKit.callS X4_ hx (y := (⟨"com/example/even_rows/evenrows/mapping/SqlNameFoldedPinLaw", "make", "(ICCCC)Ljava/lang/String;"⟩ : MethodName)) hown (mvT hZ (own_w hw 5 rfl)) (mvT hZ (own_w hw 6 rfl)) (mvT hZ (own_w hw 3 rfl)) (mvT hZ (own_w hw 7 rfl)) (by decide) (backOf (W := 0) (own_rm_make1 l Z a0 hw [] c1 c2 c3 c4 cz h0 n0 Z0 O0 S1 (by first | assumption | decide) S3 S4 S5 (by first | assumption | decide) (by first | assumption | decide) (by first | assumption | decide) (by first | assumption | decide)) hZ (own_w hw 7 rfl) (own_w hw 3 rfl) (by decide) (by decide)) (g := (mkF m 43 #[.val (.int p1), .val (.int p2), .val (.int p3), .val (.int p4), .val (.int p5), .val (.int (1 : Int32)), .val (.int c1), .val (.int c2), .val (.int c3), .val (.int c4), .unset, .unset, .unset] [(.int c4), (.int c3), (.int c2), (.int c1), (.int (1 : Int32))])) rfl (by rw [hml]; rfl) (argsL := [(.int (1 : Int32)), (.int c1), (.int c2), (.int c3), (.int c4)]) (rest := []) (lenOf own_pd35 rfl) rfl (by show 2 * 0 + _ ≤ _; exact Nat.le_of_eq rfl) (hb hby at_43) (fun _ _ => ⟨rfl, hh4_, (by decide : 0 + 0 + 0 + 0 + 0 + 4 ≤ _), (by decide : 0 + 0 + 0 + 0 + 0 + 17 ≤ _)⟩)
      dsimp only [Pt.U, Pt.locs, Pt.cells, Pt.slots] at X20_ l20_ y20_ z20_ st20_ hQ20_
      subst l20_ y20_ z20_
      obtain ⟨xA, uA, kuA, cdA, MA, wsA, rfl, Nq20_, K20_, r21_, r22_, r23_, r24_, r25_, hcA⟩ := hQ20_
      have N20_ := Fr.app N4_ Nq20_
      refine own_viaH (fun _ kq => st20_ _ kq) ?_
      show own_FinH _ _ _ _ _ _ _ _ _ T20_ (mkF m 46 #[.val (.int p1), .val (.int p2), .val (.int p3), .val (.int p4), .val (.int p5), .val (.int (1 : Int32)), .val (.int c1), .val (.int c2), .val (.int c3), .val (.int c4), .unset, .unset, .unset] [(.ref xA)])
      refine own_viaH (fun _ kq => XS.astore X20_.here hx rfl (hb hby at_46) rfl rfl (l' := #[.val (.int p1), .val (.int p2), .val (.int p3), .val (.int p4), .val (.int p5), .val (.int (1 : Int32)), .val (.int c1), .val (.int c2), .val (.int c3), .val (.int c4), .val (.ref xA), .unset, .unset]) rfl kq) ?_
      refine own_viaH (fun _ kq => XS.aload X20_.here hx rfl (hb hby at_48) rfl rfl kq) ?_
      show own_FinH _ _ _ _ _ _ _ _ _ T20_ (mkF m 50 #[.val (.int p1), .val (.int p2), .val (.int p3), .val (.int p4), .val (.int p5), .val (.int (1 : Int32)), .val (.int c1), .val (.int c2), .val (.int c3), .val (.int c4), .val (.ref xA), .unset, .unset] [(.ref xA)])
      obtain ⟨_, _, ⟨T26_, L26_, k26_, n26_⟩, -, X26_, ⟨Lc26_, hQ26_, l26_, y26_, z26_⟩, st26_⟩ := Jvm.LawKit.callS X20_ hx (y := (⟨"com/example/even_rows/evenrows/mapping/SqlName", "folded", "(Ljava/lang/String;)Ljava/lang/String;"⟩ : MethodName)) hown (mvT hZ (own_w hw 30 rfl)) (mvT hZ (own_w hw 31 rfl)) (mvT hZ (own_w hw 32 rfl)) (mvT hZ (own_w hw 33 rfl)) (by decide) (backOf (W := 0) (own_rm_fold1 l Z a0 hw [] xA cz uA kuA cdA MA wsA c1 fm T20_.heap n0 (Nat.le_trans Z0 K20_.1) (O0.keep K20_ all0) S1 (by first | assumption | decide) S2 r_fm S3 S4 S5 r22_ r23_ r24_ r25_ hcA hrs) hZ (own_w hw 33 rfl) (own_w hw 32 rfl) (by decide) (by decide)) (g := (mkF m 50 #[.val (.int p1), .val (.int p2), .val (.int p3), .val (.int p4), .val (.int p5), .val (.int (1 : Int32)), .val (.int c1), .val (.int c2), .val (.int c3), .val (.int c4), .val (.ref xA), .unset, .unset] [(.ref xA)])) rfl (by rw [hml]; rfl) (argsL := [(.ref xA)]) (rest := []) (lenOf own_pd36 rfl) rfl (by show 2 * 0 + _ ≤ _; exact Nat.le_of_eq rfl) (hb hby at_50) (fun _ _ => ⟨rfl, rfl, (by decide : 0 + 0 + 0 + 0 + 0 + 4 + 6 ≤ _), (by decide : 0 + 0 + 0 + 0 + 0 + 17 + 32 ≤ _)⟩)
      dsimp only [Pt.U, Pt.locs, Pt.cells, Pt.slots] at X26_ l26_ y26_ z26_ st26_ hQ26_
      subst l26_ y26_ z26_
      obtain ⟨xB, uB, kuB, cdB, MB, wsB, rfl, Nq26_, K26_, r27_, r28_, r29_, r30_, r31_, hcB⟩ := hQ26_
      have N26_ := Fr.app N20_ Nq26_
      refine own_viaH (fun _ kq => st26_ _ kq) ?_
      show own_FinH _ _ _ _ _ _ _ _ _ T26_ (mkF m 53 #[.val (.int p1), .val (.int p2), .val (.int p3), .val (.int p4), .val (.int p5), .val (.int (1 : Int32)), .val (.int c1), .val (.int c2), .val (.int c3), .val (.int c4), .val (.ref xA), .unset, .unset] [(.ref xB)])
      refine own_viaH (fun _ kq => XS.astore X26_.here hx rfl (hb hby at_53) rfl rfl (l' := #[.val (.int p1), .val (.int p2), .val (.int p3), .val (.int p4), .val (.int p5), .val (.int (1 : Int32)), .val (.int c1), .val (.int c2), .val (.int c3), .val (.int c4), .val (.ref xA), .val (.ref xB), .unset]) rfl kq) ?_
      refine own_viaH (fun _ kq => XS.aload X26_.here hx rfl (hb hby at_55) rfl rfl kq) ?_
      refine own_viaH (fun _ kq => XS.ifnullNo X26_.here hx rfl (hb hby at_57) rfl kq) ?_
      show own_FinH _ _ _ _ _ _ _ _ _ T26_ (mkF m 60 #[.val (.int p1), .val (.int p2), .val (.int p3), .val (.int p4), .val (.int p5), .val (.int (1 : Int32)), .val (.int c1), .val (.int c2), .val (.int c3), .val (.int c4), .val (.ref xA), .val (.ref xB), .unset] [])
      refine own_viaH (fun _ kq => XS.aload X26_.here hx rfl (hb hby at_60) rfl rfl kq) ?_
      show own_FinH _ _ _ _ _ _ _ _ _ T26_ (mkF m 62 #[.val (.int p1), .val (.int p2), .val (.int p3), .val (.int p4), .val (.int p5), .val (.int (1 : Int32)), .val (.int c1), .val (.int c2), .val (.int c3), .val (.int c4), .val (.ref xA), .val (.ref xB), .unset] [(.ref xB)])
      obtain ⟨cq32_, kq32_, q32_a, q32_b, q32_c⟩ := isOf hZ rfl r28_
      obtain ⟨_, _, ⟨T32_, L32_, k32_, n32_⟩, -, X32_, ⟨Lc32_, hQ32_, l32_, y32_, z32_⟩, st32_⟩ := X26_.virtualBack hx (y := (⟨"java/lang/String", "length", "()I"⟩ : MethodName)) (z := (⟨"java/lang/String", "length", "()I"⟩ : MethodName)) hown (mvT hZ (own_w hw 126 rfl)) (mvT hZ (own_w hw 38 rfl)) (notFace_of_selects (args := #[]) (mvT hZ (own_w hw 40 rfl))) (mvT hZ (own_w hw 40 rfl)) (mvT hZ (own_w hw 39 rfl)) (by decide) (backOf (W := 0) (own_rm_len l Z a0 hw [] xB cz uB kuB cdB MB wsB [own_fc c1] T26_.heap n0 (Nat.le_trans Z0 (Nat.le_trans K20_.1 K26_.1)) ((O0.keep K20_ all0).keep K26_ all0) S1 (by first | assumption | decide) r28_ r29_ r30_ r31_ hcB (by simp) hrd) hZ (own_w hw 41 rfl) (own_w hw 10 rfl) (by decide) (by decide)) q32_a q32_c (g := (mkF m 62 #[.val (.int p1), .val (.int p2), .val (.int p3), .val (.int p4), .val (.int p5), .val (.int (1 : Int32)), .val (.int c1), .val (.int c2), .val (.int c3), .val (.int c4), .val (.ref xA), .val (.ref xB), .unset] [(.ref xB)])) rfl (by rw [hml]; rfl) (Steps.refl _) (argsL := []) (rest := []) (lenOf own_pd21 rfl) rfl (by show 2 * 0 + _ ≤ _; exact Nat.le_of_eq rfl) (hb hby at_62) (fun _ _ => ⟨rfl, rfl, (by decide : 0 + 0 + 0 + 0 + 0 + 4 + 6 + 0 ≤ _), (by decide : 0 + 0 + 0 + 0 + 0 + 17 + 32 + 0 ≤ _)⟩)
      dsimp only [Pt.U, Pt.locs, Pt.cells, Pt.slots] at X32_ l32_ y32_ z32_ st32_ hQ32_
      subst l32_ y32_ z32_
      obtain ⟨rfl, Nq32_, hh32_⟩ := hQ32_
      have N32_ := Fr.app N26_ Nq32_
      refine own_viaH (fun _ kq => st32_.trans kq) ?_
      show own_FinH _ _ _ _ _ _ _ _ _ T32_ (mkF m 65 #[.val (.int p1), .val (.int p2), .val (.int p3), .val (.int p4), .val (.int p5), .val (.int (1 : Int32)), .val (.int c1), .val (.int c2), .val (.int c3), .val (.int c4), .val (.ref xA), .val (.ref xB), .unset] [(.int (Int32.ofNat [own_fc c1].length))])
      refine own_viaH (fun _ kq => XS.iload X32_.here hx rfl (hb hby at_65) rfl kq) ?_
      refine own_viaH (fun _ kq => XS.icmpYes X32_.here hx rfl (pc0 := 67) (pc' := 72) rfl (hb hby at_67) rfl (teq rfl).1 (by decide) (by decide) kq) ?_
      show own_FinH _ _ _ _ _ _ _ _ _ T32_ (mkF m 72 #[.val (.int p1), .val (.int p2), .val (.int p3), .val (.int p4), .val (.int p5), .val (.int (1 : Int32)), .val (.int c1), .val (.int c2), .val (.int c3), .val (.int c4), .val (.ref xA), .val (.ref xB), .unset] [])
      refine own_viaH (fun _ kq => XS.iconst X32_.here hx rfl (hb hby at_72) kq) ?_
      refine own_viaH (fun _ kq => XS.istore X32_.here hx rfl (hb hby at_73) rfl (l' := #[.val (.int p1), .val (.int p2), .val (.int p3), .val (.int p4), .val (.int p5), .val (.int (1 : Int32)), .val (.int c1), .val (.int c2), .val (.int c3), .val (.int c4), .val (.ref xA), .val (.ref xB), .val (.int (1 : Int32))]) rfl kq) ?_
      refine own_viaH (fun _ kq => XS.iload X32_.here hx rfl (hb hby at_75) rfl kq) ?_
      refine own_viaH (fun _ kq => XS.ifNo X32_.here hx rfl (hb hby at_77) rfl ((if0 _ _).trans (tlt (by decide)).2.2.2) kq) ?_
      show own_FinH _ _ _ _ _ _ _ _ _ T32_ (mkF m 80 #[.val (.int p1), .val (.int p2), .val (.int p3), .val (.int p4), .val (.int p5), .val (.int (1 : Int32)), .val (.int c1), .val (.int c2), .val (.int c3), .val (.int c4), .val (.ref xA), .val (.ref xB), .val (.int (1 : Int32))] [])
      refine own_viaH (fun _ kq => XS.iload X32_.here hx rfl (hb hby at_80) rfl kq) ?_
      refine own_viaH (fun _ kq => XS.ifNo X32_.here hx rfl (hb hby at_82) rfl ((if0 _ _).trans (feq (by decide)).1) kq) ?_
      show own_FinH _ _ _ _ _ _ _ _ _ T32_ (mkF m 85 #[.val (.int p1), .val (.int p2), .val (.int p3), .val (.int p4), .val (.int p5), .val (.int (1 : Int32)), .val (.int c1), .val (.int c2), .val (.int c3), .val (.int c4), .val (.ref xA), .val (.ref xB), .val (.int (1 : Int32))] [])
      refine own_viaH (fun _ kq => XS.aload X32_.here hx rfl (hb hby at_85) rfl rfl kq) ?_
      refine own_viaH (fun _ kq => XS.iconst X32_.here hx rfl (hb hby at_87) kq) ?_
      show own_FinH _ _ _ _ _ _ _ _ _ T32_ (mkF m 88 #[.val (.int p1), .val (.int p2), .val (.int p3), .val (.int p4), .val (.int p5), .val (.int (1 : Int32)), .val (.int c1), .val (.int c2), .val (.int c3), .val (.int c4), .val (.ref xA), .val (.ref xB), .val (.int (1 : Int32))] [(.int (0 : Int32)), (.ref xB)])
      obtain ⟨cq33_, kq33_, q33_a, q33_b, q33_c⟩ := isOf hZ hh32_ r28_
      obtain ⟨_, _, ⟨T33_, L33_, k33_, n33_⟩, -, X33_, ⟨Lc33_, hQ33_, l33_, y33_, z33_⟩, st33_⟩ := X32_.virtualBack hx (y := (⟨"java/lang/String", "charAt", "(I)C"⟩ : MethodName)) (z := (⟨"java/lang/String", "charAt", "(I)C"⟩ : MethodName)) hown (mvT hZ (own_w hw 155 rfl)) (mvT hZ (own_w hw 156 rfl)) (notFace_of_selects (args := #[]) (mvT hZ (own_w hw 158 rfl))) (mvT hZ (own_w hw 158 rfl)) (mvT hZ (own_w hw 157 rfl)) (by decide) (backOf (W := 0) (own_rm_chAt l Z a0 hw [] xB cz uB kuB cdB MB wsB [own_fc c1] fm (0 : Int32) 0 T26_.heap n0 (Nat.le_trans Z0 (Nat.le_trans K20_.1 K26_.1)) ((O0.keep K20_ all0).keep K26_ all0) S1 (by first | assumption | decide) S2 r_fm S3 S4 S5 r28_ r29_ r30_ r31_ hcB (by simp) hrd rfl (by simp)) hZ (own_w hw 159 rfl) (own_w hw 10 rfl) (by decide) (by decide)) q33_a q33_c (g := (mkF m 88 #[.val (.int p1), .val (.int p2), .val (.int p3), .val (.int p4), .val (.int p5), .val (.int (1 : Int32)), .val (.int c1), .val (.int c2), .val (.int c3), .val (.int c4), .val (.ref xA), .val (.ref xB), .val (.int (1 : Int32))] [(.int (0 : Int32)), (.ref xB)])) rfl (by rw [hml]; rfl) (Steps.refl _) (argsL := [(.int (0 : Int32))]) (rest := []) (lenOf own_pd34 rfl) rfl (by show 2 * 0 + _ ≤ _; exact Nat.le_of_eq rfl) (hb hby at_88) (fun _ _ => ⟨rfl, hh32_, (by decide : 0 + 0 + 0 + 0 + 0 + 4 + 6 + 0 + 0 ≤ _), (by decide : 0 + 0 + 0 + 0 + 0 + 17 + 32 + 0 + 0 ≤ _)⟩)
      dsimp only [Pt.U, Pt.locs, Pt.cells, Pt.slots] at X33_ l33_ y33_ z33_ st33_ hQ33_
      subst l33_ y33_ z33_
      obtain ⟨rfl, Nq33_, hh33_⟩ := hQ33_
      have N33_ := Fr.app N32_ Nq33_
      refine own_viaH (fun _ kq => st33_.trans kq) ?_
      show own_FinH _ _ _ _ _ _ _ _ _ T33_ (mkF m 91 #[.val (.int p1), .val (.int p2), .val (.int p3), .val (.int p4), .val (.int p5), .val (.int (1 : Int32)), .val (.int c1), .val (.int c2), .val (.int c3), .val (.int c4), .val (.ref xA), .val (.ref xB), .val (.int (1 : Int32))] [(.int ([own_fc c1].getD 0 0))])
      refine own_viaH (fun _ kq => XS.iload X33_.here hx rfl (hb hby at_91) rfl kq) ?_
      show own_FinH _ _ _ _ _ _ _ _ _ T33_ (mkF m 93 #[.val (.int p1), .val (.int p2), .val (.int p3), .val (.int p4), .val (.int p5), .val (.int (1 : Int32)), .val (.int c1), .val (.int c2), .val (.int c3), .val (.int c4), .val (.ref xA), .val (.ref xB), .val (.int (1 : Int32))] [(.int c1), (.int ([own_fc c1].getD 0 0))])
      obtain ⟨_, _, ⟨T34_, L34_, k34_, n34_⟩, -, X34_, ⟨Lc34_, hQ34_, l34_, y34_, z34_⟩, st34_⟩ := Jvm.LawKit.callS X33_ hx (y := (⟨"com/example/even_rows/evenrows/mapping/SqlNameFoldedPinLaw", "fold", "(C)C"⟩ : MethodName)) hown (mvT hZ (own_w hw 171 rfl)) (mvT hZ (own_w hw 172 rfl)) (mvT hZ (own_w hw 3 rfl)) (mvT hZ (own_w hw 173 rfl)) (by decide) (backOf (W := 1) (own_rm_foldC l Z a0 hw [] c1 T26_.heap n0 (Nat.le_trans Z0 (Nat.le_trans K20_.1 K26_.1)) hc1) hZ (own_w hw 173 rfl) (own_w hw 3 rfl) (by decide) (by decide)) (g := (mkF m 93 #[.val (.int p1), .val (.int p2), .val (.int p3), .val (.int p4), .val (.int p5), .val (.int (1 : Int32)), .val (.int c1), .val (.int c2), .val (.int c3), .val (.int c4), .val (.ref xA), .val (.ref xB), .val (.int (1 : Int32))] [(.int c1), (.int ([own_fc c1].getD 0 0))])) rfl (by rw [hml]; rfl) (argsL := [(.int c1)]) (rest := [(.int ([own_fc c1].getD 0 0))]) (lenOf own_pd37 rfl) rfl (by show 2 * 0 + _ ≤ _; exact Nat.le_of_eq rfl) (hb hby at_93) (fun _ _ => ⟨rfl, hh33_, (by decide : 0 + 0 + 0 + 0 + 0 + 4 + 6 + 0 + 0 + 0 ≤ _), (by decide : 0 + 0 + 0 + 0 + 0 + 17 + 32 + 0 + 0 + 0 ≤ _)⟩)
      dsimp only [Pt.U, Pt.locs, Pt.cells, Pt.slots] at X34_ l34_ y34_ z34_ st34_ hQ34_
      subst l34_ y34_ z34_
      obtain ⟨rfl, Nq34_, hh34_⟩ := hQ34_
      have N34_ := Fr.app N33_ Nq34_
      refine own_viaH (fun _ kq => st34_ _ kq) ?_
      show own_FinH _ _ _ _ _ _ _ _ _ T34_ (mkF m 96 #[.val (.int p1), .val (.int p2), .val (.int p3), .val (.int p4), .val (.int p5), .val (.int (1 : Int32)), .val (.int c1), .val (.int c2), .val (.int c3), .val (.int c4), .val (.ref xA), .val (.ref xB), .val (.int (1 : Int32))] [(.int (own_fc c1)), (.int ([own_fc c1].getD 0 0))])
      refine own_viaH (fun _ kq => XS.icmpNo X34_.here hx rfl (hb hby at_96) rfl (teq rfl).2 kq) ?_
      show own_FinH _ _ _ _ _ _ _ _ _ T34_ (mkF m 99 #[.val (.int p1), .val (.int p2), .val (.int p3), .val (.int p4), .val (.int p5), .val (.int (1 : Int32)), .val (.int c1), .val (.int c2), .val (.int c3), .val (.int c4), .val (.ref xA), .val (.ref xB), .val (.int (1 : Int32))] [])
      refine own_viaH (fun _ kq => XS.iconst X34_.here hx rfl (hb hby at_99) kq) ?_
      refine own_viaH (fun _ kq => XS.goto X34_.here hx rfl (pc0 := 100) (pc' := 104) rfl (hb hby at_100) (by decide) (by decide) kq) ?_
      refine own_viaH (fun _ kq => XS.istore X34_.here hx rfl (hb hby at_104) rfl (l' := #[.val (.int p1), .val (.int p2), .val (.int p3), .val (.int p4), .val (.int p5), .val (.int (1 : Int32)), .val (.int c1), .val (.int c2), .val (.int c3), .val (.int c4), .val (.ref xA), .val (.ref xB), .val (.int (1 : Int32))]) rfl kq) ?_
      refine own_viaH (fun _ kq => XS.iload X34_.here hx rfl (hb hby at_106) rfl kq) ?_
      refine own_viaH (fun _ kq => XS.iconst X34_.here hx rfl (hb hby at_108) kq) ?_
      refine own_viaH (fun _ kq => XS.icmpYes X34_.here hx rfl (pc0 := 109) (pc' := 138) rfl (hb hby at_109) rfl (flt (by decide)).2.2.2 (by decide) (by decide) kq) ?_
      show own_FinH _ _ _ _ _ _ _ _ _ T34_ (mkF m 138 #[.val (.int p1), .val (.int p2), .val (.int p3), .val (.int p4), .val (.int p5), .val (.int (1 : Int32)), .val (.int c1), .val (.int c2), .val (.int c3), .val (.int c4), .val (.ref xA), .val (.ref xB), .val (.int (1 : Int32))] [])
      refine own_viaH (fun _ kq => XS.iload X34_.here hx rfl (hb hby at_138) rfl kq) ?_
      refine own_viaH (fun _ kq => XS.iconst X34_.here hx rfl (hb hby at_140) kq) ?_
      refine own_viaH (fun _ kq => XS.icmpYes X34_.here hx rfl (pc0 := 141) (pc' := 170) rfl (hb hby at_141) rfl (flt (by decide)).2.2.2 (by decide) (by decide) kq) ?_
      show own_FinH _ _ _ _ _ _ _ _ _ T34_ (mkF m 170 #[.val (.int p1), .val (.int p2), .val (.int p3), .val (.int p4), .val (.int p5), .val (.int (1 : Int32)), .val (.int c1), .val (.int c2), .val (.int c3), .val (.int c4), .val (.ref xA), .val (.ref xB), .val (.int (1 : Int32))] [])
      refine own_viaH (fun _ kq => XS.iload X34_.here hx rfl (hb hby at_170) rfl kq) ?_
      refine own_viaH (fun _ kq => XS.iconst X34_.here hx rfl (hb hby at_172) kq) ?_
      show own_FinH _ _ _ _ _ _ _ _ _ T34_ (mkF m 173 #[.val (.int p1), .val (.int p2), .val (.int p3), .val (.int p4), .val (.int p5), .val (.int (1 : Int32)), .val (.int c1), .val (.int c2), .val (.int c3), .val (.int c4), .val (.ref xA), .val (.ref xB), .val (.int (1 : Int32))] [(.int (3 : Int32)), (.int (1 : Int32))])
      refine own_viaH (fun _ kq => XS.icmpYes X34_.here hx rfl (pc0 := 173) (pc' := 202) rfl (hb hby at_173) rfl (flt (by decide)).2.2.2 (by decide) (by decide) kq) ?_
      show own_FinH _ _ _ _ _ _ _ _ _ T34_ (mkF m 202 #[.val (.int p1), .val (.int p2), .val (.int p3), .val (.int p4), .val (.int p5), .val (.int (1 : Int32)), .val (.int c1), .val (.int c2), .val (.int c3), .val (.int c4), .val (.ref xA), .val (.ref xB), .val (.int (1 : Int32))] [])
      refine own_viaH (fun _ kq => XS.iload X34_.here hx rfl (hb hby at_202) rfl kq) ?_
      show own_FinH _ _ _ _ _ _ _ _ _ T34_ (mkF m 204 #[.val (.int p1), .val (.int p2), .val (.int p3), .val (.int p4), .val (.int p5), .val (.int (1 : Int32)), .val (.int c1), .val (.int c2), .val (.int c3), .val (.int c4), .val (.ref xA), .val (.ref xB), .val (.int (1 : Int32))] [(.int (1 : Int32))])
      have C35_ := C0.trans (CHr.keep K20_ sf0 H0)
      have H35_ := C35_.1
      have C36_ := C35_.trans (CHr.keep K26_ sf0 H35_)
      have H36_ := C36_.1
      exact own_retNH X34_ hx (t := .boolean) Bd.returns Bd.notSynchronized (own_ew hw) hZ hS0 (Nat.le_trans hk0 (Nat.le_trans K20_.1 K26_.1)) hh C36_ (by simp) (hb hby at_204) hh34_ (by decide) ⟨rfl, N34_⟩ (by decide) (by decide)
    · show own_FinH _ _ _ _ _ _ _ _ _ T4_ (mkF m 33 #[.val (.int p1), .val (.int p2), .val (.int p3), .val (.int p4), .val (.int p5), .val (.int (2 : Int32)), .val (.int c1), .val (.int c2), .val (.int c3), .val (.int c4), .unset, .unset, .unset] [])
      refine own_viaH (fun _ kq => XS.iload X4_.here hx rfl (hb hby at_33) rfl kq) ?_
      refine own_viaH (fun _ kq => XS.iload X4_.here hx rfl (hb hby at_35) rfl kq) ?_
      refine own_viaH (fun _ kq => XS.iload X4_.here hx rfl (hb hby at_37) rfl kq) ?_
      refine own_viaH (fun _ kq => XS.iload X4_.here hx rfl (hb hby at_39) rfl kq) ?_
      refine own_viaH (fun _ kq => XS.iload X4_.here hx rfl (hb hby at_41) rfl kq) ?_
      show own_FinH _ _ _ _ _ _ _ _ _ T4_ (mkF m 43 #[.val (.int p1), .val (.int p2), .val (.int p3), .val (.int p4), .val (.int p5), .val (.int (2 : Int32)), .val (.int c1), .val (.int c2), .val (.int c3), .val (.int c4), .unset, .unset, .unset] [(.int c4), (.int c3), (.int c2), (.int c1), (.int (2 : Int32))])
      have hrs : own_chs [c1, c2] := (own_ch2 hc1 hc2)
      have hrd : own_chs [own_fc c1, own_fc c2] := own_fcs2 hrs
      obtain ⟨_, _, ⟨T37_, L37_, k37_, n37_⟩, -, X37_, ⟨Lc37_, hQ37_, l37_, y37_, z37_⟩, st37_⟩ := Jvm.LawKit.callS X4_ hx (y := (⟨"com/example/even_rows/evenrows/mapping/SqlNameFoldedPinLaw", "make", "(ICCCC)Ljava/lang/String;"⟩ : MethodName)) hown (mvT hZ (own_w hw 5 rfl)) (mvT hZ (own_w hw 6 rfl)) (mvT hZ (own_w hw 3 rfl)) (mvT hZ (own_w hw 7 rfl)) (by decide) (backOf (W := 0) (own_rm_make2 l Z a0 hw [] c1 c2 c3 c4 cz h0 n0 Z0 O0 S1 (by first | assumption | decide) S3 S4 S5 (by first | assumption | decide) (by first | assumption | decide) (by first | assumption | decide) (by first | assumption | decide)) hZ (own_w hw 7 rfl) (own_w hw 3 rfl) (by decide) (by decide)) (g := (mkF m 43 #[.val (.int p1), .val (.int p2), .val (.int p3), .val (.int p4), .val (.int p5), .val (.int (2 : Int32)), .val (.int c1), .val (.int c2), .val (.int c3), .val (.int c4), .unset, .unset, .unset] [(.int c4), (.int c3), (.int c2), (.int c1), (.int (2 : Int32))])) rfl (by rw [hml]; rfl) (argsL := [(.int (2 : Int32)), (.int c1), (.int c2), (.int c3), (.int c4)]) (rest := []) (lenOf own_pd35 rfl) rfl (by show 2 * 0 + _ ≤ _; exact Nat.le_of_eq rfl) (hb hby at_43) (fun _ _ => ⟨rfl, hh4_, (by decide : 0 + 0 + 0 + 0 + 0 + 4 ≤ _), (by decide : 0 + 0 + 0 + 0 + 0 + 18 ≤ _)⟩)
      dsimp only [Pt.U, Pt.locs, Pt.cells, Pt.slots] at X37_ l37_ y37_ z37_ st37_ hQ37_
      subst l37_ y37_ z37_
      obtain ⟨xA, uA, kuA, cdA, MA, wsA, rfl, Nq37_, K37_, r38_, r39_, r40_, r41_, r42_, hcA⟩ := hQ37_
      have N37_ := Fr.app N4_ Nq37_
      refine own_viaH (fun _ kq => st37_ _ kq) ?_
      show own_FinH _ _ _ _ _ _ _ _ _ T37_ (mkF m 46 #[.val (.int p1), .val (.int p2), .val (.int p3), .val (.int p4), .val (.int p5), .val (.int (2 : Int32)), .val (.int c1), .val (.int c2), .val (.int c3), .val (.int c4), .unset, .unset, .unset] [(.ref xA)])
      refine own_viaH (fun _ kq => XS.astore X37_.here hx rfl (hb hby at_46) rfl rfl (l' := #[.val (.int p1), .val (.int p2), .val (.int p3), .val (.int p4), .val (.int p5), .val (.int (2 : Int32)), .val (.int c1), .val (.int c2), .val (.int c3), .val (.int c4), .val (.ref xA), .unset, .unset]) rfl kq) ?_
      refine own_viaH (fun _ kq => XS.aload X37_.here hx rfl (hb hby at_48) rfl rfl kq) ?_
      show own_FinH _ _ _ _ _ _ _ _ _ T37_ (mkF m 50 #[.val (.int p1), .val (.int p2), .val (.int p3), .val (.int p4), .val (.int p5), .val (.int (2 : Int32)), .val (.int c1), .val (.int c2), .val (.int c3), .val (.int c4), .val (.ref xA), .unset, .unset] [(.ref xA)])
      obtain ⟨_, _, ⟨T43_, L43_, k43_, n43_⟩, -, X43_, ⟨Lc43_, hQ43_, l43_, y43_, z43_⟩, st43_⟩ := Jvm.LawKit.callS X37_ hx (y := (⟨"com/example/even_rows/evenrows/mapping/SqlName", "folded", "(Ljava/lang/String;)Ljava/lang/String;"⟩ : MethodName)) hown (mvT hZ (own_w hw 30 rfl)) (mvT hZ (own_w hw 31 rfl)) (mvT hZ (own_w hw 32 rfl)) (mvT hZ (own_w hw 33 rfl)) (by decide) (backOf (W := 0) (own_rm_fold2 l Z a0 hw [] xA cz uA kuA cdA MA wsA c1 c2 fm T37_.heap n0 (Nat.le_trans Z0 K37_.1) (O0.keep K37_ all0) S1 (by first | assumption | decide) S2 r_fm S3 S4 S5 r39_ r40_ r41_ r42_ hcA hrs) hZ (own_w hw 33 rfl) (own_w hw 32 rfl) (by decide) (by decide)) (g := (mkF m 50 #[.val (.int p1), .val (.int p2), .val (.int p3), .val (.int p4), .val (.int p5), .val (.int (2 : Int32)), .val (.int c1), .val (.int c2), .val (.int c3), .val (.int c4), .val (.ref xA), .unset, .unset] [(.ref xA)])) rfl (by rw [hml]; rfl) (argsL := [(.ref xA)]) (rest := []) (lenOf own_pd36 rfl) rfl (by show 2 * 0 + _ ≤ _; exact Nat.le_of_eq rfl) (hb hby at_50) (fun _ _ => ⟨rfl, rfl, (by decide : 0 + 0 + 0 + 0 + 0 + 4 + 7 ≤ _), (by decide : 0 + 0 + 0 + 0 + 0 + 18 + 40 ≤ _)⟩)
      dsimp only [Pt.U, Pt.locs, Pt.cells, Pt.slots] at X43_ l43_ y43_ z43_ st43_ hQ43_
      subst l43_ y43_ z43_
      obtain ⟨xB, uB, kuB, cdB, MB, wsB, rfl, Nq43_, K43_, r44_, r45_, r46_, r47_, r48_, hcB⟩ := hQ43_
      have N43_ := Fr.app N37_ Nq43_
      refine own_viaH (fun _ kq => st43_ _ kq) ?_
      show own_FinH _ _ _ _ _ _ _ _ _ T43_ (mkF m 53 #[.val (.int p1), .val (.int p2), .val (.int p3), .val (.int p4), .val (.int p5), .val (.int (2 : Int32)), .val (.int c1), .val (.int c2), .val (.int c3), .val (.int c4), .val (.ref xA), .unset, .unset] [(.ref xB)])
      refine own_viaH (fun _ kq => XS.astore X43_.here hx rfl (hb hby at_53) rfl rfl (l' := #[.val (.int p1), .val (.int p2), .val (.int p3), .val (.int p4), .val (.int p5), .val (.int (2 : Int32)), .val (.int c1), .val (.int c2), .val (.int c3), .val (.int c4), .val (.ref xA), .val (.ref xB), .unset]) rfl kq) ?_
      refine own_viaH (fun _ kq => XS.aload X43_.here hx rfl (hb hby at_55) rfl rfl kq) ?_
      refine own_viaH (fun _ kq => XS.ifnullNo X43_.here hx rfl (hb hby at_57) rfl kq) ?_
      show own_FinH _ _ _ _ _ _ _ _ _ T43_ (mkF m 60 #[.val (.int p1), .val (.int p2), .val (.int p3), .val (.int p4), .val (.int p5), .val (.int (2 : Int32)), .val (.int c1), .val (.int c2), .val (.int c3), .val (.int c4), .val (.ref xA), .val (.ref xB), .unset] [])
      refine own_viaH (fun _ kq => XS.aload X43_.here hx rfl (hb hby at_60) rfl rfl kq) ?_
      show own_FinH _ _ _ _ _ _ _ _ _ T43_ (mkF m 62 #[.val (.int p1), .val (.int p2), .val (.int p3), .val (.int p4), .val (.int p5), .val (.int (2 : Int32)), .val (.int c1), .val (.int c2), .val (.int c3), .val (.int c4), .val (.ref xA), .val (.ref xB), .unset] [(.ref xB)])
      obtain ⟨cq49_, kq49_, q49_a, q49_b, q49_c⟩ := isOf hZ rfl r45_
      obtain ⟨_, _, ⟨T49_, L49_, k49_, n49_⟩, -, X49_, ⟨Lc49_, hQ49_, l49_, y49_, z49_⟩, st49_⟩ := X43_.virtualBack hx (y := (⟨"java/lang/String", "length", "()I"⟩ : MethodName)) (z := (⟨"java/lang/String", "length", "()I"⟩ : MethodName)) hown (mvT hZ (own_w hw 126 rfl)) (mvT hZ (own_w hw 38 rfl)) (notFace_of_selects (args := #[]) (mvT hZ (own_w hw 40 rfl))) (mvT hZ (own_w hw 40 rfl)) (mvT hZ (own_w hw 39 rfl)) (by decide) (backOf (W := 0) (own_rm_len l Z a0 hw [] xB cz uB kuB cdB MB wsB [own_fc c1, own_fc c2] T43_.heap n0 (Nat.le_trans Z0 (Nat.le_trans K37_.1 K43_.1)) ((O0.keep K37_ all0).keep K43_ all0) S1 (by first | assumption | decide) r45_ r46_ r47_ r48_ hcB (by simp) hrd) hZ (own_w hw 41 rfl) (own_w hw 10 rfl) (by decide) (by decide)) q49_a q49_c (g := (mkF m 62 #[.val (.int p1), .val (.int p2), .val (.int p3), .val (.int p4), .val (.int p5), .val (.int (2 : Int32)), .val (.int c1), .val (.int c2), .val (.int c3), .val (.int c4), .val (.ref xA), .val (.ref xB), .unset] [(.ref xB)])) rfl (by rw [hml]; rfl) (Steps.refl _) (argsL := []) (rest := []) (lenOf own_pd21 rfl) rfl (by show 2 * 0 + _ ≤ _; exact Nat.le_of_eq rfl) (hb hby at_62) (fun _ _ => ⟨rfl, rfl, (by decide : 0 + 0 + 0 + 0 + 0 + 4 + 7 + 0 ≤ _), (by decide : 0 + 0 + 0 + 0 + 0 + 18 + 40 + 0 ≤ _)⟩)
      dsimp only [Pt.U, Pt.locs, Pt.cells, Pt.slots] at X49_ l49_ y49_ z49_ st49_ hQ49_
      subst l49_ y49_ z49_
      obtain ⟨rfl, Nq49_, hh49_⟩ := hQ49_
      have N49_ := Fr.app N43_ Nq49_
      refine own_viaH (fun _ kq => st49_.trans kq) ?_
      show own_FinH _ _ _ _ _ _ _ _ _ T49_ (mkF m 65 #[.val (.int p1), .val (.int p2), .val (.int p3), .val (.int p4), .val (.int p5), .val (.int (2 : Int32)), .val (.int c1), .val (.int c2), .val (.int c3), .val (.int c4), .val (.ref xA), .val (.ref xB), .unset] [(.int (Int32.ofNat [own_fc c1, own_fc c2].length))])
      refine own_viaH (fun _ kq => XS.iload X49_.here hx rfl (hb hby at_65) rfl kq) ?_
      refine own_viaH (fun _ kq => XS.icmpYes X49_.here hx rfl (pc0 := 67) (pc' := 72) rfl (hb hby at_67) rfl (teq rfl).1 (by decide) (by decide) kq) ?_
      show own_FinH _ _ _ _ _ _ _ _ _ T49_ (mkF m 72 #[.val (.int p1), .val (.int p2), .val (.int p3), .val (.int p4), .val (.int p5), .val (.int (2 : Int32)), .val (.int c1), .val (.int c2), .val (.int c3), .val (.int c4), .val (.ref xA), .val (.ref xB), .unset] [])
      refine own_viaH (fun _ kq => XS.iconst X49_.here hx rfl (hb hby at_72) kq) ?_
      refine own_viaH (fun _ kq => XS.istore X49_.here hx rfl (hb hby at_73) rfl (l' := #[.val (.int p1), .val (.int p2), .val (.int p3), .val (.int p4), .val (.int p5), .val (.int (2 : Int32)), .val (.int c1), .val (.int c2), .val (.int c3), .val (.int c4), .val (.ref xA), .val (.ref xB), .val (.int (1 : Int32))]) rfl kq) ?_
      refine own_viaH (fun _ kq => XS.iload X49_.here hx rfl (hb hby at_75) rfl kq) ?_
      refine own_viaH (fun _ kq => XS.ifNo X49_.here hx rfl (hb hby at_77) rfl ((if0 _ _).trans (tlt (by decide)).2.2.2) kq) ?_
      show own_FinH _ _ _ _ _ _ _ _ _ T49_ (mkF m 80 #[.val (.int p1), .val (.int p2), .val (.int p3), .val (.int p4), .val (.int p5), .val (.int (2 : Int32)), .val (.int c1), .val (.int c2), .val (.int c3), .val (.int c4), .val (.ref xA), .val (.ref xB), .val (.int (1 : Int32))] [])
      refine own_viaH (fun _ kq => XS.iload X49_.here hx rfl (hb hby at_80) rfl kq) ?_
      refine own_viaH (fun _ kq => XS.ifNo X49_.here hx rfl (hb hby at_82) rfl ((if0 _ _).trans (feq (by decide)).1) kq) ?_
      show own_FinH _ _ _ _ _ _ _ _ _ T49_ (mkF m 85 #[.val (.int p1), .val (.int p2), .val (.int p3), .val (.int p4), .val (.int p5), .val (.int (2 : Int32)), .val (.int c1), .val (.int c2), .val (.int c3), .val (.int c4), .val (.ref xA), .val (.ref xB), .val (.int (1 : Int32))] [])
      refine own_viaH (fun _ kq => XS.aload X49_.here hx rfl (hb hby at_85) rfl rfl kq) ?_
      refine own_viaH (fun _ kq => XS.iconst X49_.here hx rfl (hb hby at_87) kq) ?_
      show own_FinH _ _ _ _ _ _ _ _ _ T49_ (mkF m 88 #[.val (.int p1), .val (.int p2), .val (.int p3), .val (.int p4), .val (.int p5), .val (.int (2 : Int32)), .val (.int c1), .val (.int c2), .val (.int c3), .val (.int c4), .val (.ref xA), .val (.ref xB), .val (.int (1 : Int32))] [(.int (0 : Int32)), (.ref xB)])
      obtain ⟨cq50_, kq50_, q50_a, q50_b, q50_c⟩ := isOf hZ hh49_ r45_
      obtain ⟨_, _, ⟨T50_, L50_, k50_, n50_⟩, -, X50_, ⟨Lc50_, hQ50_, l50_, y50_, z50_⟩, st50_⟩ := X49_.virtualBack hx (y := (⟨"java/lang/String", "charAt", "(I)C"⟩ : MethodName)) (z := (⟨"java/lang/String", "charAt", "(I)C"⟩ : MethodName)) hown (mvT hZ (own_w hw 155 rfl)) (mvT hZ (own_w hw 156 rfl)) (notFace_of_selects (args := #[]) (mvT hZ (own_w hw 158 rfl))) (mvT hZ (own_w hw 158 rfl)) (mvT hZ (own_w hw 157 rfl)) (by decide) (backOf (W := 0) (own_rm_chAt l Z a0 hw [] xB cz uB kuB cdB MB wsB [own_fc c1, own_fc c2] fm (0 : Int32) 0 T43_.heap n0 (Nat.le_trans Z0 (Nat.le_trans K37_.1 K43_.1)) ((O0.keep K37_ all0).keep K43_ all0) S1 (by first | assumption | decide) S2 r_fm S3 S4 S5 r45_ r46_ r47_ r48_ hcB (by simp) hrd rfl (by simp)) hZ (own_w hw 159 rfl) (own_w hw 10 rfl) (by decide) (by decide)) q50_a q50_c (g := (mkF m 88 #[.val (.int p1), .val (.int p2), .val (.int p3), .val (.int p4), .val (.int p5), .val (.int (2 : Int32)), .val (.int c1), .val (.int c2), .val (.int c3), .val (.int c4), .val (.ref xA), .val (.ref xB), .val (.int (1 : Int32))] [(.int (0 : Int32)), (.ref xB)])) rfl (by rw [hml]; rfl) (Steps.refl _) (argsL := [(.int (0 : Int32))]) (rest := []) (lenOf own_pd34 rfl) rfl (by show 2 * 0 + _ ≤ _; exact Nat.le_of_eq rfl) (hb hby at_88) (fun _ _ => ⟨rfl, hh49_, (by decide : 0 + 0 + 0 + 0 + 0 + 4 + 7 + 0 + 0 ≤ _), (by decide : 0 + 0 + 0 + 0 + 0 + 18 + 40 + 0 + 0 ≤ _)⟩)
      dsimp only [Pt.U, Pt.locs, Pt.cells, Pt.slots] at X50_ l50_ y50_ z50_ st50_ hQ50_
      subst l50_ y50_ z50_
      obtain ⟨rfl, Nq50_, hh50_⟩ := hQ50_
      have N50_ := Fr.app N49_ Nq50_
      refine own_viaH (fun _ kq => st50_.trans kq) ?_
      show own_FinH _ _ _ _ _ _ _ _ _ T50_ (mkF m 91 #[.val (.int p1), .val (.int p2), .val (.int p3), .val (.int p4), .val (.int p5), .val (.int (2 : Int32)), .val (.int c1), .val (.int c2), .val (.int c3), .val (.int c4), .val (.ref xA), .val (.ref xB), .val (.int (1 : Int32))] [(.int ([own_fc c1, own_fc c2].getD 0 0))])
      refine own_viaH (fun _ kq => XS.iload X50_.here hx rfl (hb hby at_91) rfl kq) ?_
      show own_FinH _ _ _ _ _ _ _ _ _ T50_ (mkF m 93 #[.val (.int p1), .val (.int p2), .val (.int p3), .val (.int p4), .val (.int p5), .val (.int (2 : Int32)), .val (.int c1), .val (.int c2), .val (.int c3), .val (.int c4), .val (.ref xA), .val (.ref xB), .val (.int (1 : Int32))] [(.int c1), (.int ([own_fc c1, own_fc c2].getD 0 0))])
      obtain ⟨_, _, ⟨T51_, L51_, k51_, n51_⟩, -, X51_, ⟨Lc51_, hQ51_, l51_, y51_, z51_⟩, st51_⟩ := Jvm.LawKit.callS X50_ hx (y := (⟨"com/example/even_rows/evenrows/mapping/SqlNameFoldedPinLaw", "fold", "(C)C"⟩ : MethodName)) hown (mvT hZ (own_w hw 171 rfl)) (mvT hZ (own_w hw 172 rfl)) (mvT hZ (own_w hw 3 rfl)) (mvT hZ (own_w hw 173 rfl)) (by decide) (backOf (W := 1) (own_rm_foldC l Z a0 hw [] c1 T43_.heap n0 (Nat.le_trans Z0 (Nat.le_trans K37_.1 K43_.1)) hc1) hZ (own_w hw 173 rfl) (own_w hw 3 rfl) (by decide) (by decide)) (g := (mkF m 93 #[.val (.int p1), .val (.int p2), .val (.int p3), .val (.int p4), .val (.int p5), .val (.int (2 : Int32)), .val (.int c1), .val (.int c2), .val (.int c3), .val (.int c4), .val (.ref xA), .val (.ref xB), .val (.int (1 : Int32))] [(.int c1), (.int ([own_fc c1, own_fc c2].getD 0 0))])) rfl (by rw [hml]; rfl) (argsL := [(.int c1)]) (rest := [(.int ([own_fc c1, own_fc c2].getD 0 0))]) (lenOf own_pd37 rfl) rfl (by show 2 * 0 + _ ≤ _; exact Nat.le_of_eq rfl) (hb hby at_93) (fun _ _ => ⟨rfl, hh50_, (by decide : 0 + 0 + 0 + 0 + 0 + 4 + 7 + 0 + 0 + 0 ≤ _), (by decide : 0 + 0 + 0 + 0 + 0 + 18 + 40 + 0 + 0 + 0 ≤ _)⟩)
      dsimp only [Pt.U, Pt.locs, Pt.cells, Pt.slots] at X51_ l51_ y51_ z51_ st51_ hQ51_
      subst l51_ y51_ z51_
      obtain ⟨rfl, Nq51_, hh51_⟩ := hQ51_
      have N51_ := Fr.app N50_ Nq51_
      refine own_viaH (fun _ kq => st51_ _ kq) ?_
      show own_FinH _ _ _ _ _ _ _ _ _ T51_ (mkF m 96 #[.val (.int p1), .val (.int p2), .val (.int p3), .val (.int p4), .val (.int p5), .val (.int (2 : Int32)), .val (.int c1), .val (.int c2), .val (.int c3), .val (.int c4), .val (.ref xA), .val (.ref xB), .val (.int (1 : Int32))] [(.int (own_fc c1)), (.int ([own_fc c1, own_fc c2].getD 0 0))])
      refine own_viaH (fun _ kq => XS.icmpNo X51_.here hx rfl (hb hby at_96) rfl (teq rfl).2 kq) ?_
      show own_FinH _ _ _ _ _ _ _ _ _ T51_ (mkF m 99 #[.val (.int p1), .val (.int p2), .val (.int p3), .val (.int p4), .val (.int p5), .val (.int (2 : Int32)), .val (.int c1), .val (.int c2), .val (.int c3), .val (.int c4), .val (.ref xA), .val (.ref xB), .val (.int (1 : Int32))] [])
      refine own_viaH (fun _ kq => XS.iconst X51_.here hx rfl (hb hby at_99) kq) ?_
      refine own_viaH (fun _ kq => XS.goto X51_.here hx rfl (pc0 := 100) (pc' := 104) rfl (hb hby at_100) (by decide) (by decide) kq) ?_
      refine own_viaH (fun _ kq => XS.istore X51_.here hx rfl (hb hby at_104) rfl (l' := #[.val (.int p1), .val (.int p2), .val (.int p3), .val (.int p4), .val (.int p5), .val (.int (2 : Int32)), .val (.int c1), .val (.int c2), .val (.int c3), .val (.int c4), .val (.ref xA), .val (.ref xB), .val (.int (1 : Int32))]) rfl kq) ?_
      refine own_viaH (fun _ kq => XS.iload X51_.here hx rfl (hb hby at_106) rfl kq) ?_
      refine own_viaH (fun _ kq => XS.iconst X51_.here hx rfl (hb hby at_108) kq) ?_
      refine own_viaH (fun _ kq => XS.icmpNo X51_.here hx rfl (hb hby at_109) rfl (tlt (by decide)).2.2.2 kq) ?_
      show own_FinH _ _ _ _ _ _ _ _ _ T51_ (mkF m 112 #[.val (.int p1), .val (.int p2), .val (.int p3), .val (.int p4), .val (.int p5), .val (.int (2 : Int32)), .val (.int c1), .val (.int c2), .val (.int c3), .val (.int c4), .val (.ref xA), .val (.ref xB), .val (.int (1 : Int32))] [])
      refine own_viaH (fun _ kq => XS.iload X51_.here hx rfl (hb hby at_112) rfl kq) ?_
      refine own_viaH (fun _ kq => XS.ifNo X51_.here hx rfl (hb hby at_114) rfl ((if0 _ _).trans (feq (by decide)).1) kq) ?_
      show own_FinH _ _ _ _ _ _ _ _ _ T51_ (mkF m 117 #[.val (.int p1), .val (.int p2), .val (.int p3), .val (.int p4), .val (.int p5), .val (.int (2 : Int32)), .val (.int c1), .val (.int c2), .val (.int c3), .val (.int c4), .val (.ref xA), .val (.ref xB), .val (.int (1 : Int32))] [])
      refine own_viaH (fun _ kq => XS.aload X51_.here hx rfl (hb hby at_117) rfl rfl kq) ?_
      refine own_viaH (fun _ kq => XS.iconst X51_.here hx rfl (hb hby at_119) kq) ?_
      show own_FinH _ _ _ _ _ _ _ _ _ T51_ (mkF m 120 #[.val (.int p1), .val (.int p2), .val (.int p3), .val (.int p4), .val (.int p5), .val (.int (2 : Int32)), .val (.int c1), .val (.int c2), .val (.int c3), .val (.int c4), .val (.ref xA), .val (.ref xB), .val (.int (1 : Int32))] [(.int (1 : Int32)), (.ref xB)])
      obtain ⟨cq52_, kq52_, q52_a, q52_b, q52_c⟩ := isOf hZ hh51_ r45_
      obtain ⟨_, _, ⟨T52_, L52_, k52_, n52_⟩, -, X52_, ⟨Lc52_, hQ52_, l52_, y52_, z52_⟩, st52_⟩ := X51_.virtualBack hx (y := (⟨"java/lang/String", "charAt", "(I)C"⟩ : MethodName)) (z := (⟨"java/lang/String", "charAt", "(I)C"⟩ : MethodName)) hown (mvT hZ (own_w hw 155 rfl)) (mvT hZ (own_w hw 156 rfl)) (notFace_of_selects (args := #[]) (mvT hZ (own_w hw 158 rfl))) (mvT hZ (own_w hw 158 rfl)) (mvT hZ (own_w hw 157 rfl)) (by decide) (backOf (W := 0) (own_rm_chAt l Z a0 hw [] xB cz uB kuB cdB MB wsB [own_fc c1, own_fc c2] fm (1 : Int32) 1 T43_.heap n0 (Nat.le_trans Z0 (Nat.le_trans K37_.1 K43_.1)) ((O0.keep K37_ all0).keep K43_ all0) S1 (by first | assumption | decide) S2 r_fm S3 S4 S5 r45_ r46_ r47_ r48_ hcB (by simp) hrd rfl (by simp)) hZ (own_w hw 159 rfl) (own_w hw 10 rfl) (by decide) (by decide)) q52_a q52_c (g := (mkF m 120 #[.val (.int p1), .val (.int p2), .val (.int p3), .val (.int p4), .val (.int p5), .val (.int (2 : Int32)), .val (.int c1), .val (.int c2), .val (.int c3), .val (.int c4), .val (.ref xA), .val (.ref xB), .val (.int (1 : Int32))] [(.int (1 : Int32)), (.ref xB)])) rfl (by rw [hml]; rfl) (Steps.refl _) (argsL := [(.int (1 : Int32))]) (rest := []) (lenOf own_pd34 rfl) rfl (by show 2 * 0 + _ ≤ _; exact Nat.le_of_eq rfl) (hb hby at_120) (fun _ _ => ⟨rfl, hh51_, (by decide : 0 + 0 + 0 + 0 + 0 + 4 + 7 + 0 + 0 + 0 + 0 ≤ _), (by decide : 0 + 0 + 0 + 0 + 0 + 18 + 40 + 0 + 0 + 0 + 0 ≤ _)⟩)
      dsimp only [Pt.U, Pt.locs, Pt.cells, Pt.slots] at X52_ l52_ y52_ z52_ st52_ hQ52_
      subst l52_ y52_ z52_
      obtain ⟨rfl, Nq52_, hh52_⟩ := hQ52_
      have N52_ := Fr.app N51_ Nq52_
      refine own_viaH (fun _ kq => st52_.trans kq) ?_
      show own_FinH _ _ _ _ _ _ _ _ _ T52_ (mkF m 123 #[.val (.int p1), .val (.int p2), .val (.int p3), .val (.int p4), .val (.int p5), .val (.int (2 : Int32)), .val (.int c1), .val (.int c2), .val (.int c3), .val (.int c4), .val (.ref xA), .val (.ref xB), .val (.int (1 : Int32))] [(.int ([own_fc c1, own_fc c2].getD 1 0))])
      refine own_viaH (fun _ kq => XS.iload X52_.here hx rfl (hb hby at_123) rfl kq) ?_
      show own_FinH _ _ _ _ _ _ _ _ _ T52_ (mkF m 125 #[.val (.int p1), .val (.int p2), .val (.int p3), .val (.int p4), .val (.int p5), .val (.int (2 : Int32)), .val (.int c1), .val (.int c2), .val (.int c3), .val (.int c4), .val (.ref xA), .val (.ref xB), .val (.int (1 : Int32))] [(.int c2), (.int ([own_fc c1, own_fc c2].getD 1 0))])
      obtain ⟨_, _, ⟨T53_, L53_, k53_, n53_⟩, -, X53_, ⟨Lc53_, hQ53_, l53_, y53_, z53_⟩, st53_⟩ := Jvm.LawKit.callS X52_ hx (y := (⟨"com/example/even_rows/evenrows/mapping/SqlNameFoldedPinLaw", "fold", "(C)C"⟩ : MethodName)) hown (mvT hZ (own_w hw 171 rfl)) (mvT hZ (own_w hw 172 rfl)) (mvT hZ (own_w hw 3 rfl)) (mvT hZ (own_w hw 173 rfl)) (by decide) (backOf (W := 1) (own_rm_foldC l Z a0 hw [] c2 T43_.heap n0 (Nat.le_trans Z0 (Nat.le_trans K37_.1 K43_.1)) hc2) hZ (own_w hw 173 rfl) (own_w hw 3 rfl) (by decide) (by decide)) (g := (mkF m 125 #[.val (.int p1), .val (.int p2), .val (.int p3), .val (.int p4), .val (.int p5), .val (.int (2 : Int32)), .val (.int c1), .val (.int c2), .val (.int c3), .val (.int c4), .val (.ref xA), .val (.ref xB), .val (.int (1 : Int32))] [(.int c2), (.int ([own_fc c1, own_fc c2].getD 1 0))])) rfl (by rw [hml]; rfl) (argsL := [(.int c2)]) (rest := [(.int ([own_fc c1, own_fc c2].getD 1 0))]) (lenOf own_pd37 rfl) rfl (by show 2 * 0 + _ ≤ _; exact Nat.le_of_eq rfl) (hb hby at_125) (fun _ _ => ⟨rfl, hh52_, (by decide : 0 + 0 + 0 + 0 + 0 + 4 + 7 + 0 + 0 + 0 + 0 + 0 ≤ _), (by decide : 0 + 0 + 0 + 0 + 0 + 18 + 40 + 0 + 0 + 0 + 0 + 0 ≤ _)⟩)
      dsimp only [Pt.U, Pt.locs, Pt.cells, Pt.slots] at X53_ l53_ y53_ z53_ st53_ hQ53_
      subst l53_ y53_ z53_
      obtain ⟨rfl, Nq53_, hh53_⟩ := hQ53_
      have N53_ := Fr.app N52_ Nq53_
      refine own_viaH (fun _ kq => st53_ _ kq) ?_
      show own_FinH _ _ _ _ _ _ _ _ _ T53_ (mkF m 128 #[.val (.int p1), .val (.int p2), .val (.int p3), .val (.int p4), .val (.int p5), .val (.int (2 : Int32)), .val (.int c1), .val (.int c2), .val (.int c3), .val (.int c4), .val (.ref xA), .val (.ref xB), .val (.int (1 : Int32))] [(.int (own_fc c2)), (.int ([own_fc c1, own_fc c2].getD 1 0))])
      refine own_viaH (fun _ kq => XS.icmpNo X53_.here hx rfl (hb hby at_128) rfl (teq rfl).2 kq) ?_
      show own_FinH _ _ _ _ _ _ _ _ _ T53_ (mkF m 131 #[.val (.int p1), .val (.int p2), .val (.int p3), .val (.int p4), .val (.int p5), .val (.int (2 : Int32)), .val (.int c1), .val (.int c2), .val (.int c3), .val (.int c4), .val (.ref xA), .val (.ref xB), .val (.int (1 : Int32))] [])
      refine own_viaH (fun _ kq => XS.iconst X53_.here hx rfl (hb hby at_131) kq) ?_
      refine own_viaH (fun _ kq => XS.goto X53_.here hx rfl (pc0 := 132) (pc' := 136) rfl (hb hby at_132) (by decide) (by decide) kq) ?_
      refine own_viaH (fun _ kq => XS.istore X53_.here hx rfl (hb hby at_136) rfl (l' := #[.val (.int p1), .val (.int p2), .val (.int p3), .val (.int p4), .val (.int p5), .val (.int (2 : Int32)), .val (.int c1), .val (.int c2), .val (.int c3), .val (.int c4), .val (.ref xA), .val (.ref xB), .val (.int (1 : Int32))]) rfl kq) ?_
      refine own_viaH (fun _ kq => XS.iload X53_.here hx rfl (hb hby at_138) rfl kq) ?_
      refine own_viaH (fun _ kq => XS.iconst X53_.here hx rfl (hb hby at_140) kq) ?_
      refine own_viaH (fun _ kq => XS.icmpYes X53_.here hx rfl (pc0 := 141) (pc' := 170) rfl (hb hby at_141) rfl (flt (by decide)).2.2.2 (by decide) (by decide) kq) ?_
      show own_FinH _ _ _ _ _ _ _ _ _ T53_ (mkF m 170 #[.val (.int p1), .val (.int p2), .val (.int p3), .val (.int p4), .val (.int p5), .val (.int (2 : Int32)), .val (.int c1), .val (.int c2), .val (.int c3), .val (.int c4), .val (.ref xA), .val (.ref xB), .val (.int (1 : Int32))] [])
      refine own_viaH (fun _ kq => XS.iload X53_.here hx rfl (hb hby at_170) rfl kq) ?_
      refine own_viaH (fun _ kq => XS.iconst X53_.here hx rfl (hb hby at_172) kq) ?_
      refine own_viaH (fun _ kq => XS.icmpYes X53_.here hx rfl (pc0 := 173) (pc' := 202) rfl (hb hby at_173) rfl (flt (by decide)).2.2.2 (by decide) (by decide) kq) ?_
      show own_FinH _ _ _ _ _ _ _ _ _ T53_ (mkF m 202 #[.val (.int p1), .val (.int p2), .val (.int p3), .val (.int p4), .val (.int p5), .val (.int (2 : Int32)), .val (.int c1), .val (.int c2), .val (.int c3), .val (.int c4), .val (.ref xA), .val (.ref xB), .val (.int (1 : Int32))] [])
      refine own_viaH (fun _ kq => XS.iload X53_.here hx rfl (hb hby at_202) rfl kq) ?_
      show own_FinH _ _ _ _ _ _ _ _ _ T53_ (mkF m 204 #[.val (.int p1), .val (.int p2), .val (.int p3), .val (.int p4), .val (.int p5), .val (.int (2 : Int32)), .val (.int c1), .val (.int c2), .val (.int c3), .val (.int c4), .val (.ref xA), .val (.ref xB), .val (.int (1 : Int32))] [(.int (1 : Int32))])
      have C54_ := C0.trans (CHr.keep K37_ sf0 H0)
      have H54_ := C54_.1
      have C55_ := C54_.trans (CHr.keep K43_ sf0 H54_)
      have H55_ := C55_.1
      exact own_retNH X53_ hx (t := .boolean) Bd.returns Bd.notSynchronized (own_ew hw) hZ hS0 (Nat.le_trans hk0 (Nat.le_trans K37_.1 K43_.1)) hh C55_ (by simp) (hb hby at_204) hh53_ (by decide) ⟨rfl, N53_⟩ (by decide) (by decide)
    · show own_FinH _ _ _ _ _ _ _ _ _ T4_ (mkF m 33 #[.val (.int p1), .val (.int p2), .val (.int p3), .val (.int p4), .val (.int p5), .val (.int (3 : Int32)), .val (.int c1), .val (.int c2), .val (.int c3), .val (.int c4), .unset, .unset, .unset] [])
      refine own_viaH (fun _ kq => XS.iload X4_.here hx rfl (hb hby at_33) rfl kq) ?_
      refine own_viaH (fun _ kq => XS.iload X4_.here hx rfl (hb hby at_35) rfl kq) ?_
      refine own_viaH (fun _ kq => XS.iload X4_.here hx rfl (hb hby at_37) rfl kq) ?_
      refine own_viaH (fun _ kq => XS.iload X4_.here hx rfl (hb hby at_39) rfl kq) ?_
      refine own_viaH (fun _ kq => XS.iload X4_.here hx rfl (hb hby at_41) rfl kq) ?_
      show own_FinH _ _ _ _ _ _ _ _ _ T4_ (mkF m 43 #[.val (.int p1), .val (.int p2), .val (.int p3), .val (.int p4), .val (.int p5), .val (.int (3 : Int32)), .val (.int c1), .val (.int c2), .val (.int c3), .val (.int c4), .unset, .unset, .unset] [(.int c4), (.int c3), (.int c2), (.int c1), (.int (3 : Int32))])
      have hrs : own_chs [c1, c2, c3] := (own_ch3 hc1 hc2 hc3)
      have hrd : own_chs [own_fc c1, own_fc c2, own_fc c3] := own_fcs3 hrs
      obtain ⟨_, _, ⟨T56_, L56_, k56_, n56_⟩, -, X56_, ⟨Lc56_, hQ56_, l56_, y56_, z56_⟩, st56_⟩ := Jvm.LawKit.callS X4_ hx (y := (⟨"com/example/even_rows/evenrows/mapping/SqlNameFoldedPinLaw", "make", "(ICCCC)Ljava/lang/String;"⟩ : MethodName)) hown (mvT hZ (own_w hw 5 rfl)) (mvT hZ (own_w hw 6 rfl)) (mvT hZ (own_w hw 3 rfl)) (mvT hZ (own_w hw 7 rfl)) (by decide) (backOf (W := 0) (own_rm_make3 l Z a0 hw [] c1 c2 c3 c4 cz h0 n0 Z0 O0 S1 (by first | assumption | decide) S3 S4 S5 (by first | assumption | decide) (by first | assumption | decide) (by first | assumption | decide) (by first | assumption | decide)) hZ (own_w hw 7 rfl) (own_w hw 3 rfl) (by decide) (by decide)) (g := (mkF m 43 #[.val (.int p1), .val (.int p2), .val (.int p3), .val (.int p4), .val (.int p5), .val (.int (3 : Int32)), .val (.int c1), .val (.int c2), .val (.int c3), .val (.int c4), .unset, .unset, .unset] [(.int c4), (.int c3), (.int c2), (.int c1), (.int (3 : Int32))])) rfl (by rw [hml]; rfl) (argsL := [(.int (3 : Int32)), (.int c1), (.int c2), (.int c3), (.int c4)]) (rest := []) (lenOf own_pd35 rfl) rfl (by show 2 * 0 + _ ≤ _; exact Nat.le_of_eq rfl) (hb hby at_43) (fun _ _ => ⟨rfl, hh4_, (by decide : 0 + 0 + 0 + 0 + 0 + 4 ≤ _), (by decide : 0 + 0 + 0 + 0 + 0 + 19 ≤ _)⟩)
      dsimp only [Pt.U, Pt.locs, Pt.cells, Pt.slots] at X56_ l56_ y56_ z56_ st56_ hQ56_
      subst l56_ y56_ z56_
      obtain ⟨xA, uA, kuA, cdA, MA, wsA, rfl, Nq56_, K56_, r57_, r58_, r59_, r60_, r61_, hcA⟩ := hQ56_
      have N56_ := Fr.app N4_ Nq56_
      refine own_viaH (fun _ kq => st56_ _ kq) ?_
      show own_FinH _ _ _ _ _ _ _ _ _ T56_ (mkF m 46 #[.val (.int p1), .val (.int p2), .val (.int p3), .val (.int p4), .val (.int p5), .val (.int (3 : Int32)), .val (.int c1), .val (.int c2), .val (.int c3), .val (.int c4), .unset, .unset, .unset] [(.ref xA)])
      refine own_viaH (fun _ kq => XS.astore X56_.here hx rfl (hb hby at_46) rfl rfl (l' := #[.val (.int p1), .val (.int p2), .val (.int p3), .val (.int p4), .val (.int p5), .val (.int (3 : Int32)), .val (.int c1), .val (.int c2), .val (.int c3), .val (.int c4), .val (.ref xA), .unset, .unset]) rfl kq) ?_
      refine own_viaH (fun _ kq => XS.aload X56_.here hx rfl (hb hby at_48) rfl rfl kq) ?_
      show own_FinH _ _ _ _ _ _ _ _ _ T56_ (mkF m 50 #[.val (.int p1), .val (.int p2), .val (.int p3), .val (.int p4), .val (.int p5), .val (.int (3 : Int32)), .val (.int c1), .val (.int c2), .val (.int c3), .val (.int c4), .val (.ref xA), .unset, .unset] [(.ref xA)])
      obtain ⟨_, _, ⟨T62_, L62_, k62_, n62_⟩, -, X62_, ⟨Lc62_, hQ62_, l62_, y62_, z62_⟩, st62_⟩ := Jvm.LawKit.callS X56_ hx (y := (⟨"com/example/even_rows/evenrows/mapping/SqlName", "folded", "(Ljava/lang/String;)Ljava/lang/String;"⟩ : MethodName)) hown (mvT hZ (own_w hw 30 rfl)) (mvT hZ (own_w hw 31 rfl)) (mvT hZ (own_w hw 32 rfl)) (mvT hZ (own_w hw 33 rfl)) (by decide) (backOf (W := 0) (own_rm_fold3 l Z a0 hw [] xA cz uA kuA cdA MA wsA c1 c2 c3 fm T56_.heap n0 (Nat.le_trans Z0 K56_.1) (O0.keep K56_ all0) S1 (by first | assumption | decide) S2 r_fm S3 S4 S5 r58_ r59_ r60_ r61_ hcA hrs) hZ (own_w hw 33 rfl) (own_w hw 32 rfl) (by decide) (by decide)) (g := (mkF m 50 #[.val (.int p1), .val (.int p2), .val (.int p3), .val (.int p4), .val (.int p5), .val (.int (3 : Int32)), .val (.int c1), .val (.int c2), .val (.int c3), .val (.int c4), .val (.ref xA), .unset, .unset] [(.ref xA)])) rfl (by rw [hml]; rfl) (argsL := [(.ref xA)]) (rest := []) (lenOf own_pd36 rfl) rfl (by show 2 * 0 + _ ≤ _; exact Nat.le_of_eq rfl) (hb hby at_50) (fun _ _ => ⟨rfl, rfl, (by decide : 0 + 0 + 0 + 0 + 0 + 4 + 8 ≤ _), (by decide : 0 + 0 + 0 + 0 + 0 + 19 + 48 ≤ _)⟩)
      dsimp only [Pt.U, Pt.locs, Pt.cells, Pt.slots] at X62_ l62_ y62_ z62_ st62_ hQ62_
      subst l62_ y62_ z62_
      obtain ⟨xB, uB, kuB, cdB, MB, wsB, rfl, Nq62_, K62_, r63_, r64_, r65_, r66_, r67_, hcB⟩ := hQ62_
      have N62_ := Fr.app N56_ Nq62_
      refine own_viaH (fun _ kq => st62_ _ kq) ?_
      show own_FinH _ _ _ _ _ _ _ _ _ T62_ (mkF m 53 #[.val (.int p1), .val (.int p2), .val (.int p3), .val (.int p4), .val (.int p5), .val (.int (3 : Int32)), .val (.int c1), .val (.int c2), .val (.int c3), .val (.int c4), .val (.ref xA), .unset, .unset] [(.ref xB)])
      refine own_viaH (fun _ kq => XS.astore X62_.here hx rfl (hb hby at_53) rfl rfl (l' := #[.val (.int p1), .val (.int p2), .val (.int p3), .val (.int p4), .val (.int p5), .val (.int (3 : Int32)), .val (.int c1), .val (.int c2), .val (.int c3), .val (.int c4), .val (.ref xA), .val (.ref xB), .unset]) rfl kq) ?_
      refine own_viaH (fun _ kq => XS.aload X62_.here hx rfl (hb hby at_55) rfl rfl kq) ?_
      refine own_viaH (fun _ kq => XS.ifnullNo X62_.here hx rfl (hb hby at_57) rfl kq) ?_
      show own_FinH _ _ _ _ _ _ _ _ _ T62_ (mkF m 60 #[.val (.int p1), .val (.int p2), .val (.int p3), .val (.int p4), .val (.int p5), .val (.int (3 : Int32)), .val (.int c1), .val (.int c2), .val (.int c3), .val (.int c4), .val (.ref xA), .val (.ref xB), .unset] [])
      refine own_viaH (fun _ kq => XS.aload X62_.here hx rfl (hb hby at_60) rfl rfl kq) ?_
      show own_FinH _ _ _ _ _ _ _ _ _ T62_ (mkF m 62 #[.val (.int p1), .val (.int p2), .val (.int p3), .val (.int p4), .val (.int p5), .val (.int (3 : Int32)), .val (.int c1), .val (.int c2), .val (.int c3), .val (.int c4), .val (.ref xA), .val (.ref xB), .unset] [(.ref xB)])
      obtain ⟨cq68_, kq68_, q68_a, q68_b, q68_c⟩ := isOf hZ rfl r64_
      obtain ⟨_, _, ⟨T68_, L68_, k68_, n68_⟩, -, X68_, ⟨Lc68_, hQ68_, l68_, y68_, z68_⟩, st68_⟩ := X62_.virtualBack hx (y := (⟨"java/lang/String", "length", "()I"⟩ : MethodName)) (z := (⟨"java/lang/String", "length", "()I"⟩ : MethodName)) hown (mvT hZ (own_w hw 126 rfl)) (mvT hZ (own_w hw 38 rfl)) (notFace_of_selects (args := #[]) (mvT hZ (own_w hw 40 rfl))) (mvT hZ (own_w hw 40 rfl)) (mvT hZ (own_w hw 39 rfl)) (by decide) (backOf (W := 0) (own_rm_len l Z a0 hw [] xB cz uB kuB cdB MB wsB [own_fc c1, own_fc c2, own_fc c3] T62_.heap n0 (Nat.le_trans Z0 (Nat.le_trans K56_.1 K62_.1)) ((O0.keep K56_ all0).keep K62_ all0) S1 (by first | assumption | decide) r64_ r65_ r66_ r67_ hcB (by simp) hrd) hZ (own_w hw 41 rfl) (own_w hw 10 rfl) (by decide) (by decide)) q68_a q68_c (g := (mkF m 62 #[.val (.int p1), .val (.int p2), .val (.int p3), .val (.int p4), .val (.int p5), .val (.int (3 : Int32)), .val (.int c1), .val (.int c2), .val (.int c3), .val (.int c4), .val (.ref xA), .val (.ref xB), .unset] [(.ref xB)])) rfl (by rw [hml]; rfl) (Steps.refl _) (argsL := []) (rest := []) (lenOf own_pd21 rfl) rfl (by show 2 * 0 + _ ≤ _; exact Nat.le_of_eq rfl) (hb hby at_62) (fun _ _ => ⟨rfl, rfl, (by decide : 0 + 0 + 0 + 0 + 0 + 4 + 8 + 0 ≤ _), (by decide : 0 + 0 + 0 + 0 + 0 + 19 + 48 + 0 ≤ _)⟩)
      dsimp only [Pt.U, Pt.locs, Pt.cells, Pt.slots] at X68_ l68_ y68_ z68_ st68_ hQ68_
      subst l68_ y68_ z68_
      obtain ⟨rfl, Nq68_, hh68_⟩ := hQ68_
      have N68_ := Fr.app N62_ Nq68_
      refine own_viaH (fun _ kq => st68_.trans kq) ?_
      show own_FinH _ _ _ _ _ _ _ _ _ T68_ (mkF m 65 #[.val (.int p1), .val (.int p2), .val (.int p3), .val (.int p4), .val (.int p5), .val (.int (3 : Int32)), .val (.int c1), .val (.int c2), .val (.int c3), .val (.int c4), .val (.ref xA), .val (.ref xB), .unset] [(.int (Int32.ofNat [own_fc c1, own_fc c2, own_fc c3].length))])
      refine own_viaH (fun _ kq => XS.iload X68_.here hx rfl (hb hby at_65) rfl kq) ?_
      refine own_viaH (fun _ kq => XS.icmpYes X68_.here hx rfl (pc0 := 67) (pc' := 72) rfl (hb hby at_67) rfl (teq rfl).1 (by decide) (by decide) kq) ?_
      show own_FinH _ _ _ _ _ _ _ _ _ T68_ (mkF m 72 #[.val (.int p1), .val (.int p2), .val (.int p3), .val (.int p4), .val (.int p5), .val (.int (3 : Int32)), .val (.int c1), .val (.int c2), .val (.int c3), .val (.int c4), .val (.ref xA), .val (.ref xB), .unset] [])
      refine own_viaH (fun _ kq => XS.iconst X68_.here hx rfl (hb hby at_72) kq) ?_
      refine own_viaH (fun _ kq => XS.istore X68_.here hx rfl (hb hby at_73) rfl (l' := #[.val (.int p1), .val (.int p2), .val (.int p3), .val (.int p4), .val (.int p5), .val (.int (3 : Int32)), .val (.int c1), .val (.int c2), .val (.int c3), .val (.int c4), .val (.ref xA), .val (.ref xB), .val (.int (1 : Int32))]) rfl kq) ?_
      refine own_viaH (fun _ kq => XS.iload X68_.here hx rfl (hb hby at_75) rfl kq) ?_
      refine own_viaH (fun _ kq => XS.ifNo X68_.here hx rfl (hb hby at_77) rfl ((if0 _ _).trans (tlt (by decide)).2.2.2) kq) ?_
      show own_FinH _ _ _ _ _ _ _ _ _ T68_ (mkF m 80 #[.val (.int p1), .val (.int p2), .val (.int p3), .val (.int p4), .val (.int p5), .val (.int (3 : Int32)), .val (.int c1), .val (.int c2), .val (.int c3), .val (.int c4), .val (.ref xA), .val (.ref xB), .val (.int (1 : Int32))] [])
      refine own_viaH (fun _ kq => XS.iload X68_.here hx rfl (hb hby at_80) rfl kq) ?_
      refine own_viaH (fun _ kq => XS.ifNo X68_.here hx rfl (hb hby at_82) rfl ((if0 _ _).trans (feq (by decide)).1) kq) ?_
      show own_FinH _ _ _ _ _ _ _ _ _ T68_ (mkF m 85 #[.val (.int p1), .val (.int p2), .val (.int p3), .val (.int p4), .val (.int p5), .val (.int (3 : Int32)), .val (.int c1), .val (.int c2), .val (.int c3), .val (.int c4), .val (.ref xA), .val (.ref xB), .val (.int (1 : Int32))] [])
      refine own_viaH (fun _ kq => XS.aload X68_.here hx rfl (hb hby at_85) rfl rfl kq) ?_
      refine own_viaH (fun _ kq => XS.iconst X68_.here hx rfl (hb hby at_87) kq) ?_
      show own_FinH _ _ _ _ _ _ _ _ _ T68_ (mkF m 88 #[.val (.int p1), .val (.int p2), .val (.int p3), .val (.int p4), .val (.int p5), .val (.int (3 : Int32)), .val (.int c1), .val (.int c2), .val (.int c3), .val (.int c4), .val (.ref xA), .val (.ref xB), .val (.int (1 : Int32))] [(.int (0 : Int32)), (.ref xB)])
      obtain ⟨cq69_, kq69_, q69_a, q69_b, q69_c⟩ := isOf hZ hh68_ r64_
      obtain ⟨_, _, ⟨T69_, L69_, k69_, n69_⟩, -, X69_, ⟨Lc69_, hQ69_, l69_, y69_, z69_⟩, st69_⟩ := X68_.virtualBack hx (y := (⟨"java/lang/String", "charAt", "(I)C"⟩ : MethodName)) (z := (⟨"java/lang/String", "charAt", "(I)C"⟩ : MethodName)) hown (mvT hZ (own_w hw 155 rfl)) (mvT hZ (own_w hw 156 rfl)) (notFace_of_selects (args := #[]) (mvT hZ (own_w hw 158 rfl))) (mvT hZ (own_w hw 158 rfl)) (mvT hZ (own_w hw 157 rfl)) (by decide) (backOf (W := 0) (own_rm_chAt l Z a0 hw [] xB cz uB kuB cdB MB wsB [own_fc c1, own_fc c2, own_fc c3] fm (0 : Int32) 0 T62_.heap n0 (Nat.le_trans Z0 (Nat.le_trans K56_.1 K62_.1)) ((O0.keep K56_ all0).keep K62_ all0) S1 (by first | assumption | decide) S2 r_fm S3 S4 S5 r64_ r65_ r66_ r67_ hcB (by simp) hrd rfl (by simp)) hZ (own_w hw 159 rfl) (own_w hw 10 rfl) (by decide) (by decide)) q69_a q69_c (g := (mkF m 88 #[.val (.int p1), .val (.int p2), .val (.int p3), .val (.int p4), .val (.int p5), .val (.int (3 : Int32)), .val (.int c1), .val (.int c2), .val (.int c3), .val (.int c4), .val (.ref xA), .val (.ref xB), .val (.int (1 : Int32))] [(.int (0 : Int32)), (.ref xB)])) rfl (by rw [hml]; rfl) (Steps.refl _) (argsL := [(.int (0 : Int32))]) (rest := []) (lenOf own_pd34 rfl) rfl (by show 2 * 0 + _ ≤ _; exact Nat.le_of_eq rfl) (hb hby at_88) (fun _ _ => ⟨rfl, hh68_, (by decide : 0 + 0 + 0 + 0 + 0 + 4 + 8 + 0 + 0 ≤ _), (by decide : 0 + 0 + 0 + 0 + 0 + 19 + 48 + 0 + 0 ≤ _)⟩)
      dsimp only [Pt.U, Pt.locs, Pt.cells, Pt.slots] at X69_ l69_ y69_ z69_ st69_ hQ69_
      subst l69_ y69_ z69_
      obtain ⟨rfl, Nq69_, hh69_⟩ := hQ69_
      have N69_ := Fr.app N68_ Nq69_
      refine own_viaH (fun _ kq => st69_.trans kq) ?_
      show own_FinH _ _ _ _ _ _ _ _ _ T69_ (mkF m 91 #[.val (.int p1), .val (.int p2), .val (.int p3), .val (.int p4), .val (.int p5), .val (.int (3 : Int32)), .val (.int c1), .val (.int c2), .val (.int c3), .val (.int c4), .val (.ref xA), .val (.ref xB), .val (.int (1 : Int32))] [(.int ([own_fc c1, own_fc c2, own_fc c3].getD 0 0))])
      refine own_viaH (fun _ kq => XS.iload X69_.here hx rfl (hb hby at_91) rfl kq) ?_
      show own_FinH _ _ _ _ _ _ _ _ _ T69_ (mkF m 93 #[.val (.int p1), .val (.int p2), .val (.int p3), .val (.int p4), .val (.int p5), .val (.int (3 : Int32)), .val (.int c1), .val (.int c2), .val (.int c3), .val (.int c4), .val (.ref xA), .val (.ref xB), .val (.int (1 : Int32))] [(.int c1), (.int ([own_fc c1, own_fc c2, own_fc c3].getD 0 0))])
      obtain ⟨_, _, ⟨T70_, L70_, k70_, n70_⟩, -, X70_, ⟨Lc70_, hQ70_, l70_, y70_, z70_⟩, st70_⟩ := Jvm.LawKit.callS X69_ hx (y := (⟨"com/example/even_rows/evenrows/mapping/SqlNameFoldedPinLaw", "fold", "(C)C"⟩ : MethodName)) hown (mvT hZ (own_w hw 171 rfl)) (mvT hZ (own_w hw 172 rfl)) (mvT hZ (own_w hw 3 rfl)) (mvT hZ (own_w hw 173 rfl)) (by decide) (backOf (W := 1) (own_rm_foldC l Z a0 hw [] c1 T62_.heap n0 (Nat.le_trans Z0 (Nat.le_trans K56_.1 K62_.1)) hc1) hZ (own_w hw 173 rfl) (own_w hw 3 rfl) (by decide) (by decide)) (g := (mkF m 93 #[.val (.int p1), .val (.int p2), .val (.int p3), .val (.int p4), .val (.int p5), .val (.int (3 : Int32)), .val (.int c1), .val (.int c2), .val (.int c3), .val (.int c4), .val (.ref xA), .val (.ref xB), .val (.int (1 : Int32))] [(.int c1), (.int ([own_fc c1, own_fc c2, own_fc c3].getD 0 0))])) rfl (by rw [hml]; rfl) (argsL := [(.int c1)]) (rest := [(.int ([own_fc c1, own_fc c2, own_fc c3].getD 0 0))]) (lenOf own_pd37 rfl) rfl (by show 2 * 0 + _ ≤ _; exact Nat.le_of_eq rfl) (hb hby at_93) (fun _ _ => ⟨rfl, hh69_, (by decide : 0 + 0 + 0 + 0 + 0 + 4 + 8 + 0 + 0 + 0 ≤ _), (by decide : 0 + 0 + 0 + 0 + 0 + 19 + 48 + 0 + 0 + 0 ≤ _)⟩)
      dsimp only [Pt.U, Pt.locs, Pt.cells, Pt.slots] at X70_ l70_ y70_ z70_ st70_ hQ70_
      subst l70_ y70_ z70_
      obtain ⟨rfl, Nq70_, hh70_⟩ := hQ70_
      have N70_ := Fr.app N69_ Nq70_
      refine own_viaH (fun _ kq => st70_ _ kq) ?_
      show own_FinH _ _ _ _ _ _ _ _ _ T70_ (mkF m 96 #[.val (.int p1), .val (.int p2), .val (.int p3), .val (.int p4), .val (.int p5), .val (.int (3 : Int32)), .val (.int c1), .val (.int c2), .val (.int c3), .val (.int c4), .val (.ref xA), .val (.ref xB), .val (.int (1 : Int32))] [(.int (own_fc c1)), (.int ([own_fc c1, own_fc c2, own_fc c3].getD 0 0))])
      refine own_viaH (fun _ kq => XS.icmpNo X70_.here hx rfl (hb hby at_96) rfl (teq rfl).2 kq) ?_
      show own_FinH _ _ _ _ _ _ _ _ _ T70_ (mkF m 99 #[.val (.int p1), .val (.int p2), .val (.int p3), .val (.int p4), .val (.int p5), .val (.int (3 : Int32)), .val (.int c1), .val (.int c2), .val (.int c3), .val (.int c4), .val (.ref xA), .val (.ref xB), .val (.int (1 : Int32))] [])
      refine own_viaH (fun _ kq => XS.iconst X70_.here hx rfl (hb hby at_99) kq) ?_
      refine own_viaH (fun _ kq => XS.goto X70_.here hx rfl (pc0 := 100) (pc' := 104) rfl (hb hby at_100) (by decide) (by decide) kq) ?_
      refine own_viaH (fun _ kq => XS.istore X70_.here hx rfl (hb hby at_104) rfl (l' := #[.val (.int p1), .val (.int p2), .val (.int p3), .val (.int p4), .val (.int p5), .val (.int (3 : Int32)), .val (.int c1), .val (.int c2), .val (.int c3), .val (.int c4), .val (.ref xA), .val (.ref xB), .val (.int (1 : Int32))]) rfl kq) ?_
      refine own_viaH (fun _ kq => XS.iload X70_.here hx rfl (hb hby at_106) rfl kq) ?_
      refine own_viaH (fun _ kq => XS.iconst X70_.here hx rfl (hb hby at_108) kq) ?_
      refine own_viaH (fun _ kq => XS.icmpNo X70_.here hx rfl (hb hby at_109) rfl (tlt (by decide)).2.2.2 kq) ?_
      show own_FinH _ _ _ _ _ _ _ _ _ T70_ (mkF m 112 #[.val (.int p1), .val (.int p2), .val (.int p3), .val (.int p4), .val (.int p5), .val (.int (3 : Int32)), .val (.int c1), .val (.int c2), .val (.int c3), .val (.int c4), .val (.ref xA), .val (.ref xB), .val (.int (1 : Int32))] [])
      refine own_viaH (fun _ kq => XS.iload X70_.here hx rfl (hb hby at_112) rfl kq) ?_
      refine own_viaH (fun _ kq => XS.ifNo X70_.here hx rfl (hb hby at_114) rfl ((if0 _ _).trans (feq (by decide)).1) kq) ?_
      show own_FinH _ _ _ _ _ _ _ _ _ T70_ (mkF m 117 #[.val (.int p1), .val (.int p2), .val (.int p3), .val (.int p4), .val (.int p5), .val (.int (3 : Int32)), .val (.int c1), .val (.int c2), .val (.int c3), .val (.int c4), .val (.ref xA), .val (.ref xB), .val (.int (1 : Int32))] [])
      refine own_viaH (fun _ kq => XS.aload X70_.here hx rfl (hb hby at_117) rfl rfl kq) ?_
      refine own_viaH (fun _ kq => XS.iconst X70_.here hx rfl (hb hby at_119) kq) ?_
      show own_FinH _ _ _ _ _ _ _ _ _ T70_ (mkF m 120 #[.val (.int p1), .val (.int p2), .val (.int p3), .val (.int p4), .val (.int p5), .val (.int (3 : Int32)), .val (.int c1), .val (.int c2), .val (.int c3), .val (.int c4), .val (.ref xA), .val (.ref xB), .val (.int (1 : Int32))] [(.int (1 : Int32)), (.ref xB)])
      obtain ⟨cq71_, kq71_, q71_a, q71_b, q71_c⟩ := isOf hZ hh70_ r64_
      obtain ⟨_, _, ⟨T71_, L71_, k71_, n71_⟩, -, X71_, ⟨Lc71_, hQ71_, l71_, y71_, z71_⟩, st71_⟩ := X70_.virtualBack hx (y := (⟨"java/lang/String", "charAt", "(I)C"⟩ : MethodName)) (z := (⟨"java/lang/String", "charAt", "(I)C"⟩ : MethodName)) hown (mvT hZ (own_w hw 155 rfl)) (mvT hZ (own_w hw 156 rfl)) (notFace_of_selects (args := #[]) (mvT hZ (own_w hw 158 rfl))) (mvT hZ (own_w hw 158 rfl)) (mvT hZ (own_w hw 157 rfl)) (by decide) (backOf (W := 0) (own_rm_chAt l Z a0 hw [] xB cz uB kuB cdB MB wsB [own_fc c1, own_fc c2, own_fc c3] fm (1 : Int32) 1 T62_.heap n0 (Nat.le_trans Z0 (Nat.le_trans K56_.1 K62_.1)) ((O0.keep K56_ all0).keep K62_ all0) S1 (by first | assumption | decide) S2 r_fm S3 S4 S5 r64_ r65_ r66_ r67_ hcB (by simp) hrd rfl (by simp)) hZ (own_w hw 159 rfl) (own_w hw 10 rfl) (by decide) (by decide)) q71_a q71_c (g := (mkF m 120 #[.val (.int p1), .val (.int p2), .val (.int p3), .val (.int p4), .val (.int p5), .val (.int (3 : Int32)), .val (.int c1), .val (.int c2), .val (.int c3), .val (.int c4), .val (.ref xA), .val (.ref xB), .val (.int (1 : Int32))] [(.int (1 : Int32)), (.ref xB)])) rfl (by rw [hml]; rfl) (Steps.refl _) (argsL := [(.int (1 : Int32))]) (rest := []) (lenOf own_pd34 rfl) rfl (by show 2 * 0 + _ ≤ _; exact Nat.le_of_eq rfl) (hb hby at_120) (fun _ _ => ⟨rfl, hh70_, (by decide : 0 + 0 + 0 + 0 + 0 + 4 + 8 + 0 + 0 + 0 + 0 ≤ _), (by decide : 0 + 0 + 0 + 0 + 0 + 19 + 48 + 0 + 0 + 0 + 0 ≤ _)⟩)
      dsimp only [Pt.U, Pt.locs, Pt.cells, Pt.slots] at X71_ l71_ y71_ z71_ st71_ hQ71_
      subst l71_ y71_ z71_
      obtain ⟨rfl, Nq71_, hh71_⟩ := hQ71_
      have N71_ := Fr.app N70_ Nq71_
      refine own_viaH (fun _ kq => st71_.trans kq) ?_
      show own_FinH _ _ _ _ _ _ _ _ _ T71_ (mkF m 123 #[.val (.int p1), .val (.int p2), .val (.int p3), .val (.int p4), .val (.int p5), .val (.int (3 : Int32)), .val (.int c1), .val (.int c2), .val (.int c3), .val (.int c4), .val (.ref xA), .val (.ref xB), .val (.int (1 : Int32))] [(.int ([own_fc c1, own_fc c2, own_fc c3].getD 1 0))])
      refine own_viaH (fun _ kq => XS.iload X71_.here hx rfl (hb hby at_123) rfl kq) ?_
      show own_FinH _ _ _ _ _ _ _ _ _ T71_ (mkF m 125 #[.val (.int p1), .val (.int p2), .val (.int p3), .val (.int p4), .val (.int p5), .val (.int (3 : Int32)), .val (.int c1), .val (.int c2), .val (.int c3), .val (.int c4), .val (.ref xA), .val (.ref xB), .val (.int (1 : Int32))] [(.int c2), (.int ([own_fc c1, own_fc c2, own_fc c3].getD 1 0))])
      obtain ⟨_, _, ⟨T72_, L72_, k72_, n72_⟩, -, X72_, ⟨Lc72_, hQ72_, l72_, y72_, z72_⟩, st72_⟩ := Jvm.LawKit.callS X71_ hx (y := (⟨"com/example/even_rows/evenrows/mapping/SqlNameFoldedPinLaw", "fold", "(C)C"⟩ : MethodName)) hown (mvT hZ (own_w hw 171 rfl)) (mvT hZ (own_w hw 172 rfl)) (mvT hZ (own_w hw 3 rfl)) (mvT hZ (own_w hw 173 rfl)) (by decide) (backOf (W := 1) (own_rm_foldC l Z a0 hw [] c2 T62_.heap n0 (Nat.le_trans Z0 (Nat.le_trans K56_.1 K62_.1)) hc2) hZ (own_w hw 173 rfl) (own_w hw 3 rfl) (by decide) (by decide)) (g := (mkF m 125 #[.val (.int p1), .val (.int p2), .val (.int p3), .val (.int p4), .val (.int p5), .val (.int (3 : Int32)), .val (.int c1), .val (.int c2), .val (.int c3), .val (.int c4), .val (.ref xA), .val (.ref xB), .val (.int (1 : Int32))] [(.int c2), (.int ([own_fc c1, own_fc c2, own_fc c3].getD 1 0))])) rfl (by rw [hml]; rfl) (argsL := [(.int c2)]) (rest := [(.int ([own_fc c1, own_fc c2, own_fc c3].getD 1 0))]) (lenOf own_pd37 rfl) rfl (by show 2 * 0 + _ ≤ _; exact Nat.le_of_eq rfl) (hb hby at_125) (fun _ _ => ⟨rfl, hh71_, (by decide : 0 + 0 + 0 + 0 + 0 + 4 + 8 + 0 + 0 + 0 + 0 + 0 ≤ _), (by decide : 0 + 0 + 0 + 0 + 0 + 19 + 48 + 0 + 0 + 0 + 0 + 0 ≤ _)⟩)
      dsimp only [Pt.U, Pt.locs, Pt.cells, Pt.slots] at X72_ l72_ y72_ z72_ st72_ hQ72_
      subst l72_ y72_ z72_
      obtain ⟨rfl, Nq72_, hh72_⟩ := hQ72_
      have N72_ := Fr.app N71_ Nq72_
      refine own_viaH (fun _ kq => st72_ _ kq) ?_
      show own_FinH _ _ _ _ _ _ _ _ _ T72_ (mkF m 128 #[.val (.int p1), .val (.int p2), .val (.int p3), .val (.int p4), .val (.int p5), .val (.int (3 : Int32)), .val (.int c1), .val (.int c2), .val (.int c3), .val (.int c4), .val (.ref xA), .val (.ref xB), .val (.int (1 : Int32))] [(.int (own_fc c2)), (.int ([own_fc c1, own_fc c2, own_fc c3].getD 1 0))])
      refine own_viaH (fun _ kq => XS.icmpNo X72_.here hx rfl (hb hby at_128) rfl (teq rfl).2 kq) ?_
      show own_FinH _ _ _ _ _ _ _ _ _ T72_ (mkF m 131 #[.val (.int p1), .val (.int p2), .val (.int p3), .val (.int p4), .val (.int p5), .val (.int (3 : Int32)), .val (.int c1), .val (.int c2), .val (.int c3), .val (.int c4), .val (.ref xA), .val (.ref xB), .val (.int (1 : Int32))] [])
      refine own_viaH (fun _ kq => XS.iconst X72_.here hx rfl (hb hby at_131) kq) ?_
      refine own_viaH (fun _ kq => XS.goto X72_.here hx rfl (pc0 := 132) (pc' := 136) rfl (hb hby at_132) (by decide) (by decide) kq) ?_
      refine own_viaH (fun _ kq => XS.istore X72_.here hx rfl (hb hby at_136) rfl (l' := #[.val (.int p1), .val (.int p2), .val (.int p3), .val (.int p4), .val (.int p5), .val (.int (3 : Int32)), .val (.int c1), .val (.int c2), .val (.int c3), .val (.int c4), .val (.ref xA), .val (.ref xB), .val (.int (1 : Int32))]) rfl kq) ?_
      refine own_viaH (fun _ kq => XS.iload X72_.here hx rfl (hb hby at_138) rfl kq) ?_
      refine own_viaH (fun _ kq => XS.iconst X72_.here hx rfl (hb hby at_140) kq) ?_
      refine own_viaH (fun _ kq => XS.icmpNo X72_.here hx rfl (hb hby at_141) rfl (tlt (by decide)).2.2.2 kq) ?_
      show own_FinH _ _ _ _ _ _ _ _ _ T72_ (mkF m 144 #[.val (.int p1), .val (.int p2), .val (.int p3), .val (.int p4), .val (.int p5), .val (.int (3 : Int32)), .val (.int c1), .val (.int c2), .val (.int c3), .val (.int c4), .val (.ref xA), .val (.ref xB), .val (.int (1 : Int32))] [])
      refine own_viaH (fun _ kq => XS.iload X72_.here hx rfl (hb hby at_144) rfl kq) ?_
      refine own_viaH (fun _ kq => XS.ifNo X72_.here hx rfl (hb hby at_146) rfl ((if0 _ _).trans (feq (by decide)).1) kq) ?_
      show own_FinH _ _ _ _ _ _ _ _ _ T72_ (mkF m 149 #[.val (.int p1), .val (.int p2), .val (.int p3), .val (.int p4), .val (.int p5), .val (.int (3 : Int32)), .val (.int c1), .val (.int c2), .val (.int c3), .val (.int c4), .val (.ref xA), .val (.ref xB), .val (.int (1 : Int32))] [])
      refine own_viaH (fun _ kq => XS.aload X72_.here hx rfl (hb hby at_149) rfl rfl kq) ?_
      refine own_viaH (fun _ kq => XS.iconst X72_.here hx rfl (hb hby at_151) kq) ?_
      show own_FinH _ _ _ _ _ _ _ _ _ T72_ (mkF m 152 #[.val (.int p1), .val (.int p2), .val (.int p3), .val (.int p4), .val (.int p5), .val (.int (3 : Int32)), .val (.int c1), .val (.int c2), .val (.int c3), .val (.int c4), .val (.ref xA), .val (.ref xB), .val (.int (1 : Int32))] [(.int (2 : Int32)), (.ref xB)])
      obtain ⟨cq73_, kq73_, q73_a, q73_b, q73_c⟩ := isOf hZ hh72_ r64_
      obtain ⟨_, _, ⟨T73_, L73_, k73_, n73_⟩, -, X73_, ⟨Lc73_, hQ73_, l73_, y73_, z73_⟩, st73_⟩ := X72_.virtualBack hx (y := (⟨"java/lang/String", "charAt", "(I)C"⟩ : MethodName)) (z := (⟨"java/lang/String", "charAt", "(I)C"⟩ : MethodName)) hown (mvT hZ (own_w hw 155 rfl)) (mvT hZ (own_w hw 156 rfl)) (notFace_of_selects (args := #[]) (mvT hZ (own_w hw 158 rfl))) (mvT hZ (own_w hw 158 rfl)) (mvT hZ (own_w hw 157 rfl)) (by decide) (backOf (W := 0) (own_rm_chAt l Z a0 hw [] xB cz uB kuB cdB MB wsB [own_fc c1, own_fc c2, own_fc c3] fm (2 : Int32) 2 T62_.heap n0 (Nat.le_trans Z0 (Nat.le_trans K56_.1 K62_.1)) ((O0.keep K56_ all0).keep K62_ all0) S1 (by first | assumption | decide) S2 r_fm S3 S4 S5 r64_ r65_ r66_ r67_ hcB (by simp) hrd rfl (by simp)) hZ (own_w hw 159 rfl) (own_w hw 10 rfl) (by decide) (by decide)) q73_a q73_c (g := (mkF m 152 #[.val (.int p1), .val (.int p2), .val (.int p3), .val (.int p4), .val (.int p5), .val (.int (3 : Int32)), .val (.int c1), .val (.int c2), .val (.int c3), .val (.int c4), .val (.ref xA), .val (.ref xB), .val (.int (1 : Int32))] [(.int (2 : Int32)), (.ref xB)])) rfl (by rw [hml]; rfl) (Steps.refl _) (argsL := [(.int (2 : Int32))]) (rest := []) (lenOf own_pd34 rfl) rfl (by show 2 * 0 + _ ≤ _; exact Nat.le_of_eq rfl) (hb hby at_152) (fun _ _ => ⟨rfl, hh72_, (by decide : 0 + 0 + 0 + 0 + 0 + 4 + 8 + 0 + 0 + 0 + 0 + 0 + 0 ≤ _), (by decide : 0 + 0 + 0 + 0 + 0 + 19 + 48 + 0 + 0 + 0 + 0 + 0 + 0 ≤ _)⟩)
      dsimp only [Pt.U, Pt.locs, Pt.cells, Pt.slots] at X73_ l73_ y73_ z73_ st73_ hQ73_
      subst l73_ y73_ z73_
      obtain ⟨rfl, Nq73_, hh73_⟩ := hQ73_
      have N73_ := Fr.app N72_ Nq73_
      refine own_viaH (fun _ kq => st73_.trans kq) ?_
      show own_FinH _ _ _ _ _ _ _ _ _ T73_ (mkF m 155 #[.val (.int p1), .val (.int p2), .val (.int p3), .val (.int p4), .val (.int p5), .val (.int (3 : Int32)), .val (.int c1), .val (.int c2), .val (.int c3), .val (.int c4), .val (.ref xA), .val (.ref xB), .val (.int (1 : Int32))] [(.int ([own_fc c1, own_fc c2, own_fc c3].getD 2 0))])
      refine own_viaH (fun _ kq => XS.iload X73_.here hx rfl (hb hby at_155) rfl kq) ?_
      show own_FinH _ _ _ _ _ _ _ _ _ T73_ (mkF m 157 #[.val (.int p1), .val (.int p2), .val (.int p3), .val (.int p4), .val (.int p5), .val (.int (3 : Int32)), .val (.int c1), .val (.int c2), .val (.int c3), .val (.int c4), .val (.ref xA), .val (.ref xB), .val (.int (1 : Int32))] [(.int c3), (.int ([own_fc c1, own_fc c2, own_fc c3].getD 2 0))])
      obtain ⟨_, _, ⟨T74_, L74_, k74_, n74_⟩, -, X74_, ⟨Lc74_, hQ74_, l74_, y74_, z74_⟩, st74_⟩ := Jvm.LawKit.callS X73_ hx (y := (⟨"com/example/even_rows/evenrows/mapping/SqlNameFoldedPinLaw", "fold", "(C)C"⟩ : MethodName)) hown (mvT hZ (own_w hw 171 rfl)) (mvT hZ (own_w hw 172 rfl)) (mvT hZ (own_w hw 3 rfl)) (mvT hZ (own_w hw 173 rfl)) (by decide) (backOf (W := 1) (own_rm_foldC l Z a0 hw [] c3 T62_.heap n0 (Nat.le_trans Z0 (Nat.le_trans K56_.1 K62_.1)) hc3) hZ (own_w hw 173 rfl) (own_w hw 3 rfl) (by decide) (by decide)) (g := (mkF m 157 #[.val (.int p1), .val (.int p2), .val (.int p3), .val (.int p4), .val (.int p5), .val (.int (3 : Int32)), .val (.int c1), .val (.int c2), .val (.int c3), .val (.int c4), .val (.ref xA), .val (.ref xB), .val (.int (1 : Int32))] [(.int c3), (.int ([own_fc c1, own_fc c2, own_fc c3].getD 2 0))])) rfl (by rw [hml]; rfl) (argsL := [(.int c3)]) (rest := [(.int ([own_fc c1, own_fc c2, own_fc c3].getD 2 0))]) (lenOf own_pd37 rfl) rfl (by show 2 * 0 + _ ≤ _; exact Nat.le_of_eq rfl) (hb hby at_157) (fun _ _ => ⟨rfl, hh73_, (by decide : 0 + 0 + 0 + 0 + 0 + 4 + 8 + 0 + 0 + 0 + 0 + 0 + 0 + 0 ≤ _), (by decide : 0 + 0 + 0 + 0 + 0 + 19 + 48 + 0 + 0 + 0 + 0 + 0 + 0 + 0 ≤ _)⟩)
      dsimp only [Pt.U, Pt.locs, Pt.cells, Pt.slots] at X74_ l74_ y74_ z74_ st74_ hQ74_
      subst l74_ y74_ z74_
      obtain ⟨rfl, Nq74_, hh74_⟩ := hQ74_
      have N74_ := Fr.app N73_ Nq74_
      refine own_viaH (fun _ kq => st74_ _ kq) ?_
      show own_FinH _ _ _ _ _ _ _ _ _ T74_ (mkF m 160 #[.val (.int p1), .val (.int p2), .val (.int p3), .val (.int p4), .val (.int p5), .val (.int (3 : Int32)), .val (.int c1), .val (.int c2), .val (.int c3), .val (.int c4), .val (.ref xA), .val (.ref xB), .val (.int (1 : Int32))] [(.int (own_fc c3)), (.int ([own_fc c1, own_fc c2, own_fc c3].getD 2 0))])
      refine own_viaH (fun _ kq => XS.icmpNo X74_.here hx rfl (hb hby at_160) rfl (teq rfl).2 kq) ?_
      show own_FinH _ _ _ _ _ _ _ _ _ T74_ (mkF m 163 #[.val (.int p1), .val (.int p2), .val (.int p3), .val (.int p4), .val (.int p5), .val (.int (3 : Int32)), .val (.int c1), .val (.int c2), .val (.int c3), .val (.int c4), .val (.ref xA), .val (.ref xB), .val (.int (1 : Int32))] [])
      refine own_viaH (fun _ kq => XS.iconst X74_.here hx rfl (hb hby at_163) kq) ?_
      refine own_viaH (fun _ kq => XS.goto X74_.here hx rfl (pc0 := 164) (pc' := 168) rfl (hb hby at_164) (by decide) (by decide) kq) ?_
      refine own_viaH (fun _ kq => XS.istore X74_.here hx rfl (hb hby at_168) rfl (l' := #[.val (.int p1), .val (.int p2), .val (.int p3), .val (.int p4), .val (.int p5), .val (.int (3 : Int32)), .val (.int c1), .val (.int c2), .val (.int c3), .val (.int c4), .val (.ref xA), .val (.ref xB), .val (.int (1 : Int32))]) rfl kq) ?_
      refine own_viaH (fun _ kq => XS.iload X74_.here hx rfl (hb hby at_170) rfl kq) ?_
      refine own_viaH (fun _ kq => XS.iconst X74_.here hx rfl (hb hby at_172) kq) ?_
      refine own_viaH (fun _ kq => XS.icmpYes X74_.here hx rfl (pc0 := 173) (pc' := 202) rfl (hb hby at_173) rfl (flt (by decide)).2.2.2 (by decide) (by decide) kq) ?_
      show own_FinH _ _ _ _ _ _ _ _ _ T74_ (mkF m 202 #[.val (.int p1), .val (.int p2), .val (.int p3), .val (.int p4), .val (.int p5), .val (.int (3 : Int32)), .val (.int c1), .val (.int c2), .val (.int c3), .val (.int c4), .val (.ref xA), .val (.ref xB), .val (.int (1 : Int32))] [])
      refine own_viaH (fun _ kq => XS.iload X74_.here hx rfl (hb hby at_202) rfl kq) ?_
      show own_FinH _ _ _ _ _ _ _ _ _ T74_ (mkF m 204 #[.val (.int p1), .val (.int p2), .val (.int p3), .val (.int p4), .val (.int p5), .val (.int (3 : Int32)), .val (.int c1), .val (.int c2), .val (.int c3), .val (.int c4), .val (.ref xA), .val (.ref xB), .val (.int (1 : Int32))] [(.int (1 : Int32))])
      have C75_ := C0.trans (CHr.keep K56_ sf0 H0)
      have H75_ := C75_.1
      have C76_ := C75_.trans (CHr.keep K62_ sf0 H75_)
      have H76_ := C76_.1
      exact own_retNH X74_ hx (t := .boolean) Bd.returns Bd.notSynchronized (own_ew hw) hZ hS0 (Nat.le_trans hk0 (Nat.le_trans K56_.1 K62_.1)) hh C76_ (by simp) (hb hby at_204) hh74_ (by decide) ⟨rfl, N74_⟩ (by decide) (by decide)
    · show own_FinH _ _ _ _ _ _ _ _ _ T4_ (mkF m 33 #[.val (.int p1), .val (.int p2), .val (.int p3), .val (.int p4), .val (.int p5), .val (.int (4 : Int32)), .val (.int c1), .val (.int c2), .val (.int c3), .val (.int c4), .unset, .unset, .unset] [])
      refine own_viaH (fun _ kq => XS.iload X4_.here hx rfl (hb hby at_33) rfl kq) ?_
      refine own_viaH (fun _ kq => XS.iload X4_.here hx rfl (hb hby at_35) rfl kq) ?_
      refine own_viaH (fun _ kq => XS.iload X4_.here hx rfl (hb hby at_37) rfl kq) ?_
      refine own_viaH (fun _ kq => XS.iload X4_.here hx rfl (hb hby at_39) rfl kq) ?_
      refine own_viaH (fun _ kq => XS.iload X4_.here hx rfl (hb hby at_41) rfl kq) ?_
      show own_FinH _ _ _ _ _ _ _ _ _ T4_ (mkF m 43 #[.val (.int p1), .val (.int p2), .val (.int p3), .val (.int p4), .val (.int p5), .val (.int (4 : Int32)), .val (.int c1), .val (.int c2), .val (.int c3), .val (.int c4), .unset, .unset, .unset] [(.int c4), (.int c3), (.int c2), (.int c1), (.int (4 : Int32))])
      have hrs : own_chs [c1, c2, c3, c4] := (own_ch4 hc1 hc2 hc3 hc4)
      have hrd : own_chs [own_fc c1, own_fc c2, own_fc c3, own_fc c4] := own_fcs4 hrs
      obtain ⟨_, _, ⟨T77_, L77_, k77_, n77_⟩, -, X77_, ⟨Lc77_, hQ77_, l77_, y77_, z77_⟩, st77_⟩ := Jvm.LawKit.callS X4_ hx (y := (⟨"com/example/even_rows/evenrows/mapping/SqlNameFoldedPinLaw", "make", "(ICCCC)Ljava/lang/String;"⟩ : MethodName)) hown (mvT hZ (own_w hw 5 rfl)) (mvT hZ (own_w hw 6 rfl)) (mvT hZ (own_w hw 3 rfl)) (mvT hZ (own_w hw 7 rfl)) (by decide) (backOf (W := 0) (own_rm_make4 l Z a0 hw [] c1 c2 c3 c4 cz h0 n0 Z0 O0 S1 (by first | assumption | decide) S3 S4 S5 (by first | assumption | decide) (by first | assumption | decide) (by first | assumption | decide) (by first | assumption | decide)) hZ (own_w hw 7 rfl) (own_w hw 3 rfl) (by decide) (by decide)) (g := (mkF m 43 #[.val (.int p1), .val (.int p2), .val (.int p3), .val (.int p4), .val (.int p5), .val (.int (4 : Int32)), .val (.int c1), .val (.int c2), .val (.int c3), .val (.int c4), .unset, .unset, .unset] [(.int c4), (.int c3), (.int c2), (.int c1), (.int (4 : Int32))])) rfl (by rw [hml]; rfl) (argsL := [(.int (4 : Int32)), (.int c1), (.int c2), (.int c3), (.int c4)]) (rest := []) (lenOf own_pd35 rfl) rfl (by show 2 * 0 + _ ≤ _; exact Nat.le_of_eq rfl) (hb hby at_43) (fun _ _ => ⟨rfl, hh4_, (by decide : 0 + 0 + 0 + 0 + 0 + 4 ≤ _), (by decide : 0 + 0 + 0 + 0 + 0 + 20 ≤ _)⟩)
      dsimp only [Pt.U, Pt.locs, Pt.cells, Pt.slots] at X77_ l77_ y77_ z77_ st77_ hQ77_
      subst l77_ y77_ z77_
      obtain ⟨xA, uA, kuA, cdA, MA, wsA, rfl, Nq77_, K77_, r78_, r79_, r80_, r81_, r82_, hcA⟩ := hQ77_
      have N77_ := Fr.app N4_ Nq77_
      refine own_viaH (fun _ kq => st77_ _ kq) ?_
      show own_FinH _ _ _ _ _ _ _ _ _ T77_ (mkF m 46 #[.val (.int p1), .val (.int p2), .val (.int p3), .val (.int p4), .val (.int p5), .val (.int (4 : Int32)), .val (.int c1), .val (.int c2), .val (.int c3), .val (.int c4), .unset, .unset, .unset] [(.ref xA)])
      refine own_viaH (fun _ kq => XS.astore X77_.here hx rfl (hb hby at_46) rfl rfl (l' := #[.val (.int p1), .val (.int p2), .val (.int p3), .val (.int p4), .val (.int p5), .val (.int (4 : Int32)), .val (.int c1), .val (.int c2), .val (.int c3), .val (.int c4), .val (.ref xA), .unset, .unset]) rfl kq) ?_
      refine own_viaH (fun _ kq => XS.aload X77_.here hx rfl (hb hby at_48) rfl rfl kq) ?_
      show own_FinH _ _ _ _ _ _ _ _ _ T77_ (mkF m 50 #[.val (.int p1), .val (.int p2), .val (.int p3), .val (.int p4), .val (.int p5), .val (.int (4 : Int32)), .val (.int c1), .val (.int c2), .val (.int c3), .val (.int c4), .val (.ref xA), .unset, .unset] [(.ref xA)])
      obtain ⟨_, _, ⟨T83_, L83_, k83_, n83_⟩, -, X83_, ⟨Lc83_, hQ83_, l83_, y83_, z83_⟩, st83_⟩ := Jvm.LawKit.callS X77_ hx (y := (⟨"com/example/even_rows/evenrows/mapping/SqlName", "folded", "(Ljava/lang/String;)Ljava/lang/String;"⟩ : MethodName)) hown (mvT hZ (own_w hw 30 rfl)) (mvT hZ (own_w hw 31 rfl)) (mvT hZ (own_w hw 32 rfl)) (mvT hZ (own_w hw 33 rfl)) (by decide) (backOf (W := 0) (own_rm_fold4 l Z a0 hw [] xA cz uA kuA cdA MA wsA c1 c2 c3 c4 fm T77_.heap n0 (Nat.le_trans Z0 K77_.1) (O0.keep K77_ all0) S1 (by first | assumption | decide) S2 r_fm S3 S4 S5 r79_ r80_ r81_ r82_ hcA hrs) hZ (own_w hw 33 rfl) (own_w hw 32 rfl) (by decide) (by decide)) (g := (mkF m 50 #[.val (.int p1), .val (.int p2), .val (.int p3), .val (.int p4), .val (.int p5), .val (.int (4 : Int32)), .val (.int c1), .val (.int c2), .val (.int c3), .val (.int c4), .val (.ref xA), .unset, .unset] [(.ref xA)])) rfl (by rw [hml]; rfl) (argsL := [(.ref xA)]) (rest := []) (lenOf own_pd36 rfl) rfl (by show 2 * 0 + _ ≤ _; exact Nat.le_of_eq rfl) (hb hby at_50) (fun _ _ => ⟨rfl, rfl, (by decide : 0 + 0 + 0 + 0 + 0 + 4 + 9 ≤ _), (by decide : 0 + 0 + 0 + 0 + 0 + 20 + 56 ≤ _)⟩)
      dsimp only [Pt.U, Pt.locs, Pt.cells, Pt.slots] at X83_ l83_ y83_ z83_ st83_ hQ83_
      subst l83_ y83_ z83_
      obtain ⟨xB, uB, kuB, cdB, MB, wsB, rfl, Nq83_, K83_, r84_, r85_, r86_, r87_, r88_, hcB⟩ := hQ83_
      have N83_ := Fr.app N77_ Nq83_
      refine own_viaH (fun _ kq => st83_ _ kq) ?_
      show own_FinH _ _ _ _ _ _ _ _ _ T83_ (mkF m 53 #[.val (.int p1), .val (.int p2), .val (.int p3), .val (.int p4), .val (.int p5), .val (.int (4 : Int32)), .val (.int c1), .val (.int c2), .val (.int c3), .val (.int c4), .val (.ref xA), .unset, .unset] [(.ref xB)])
      refine own_viaH (fun _ kq => XS.astore X83_.here hx rfl (hb hby at_53) rfl rfl (l' := #[.val (.int p1), .val (.int p2), .val (.int p3), .val (.int p4), .val (.int p5), .val (.int (4 : Int32)), .val (.int c1), .val (.int c2), .val (.int c3), .val (.int c4), .val (.ref xA), .val (.ref xB), .unset]) rfl kq) ?_
      refine own_viaH (fun _ kq => XS.aload X83_.here hx rfl (hb hby at_55) rfl rfl kq) ?_
      refine own_viaH (fun _ kq => XS.ifnullNo X83_.here hx rfl (hb hby at_57) rfl kq) ?_
      show own_FinH _ _ _ _ _ _ _ _ _ T83_ (mkF m 60 #[.val (.int p1), .val (.int p2), .val (.int p3), .val (.int p4), .val (.int p5), .val (.int (4 : Int32)), .val (.int c1), .val (.int c2), .val (.int c3), .val (.int c4), .val (.ref xA), .val (.ref xB), .unset] [])
      refine own_viaH (fun _ kq => XS.aload X83_.here hx rfl (hb hby at_60) rfl rfl kq) ?_
      show own_FinH _ _ _ _ _ _ _ _ _ T83_ (mkF m 62 #[.val (.int p1), .val (.int p2), .val (.int p3), .val (.int p4), .val (.int p5), .val (.int (4 : Int32)), .val (.int c1), .val (.int c2), .val (.int c3), .val (.int c4), .val (.ref xA), .val (.ref xB), .unset] [(.ref xB)])
      obtain ⟨cq89_, kq89_, q89_a, q89_b, q89_c⟩ := isOf hZ rfl r85_
      obtain ⟨_, _, ⟨T89_, L89_, k89_, n89_⟩, -, X89_, ⟨Lc89_, hQ89_, l89_, y89_, z89_⟩, st89_⟩ := X83_.virtualBack hx (y := (⟨"java/lang/String", "length", "()I"⟩ : MethodName)) (z := (⟨"java/lang/String", "length", "()I"⟩ : MethodName)) hown (mvT hZ (own_w hw 126 rfl)) (mvT hZ (own_w hw 38 rfl)) (notFace_of_selects (args := #[]) (mvT hZ (own_w hw 40 rfl))) (mvT hZ (own_w hw 40 rfl)) (mvT hZ (own_w hw 39 rfl)) (by decide) (backOf (W := 0) (own_rm_len l Z a0 hw [] xB cz uB kuB cdB MB wsB [own_fc c1, own_fc c2, own_fc c3, own_fc c4] T83_.heap n0 (Nat.le_trans Z0 (Nat.le_trans K77_.1 K83_.1)) ((O0.keep K77_ all0).keep K83_ all0) S1 (by first | assumption | decide) r85_ r86_ r87_ r88_ hcB (by simp) hrd) hZ (own_w hw 41 rfl) (own_w hw 10 rfl) (by decide) (by decide)) q89_a q89_c (g := (mkF m 62 #[.val (.int p1), .val (.int p2), .val (.int p3), .val (.int p4), .val (.int p5), .val (.int (4 : Int32)), .val (.int c1), .val (.int c2), .val (.int c3), .val (.int c4), .val (.ref xA), .val (.ref xB), .unset] [(.ref xB)])) rfl (by rw [hml]; rfl) (Steps.refl _) (argsL := []) (rest := []) (lenOf own_pd21 rfl) rfl (by show 2 * 0 + _ ≤ _; exact Nat.le_of_eq rfl) (hb hby at_62) (fun _ _ => ⟨rfl, rfl, (by decide : 0 + 0 + 0 + 0 + 0 + 4 + 9 + 0 ≤ _), (by decide : 0 + 0 + 0 + 0 + 0 + 20 + 56 + 0 ≤ _)⟩)
      dsimp only [Pt.U, Pt.locs, Pt.cells, Pt.slots] at X89_ l89_ y89_ z89_ st89_ hQ89_
      subst l89_ y89_ z89_
      obtain ⟨rfl, Nq89_, hh89_⟩ := hQ89_
      have N89_ := Fr.app N83_ Nq89_
      refine own_viaH (fun _ kq => st89_.trans kq) ?_
      show own_FinH _ _ _ _ _ _ _ _ _ T89_ (mkF m 65 #[.val (.int p1), .val (.int p2), .val (.int p3), .val (.int p4), .val (.int p5), .val (.int (4 : Int32)), .val (.int c1), .val (.int c2), .val (.int c3), .val (.int c4), .val (.ref xA), .val (.ref xB), .unset] [(.int (Int32.ofNat [own_fc c1, own_fc c2, own_fc c3, own_fc c4].length))])
      refine own_viaH (fun _ kq => XS.iload X89_.here hx rfl (hb hby at_65) rfl kq) ?_
      refine own_viaH (fun _ kq => XS.icmpYes X89_.here hx rfl (pc0 := 67) (pc' := 72) rfl (hb hby at_67) rfl (teq rfl).1 (by decide) (by decide) kq) ?_
      show own_FinH _ _ _ _ _ _ _ _ _ T89_ (mkF m 72 #[.val (.int p1), .val (.int p2), .val (.int p3), .val (.int p4), .val (.int p5), .val (.int (4 : Int32)), .val (.int c1), .val (.int c2), .val (.int c3), .val (.int c4), .val (.ref xA), .val (.ref xB), .unset] [])
      refine own_viaH (fun _ kq => XS.iconst X89_.here hx rfl (hb hby at_72) kq) ?_
      refine own_viaH (fun _ kq => XS.istore X89_.here hx rfl (hb hby at_73) rfl (l' := #[.val (.int p1), .val (.int p2), .val (.int p3), .val (.int p4), .val (.int p5), .val (.int (4 : Int32)), .val (.int c1), .val (.int c2), .val (.int c3), .val (.int c4), .val (.ref xA), .val (.ref xB), .val (.int (1 : Int32))]) rfl kq) ?_
      refine own_viaH (fun _ kq => XS.iload X89_.here hx rfl (hb hby at_75) rfl kq) ?_
      refine own_viaH (fun _ kq => XS.ifNo X89_.here hx rfl (hb hby at_77) rfl ((if0 _ _).trans (tlt (by decide)).2.2.2) kq) ?_
      show own_FinH _ _ _ _ _ _ _ _ _ T89_ (mkF m 80 #[.val (.int p1), .val (.int p2), .val (.int p3), .val (.int p4), .val (.int p5), .val (.int (4 : Int32)), .val (.int c1), .val (.int c2), .val (.int c3), .val (.int c4), .val (.ref xA), .val (.ref xB), .val (.int (1 : Int32))] [])
      refine own_viaH (fun _ kq => XS.iload X89_.here hx rfl (hb hby at_80) rfl kq) ?_
      refine own_viaH (fun _ kq => XS.ifNo X89_.here hx rfl (hb hby at_82) rfl ((if0 _ _).trans (feq (by decide)).1) kq) ?_
      show own_FinH _ _ _ _ _ _ _ _ _ T89_ (mkF m 85 #[.val (.int p1), .val (.int p2), .val (.int p3), .val (.int p4), .val (.int p5), .val (.int (4 : Int32)), .val (.int c1), .val (.int c2), .val (.int c3), .val (.int c4), .val (.ref xA), .val (.ref xB), .val (.int (1 : Int32))] [])
      refine own_viaH (fun _ kq => XS.aload X89_.here hx rfl (hb hby at_85) rfl rfl kq) ?_
      refine own_viaH (fun _ kq => XS.iconst X89_.here hx rfl (hb hby at_87) kq) ?_
      show own_FinH _ _ _ _ _ _ _ _ _ T89_ (mkF m 88 #[.val (.int p1), .val (.int p2), .val (.int p3), .val (.int p4), .val (.int p5), .val (.int (4 : Int32)), .val (.int c1), .val (.int c2), .val (.int c3), .val (.int c4), .val (.ref xA), .val (.ref xB), .val (.int (1 : Int32))] [(.int (0 : Int32)), (.ref xB)])
      obtain ⟨cq90_, kq90_, q90_a, q90_b, q90_c⟩ := isOf hZ hh89_ r85_
      obtain ⟨_, _, ⟨T90_, L90_, k90_, n90_⟩, -, X90_, ⟨Lc90_, hQ90_, l90_, y90_, z90_⟩, st90_⟩ := X89_.virtualBack hx (y := (⟨"java/lang/String", "charAt", "(I)C"⟩ : MethodName)) (z := (⟨"java/lang/String", "charAt", "(I)C"⟩ : MethodName)) hown (mvT hZ (own_w hw 155 rfl)) (mvT hZ (own_w hw 156 rfl)) (notFace_of_selects (args := #[]) (mvT hZ (own_w hw 158 rfl))) (mvT hZ (own_w hw 158 rfl)) (mvT hZ (own_w hw 157 rfl)) (by decide) (backOf (W := 0) (own_rm_chAt l Z a0 hw [] xB cz uB kuB cdB MB wsB [own_fc c1, own_fc c2, own_fc c3, own_fc c4] fm (0 : Int32) 0 T83_.heap n0 (Nat.le_trans Z0 (Nat.le_trans K77_.1 K83_.1)) ((O0.keep K77_ all0).keep K83_ all0) S1 (by first | assumption | decide) S2 r_fm S3 S4 S5 r85_ r86_ r87_ r88_ hcB (by simp) hrd rfl (by simp)) hZ (own_w hw 159 rfl) (own_w hw 10 rfl) (by decide) (by decide)) q90_a q90_c (g := (mkF m 88 #[.val (.int p1), .val (.int p2), .val (.int p3), .val (.int p4), .val (.int p5), .val (.int (4 : Int32)), .val (.int c1), .val (.int c2), .val (.int c3), .val (.int c4), .val (.ref xA), .val (.ref xB), .val (.int (1 : Int32))] [(.int (0 : Int32)), (.ref xB)])) rfl (by rw [hml]; rfl) (Steps.refl _) (argsL := [(.int (0 : Int32))]) (rest := []) (lenOf own_pd34 rfl) rfl (by show 2 * 0 + _ ≤ _; exact Nat.le_of_eq rfl) (hb hby at_88) (fun _ _ => ⟨rfl, hh89_, (by decide : 0 + 0 + 0 + 0 + 0 + 4 + 9 + 0 + 0 ≤ _), (by decide : 0 + 0 + 0 + 0 + 0 + 20 + 56 + 0 + 0 ≤ _)⟩)
      dsimp only [Pt.U, Pt.locs, Pt.cells, Pt.slots] at X90_ l90_ y90_ z90_ st90_ hQ90_
      subst l90_ y90_ z90_
      obtain ⟨rfl, Nq90_, hh90_⟩ := hQ90_
      have N90_ := Fr.app N89_ Nq90_
      refine own_viaH (fun _ kq => st90_.trans kq) ?_
      show own_FinH _ _ _ _ _ _ _ _ _ T90_ (mkF m 91 #[.val (.int p1), .val (.int p2), .val (.int p3), .val (.int p4), .val (.int p5), .val (.int (4 : Int32)), .val (.int c1), .val (.int c2), .val (.int c3), .val (.int c4), .val (.ref xA), .val (.ref xB), .val (.int (1 : Int32))] [(.int ([own_fc c1, own_fc c2, own_fc c3, own_fc c4].getD 0 0))])
      refine own_viaH (fun _ kq => XS.iload X90_.here hx rfl (hb hby at_91) rfl kq) ?_
      show own_FinH _ _ _ _ _ _ _ _ _ T90_ (mkF m 93 #[.val (.int p1), .val (.int p2), .val (.int p3), .val (.int p4), .val (.int p5), .val (.int (4 : Int32)), .val (.int c1), .val (.int c2), .val (.int c3), .val (.int c4), .val (.ref xA), .val (.ref xB), .val (.int (1 : Int32))] [(.int c1), (.int ([own_fc c1, own_fc c2, own_fc c3, own_fc c4].getD 0 0))])
      obtain ⟨_, _, ⟨T91_, L91_, k91_, n91_⟩, -, X91_, ⟨Lc91_, hQ91_, l91_, y91_, z91_⟩, st91_⟩ := Jvm.LawKit.callS X90_ hx (y := (⟨"com/example/even_rows/evenrows/mapping/SqlNameFoldedPinLaw", "fold", "(C)C"⟩ : MethodName)) hown (mvT hZ (own_w hw 171 rfl)) (mvT hZ (own_w hw 172 rfl)) (mvT hZ (own_w hw 3 rfl)) (mvT hZ (own_w hw 173 rfl)) (by decide) (backOf (W := 1) (own_rm_foldC l Z a0 hw [] c1 T83_.heap n0 (Nat.le_trans Z0 (Nat.le_trans K77_.1 K83_.1)) hc1) hZ (own_w hw 173 rfl) (own_w hw 3 rfl) (by decide) (by decide)) (g := (mkF m 93 #[.val (.int p1), .val (.int p2), .val (.int p3), .val (.int p4), .val (.int p5), .val (.int (4 : Int32)), .val (.int c1), .val (.int c2), .val (.int c3), .val (.int c4), .val (.ref xA), .val (.ref xB), .val (.int (1 : Int32))] [(.int c1), (.int ([own_fc c1, own_fc c2, own_fc c3, own_fc c4].getD 0 0))])) rfl (by rw [hml]; rfl) (argsL := [(.int c1)]) (rest := [(.int ([own_fc c1, own_fc c2, own_fc c3, own_fc c4].getD 0 0))]) (lenOf own_pd37 rfl) rfl (by show 2 * 0 + _ ≤ _; exact Nat.le_of_eq rfl) (hb hby at_93) (fun _ _ => ⟨rfl, hh90_, (by decide : 0 + 0 + 0 + 0 + 0 + 4 + 9 + 0 + 0 + 0 ≤ _), (by decide : 0 + 0 + 0 + 0 + 0 + 20 + 56 + 0 + 0 + 0 ≤ _)⟩)
      dsimp only [Pt.U, Pt.locs, Pt.cells, Pt.slots] at X91_ l91_ y91_ z91_ st91_ hQ91_
      subst l91_ y91_ z91_
      obtain ⟨rfl, Nq91_, hh91_⟩ := hQ91_
      have N91_ := Fr.app N90_ Nq91_
      refine own_viaH (fun _ kq => st91_ _ kq) ?_
      show own_FinH _ _ _ _ _ _ _ _ _ T91_ (mkF m 96 #[.val (.int p1), .val (.int p2), .val (.int p3), .val (.int p4), .val (.int p5), .val (.int (4 : Int32)), .val (.int c1), .val (.int c2), .val (.int c3), .val (.int c4), .val (.ref xA), .val (.ref xB), .val (.int (1 : Int32))] [(.int (own_fc c1)), (.int ([own_fc c1, own_fc c2, own_fc c3, own_fc c4].getD 0 0))])
      refine own_viaH (fun _ kq => XS.icmpNo X91_.here hx rfl (hb hby at_96) rfl (teq rfl).2 kq) ?_
      show own_FinH _ _ _ _ _ _ _ _ _ T91_ (mkF m 99 #[.val (.int p1), .val (.int p2), .val (.int p3), .val (.int p4), .val (.int p5), .val (.int (4 : Int32)), .val (.int c1), .val (.int c2), .val (.int c3), .val (.int c4), .val (.ref xA), .val (.ref xB), .val (.int (1 : Int32))] [])
      refine own_viaH (fun _ kq => XS.iconst X91_.here hx rfl (hb hby at_99) kq) ?_
      refine own_viaH (fun _ kq => XS.goto X91_.here hx rfl (pc0 := 100) (pc' := 104) rfl (hb hby at_100) (by decide) (by decide) kq) ?_
      refine own_viaH (fun _ kq => XS.istore X91_.here hx rfl (hb hby at_104) rfl (l' := #[.val (.int p1), .val (.int p2), .val (.int p3), .val (.int p4), .val (.int p5), .val (.int (4 : Int32)), .val (.int c1), .val (.int c2), .val (.int c3), .val (.int c4), .val (.ref xA), .val (.ref xB), .val (.int (1 : Int32))]) rfl kq) ?_
      refine own_viaH (fun _ kq => XS.iload X91_.here hx rfl (hb hby at_106) rfl kq) ?_
      refine own_viaH (fun _ kq => XS.iconst X91_.here hx rfl (hb hby at_108) kq) ?_
      refine own_viaH (fun _ kq => XS.icmpNo X91_.here hx rfl (hb hby at_109) rfl (tlt (by decide)).2.2.2 kq) ?_
      show own_FinH _ _ _ _ _ _ _ _ _ T91_ (mkF m 112 #[.val (.int p1), .val (.int p2), .val (.int p3), .val (.int p4), .val (.int p5), .val (.int (4 : Int32)), .val (.int c1), .val (.int c2), .val (.int c3), .val (.int c4), .val (.ref xA), .val (.ref xB), .val (.int (1 : Int32))] [])
      refine own_viaH (fun _ kq => XS.iload X91_.here hx rfl (hb hby at_112) rfl kq) ?_
      refine own_viaH (fun _ kq => XS.ifNo X91_.here hx rfl (hb hby at_114) rfl ((if0 _ _).trans (feq (by decide)).1) kq) ?_
      show own_FinH _ _ _ _ _ _ _ _ _ T91_ (mkF m 117 #[.val (.int p1), .val (.int p2), .val (.int p3), .val (.int p4), .val (.int p5), .val (.int (4 : Int32)), .val (.int c1), .val (.int c2), .val (.int c3), .val (.int c4), .val (.ref xA), .val (.ref xB), .val (.int (1 : Int32))] [])
      refine own_viaH (fun _ kq => XS.aload X91_.here hx rfl (hb hby at_117) rfl rfl kq) ?_
      refine own_viaH (fun _ kq => XS.iconst X91_.here hx rfl (hb hby at_119) kq) ?_
      show own_FinH _ _ _ _ _ _ _ _ _ T91_ (mkF m 120 #[.val (.int p1), .val (.int p2), .val (.int p3), .val (.int p4), .val (.int p5), .val (.int (4 : Int32)), .val (.int c1), .val (.int c2), .val (.int c3), .val (.int c4), .val (.ref xA), .val (.ref xB), .val (.int (1 : Int32))] [(.int (1 : Int32)), (.ref xB)])
      obtain ⟨cq92_, kq92_, q92_a, q92_b, q92_c⟩ := isOf hZ hh91_ r85_
      obtain ⟨_, _, ⟨T92_, L92_, k92_, n92_⟩, -, X92_, ⟨Lc92_, hQ92_, l92_, y92_, z92_⟩, st92_⟩ := X91_.virtualBack hx (y := (⟨"java/lang/String", "charAt", "(I)C"⟩ : MethodName)) (z := (⟨"java/lang/String", "charAt", "(I)C"⟩ : MethodName)) hown (mvT hZ (own_w hw 155 rfl)) (mvT hZ (own_w hw 156 rfl)) (notFace_of_selects (args := #[]) (mvT hZ (own_w hw 158 rfl))) (mvT hZ (own_w hw 158 rfl)) (mvT hZ (own_w hw 157 rfl)) (by decide) (backOf (W := 0) (own_rm_chAt l Z a0 hw [] xB cz uB kuB cdB MB wsB [own_fc c1, own_fc c2, own_fc c3, own_fc c4] fm (1 : Int32) 1 T83_.heap n0 (Nat.le_trans Z0 (Nat.le_trans K77_.1 K83_.1)) ((O0.keep K77_ all0).keep K83_ all0) S1 (by first | assumption | decide) S2 r_fm S3 S4 S5 r85_ r86_ r87_ r88_ hcB (by simp) hrd rfl (by simp)) hZ (own_w hw 159 rfl) (own_w hw 10 rfl) (by decide) (by decide)) q92_a q92_c (g := (mkF m 120 #[.val (.int p1), .val (.int p2), .val (.int p3), .val (.int p4), .val (.int p5), .val (.int (4 : Int32)), .val (.int c1), .val (.int c2), .val (.int c3), .val (.int c4), .val (.ref xA), .val (.ref xB), .val (.int (1 : Int32))] [(.int (1 : Int32)), (.ref xB)])) rfl (by rw [hml]; rfl) (Steps.refl _) (argsL := [(.int (1 : Int32))]) (rest := []) (lenOf own_pd34 rfl) rfl (by show 2 * 0 + _ ≤ _; exact Nat.le_of_eq rfl) (hb hby at_120) (fun _ _ => ⟨rfl, hh91_, (by decide : 0 + 0 + 0 + 0 + 0 + 4 + 9 + 0 + 0 + 0 + 0 ≤ _), (by decide : 0 + 0 + 0 + 0 + 0 + 20 + 56 + 0 + 0 + 0 + 0 ≤ _)⟩)
      dsimp only [Pt.U, Pt.locs, Pt.cells, Pt.slots] at X92_ l92_ y92_ z92_ st92_ hQ92_
      subst l92_ y92_ z92_
      obtain ⟨rfl, Nq92_, hh92_⟩ := hQ92_
      have N92_ := Fr.app N91_ Nq92_
      refine own_viaH (fun _ kq => st92_.trans kq) ?_
      show own_FinH _ _ _ _ _ _ _ _ _ T92_ (mkF m 123 #[.val (.int p1), .val (.int p2), .val (.int p3), .val (.int p4), .val (.int p5), .val (.int (4 : Int32)), .val (.int c1), .val (.int c2), .val (.int c3), .val (.int c4), .val (.ref xA), .val (.ref xB), .val (.int (1 : Int32))] [(.int ([own_fc c1, own_fc c2, own_fc c3, own_fc c4].getD 1 0))])
      refine own_viaH (fun _ kq => XS.iload X92_.here hx rfl (hb hby at_123) rfl kq) ?_
      show own_FinH _ _ _ _ _ _ _ _ _ T92_ (mkF m 125 #[.val (.int p1), .val (.int p2), .val (.int p3), .val (.int p4), .val (.int p5), .val (.int (4 : Int32)), .val (.int c1), .val (.int c2), .val (.int c3), .val (.int c4), .val (.ref xA), .val (.ref xB), .val (.int (1 : Int32))] [(.int c2), (.int ([own_fc c1, own_fc c2, own_fc c3, own_fc c4].getD 1 0))])
      obtain ⟨_, _, ⟨T93_, L93_, k93_, n93_⟩, -, X93_, ⟨Lc93_, hQ93_, l93_, y93_, z93_⟩, st93_⟩ := Jvm.LawKit.callS X92_ hx (y := (⟨"com/example/even_rows/evenrows/mapping/SqlNameFoldedPinLaw", "fold", "(C)C"⟩ : MethodName)) hown (mvT hZ (own_w hw 171 rfl)) (mvT hZ (own_w hw 172 rfl)) (mvT hZ (own_w hw 3 rfl)) (mvT hZ (own_w hw 173 rfl)) (by decide) (backOf (W := 1) (own_rm_foldC l Z a0 hw [] c2 T83_.heap n0 (Nat.le_trans Z0 (Nat.le_trans K77_.1 K83_.1)) hc2) hZ (own_w hw 173 rfl) (own_w hw 3 rfl) (by decide) (by decide)) (g := (mkF m 125 #[.val (.int p1), .val (.int p2), .val (.int p3), .val (.int p4), .val (.int p5), .val (.int (4 : Int32)), .val (.int c1), .val (.int c2), .val (.int c3), .val (.int c4), .val (.ref xA), .val (.ref xB), .val (.int (1 : Int32))] [(.int c2), (.int ([own_fc c1, own_fc c2, own_fc c3, own_fc c4].getD 1 0))])) rfl (by rw [hml]; rfl) (argsL := [(.int c2)]) (rest := [(.int ([own_fc c1, own_fc c2, own_fc c3, own_fc c4].getD 1 0))]) (lenOf own_pd37 rfl) rfl (by show 2 * 0 + _ ≤ _; exact Nat.le_of_eq rfl) (hb hby at_125) (fun _ _ => ⟨rfl, hh92_, (by decide : 0 + 0 + 0 + 0 + 0 + 4 + 9 + 0 + 0 + 0 + 0 + 0 ≤ _), (by decide : 0 + 0 + 0 + 0 + 0 + 20 + 56 + 0 + 0 + 0 + 0 + 0 ≤ _)⟩)
      dsimp only [Pt.U, Pt.locs, Pt.cells, Pt.slots] at X93_ l93_ y93_ z93_ st93_ hQ93_
      subst l93_ y93_ z93_
      obtain ⟨rfl, Nq93_, hh93_⟩ := hQ93_
      have N93_ := Fr.app N92_ Nq93_
      refine own_viaH (fun _ kq => st93_ _ kq) ?_
      show own_FinH _ _ _ _ _ _ _ _ _ T93_ (mkF m 128 #[.val (.int p1), .val (.int p2), .val (.int p3), .val (.int p4), .val (.int p5), .val (.int (4 : Int32)), .val (.int c1), .val (.int c2), .val (.int c3), .val (.int c4), .val (.ref xA), .val (.ref xB), .val (.int (1 : Int32))] [(.int (own_fc c2)), (.int ([own_fc c1, own_fc c2, own_fc c3, own_fc c4].getD 1 0))])
      refine own_viaH (fun _ kq => XS.icmpNo X93_.here hx rfl (hb hby at_128) rfl (teq rfl).2 kq) ?_
      show own_FinH _ _ _ _ _ _ _ _ _ T93_ (mkF m 131 #[.val (.int p1), .val (.int p2), .val (.int p3), .val (.int p4), .val (.int p5), .val (.int (4 : Int32)), .val (.int c1), .val (.int c2), .val (.int c3), .val (.int c4), .val (.ref xA), .val (.ref xB), .val (.int (1 : Int32))] [])
      refine own_viaH (fun _ kq => XS.iconst X93_.here hx rfl (hb hby at_131) kq) ?_
      refine own_viaH (fun _ kq => XS.goto X93_.here hx rfl (pc0 := 132) (pc' := 136) rfl (hb hby at_132) (by decide) (by decide) kq) ?_
      refine own_viaH (fun _ kq => XS.istore X93_.here hx rfl (hb hby at_136) rfl (l' := #[.val (.int p1), .val (.int p2), .val (.int p3), .val (.int p4), .val (.int p5), .val (.int (4 : Int32)), .val (.int c1), .val (.int c2), .val (.int c3), .val (.int c4), .val (.ref xA), .val (.ref xB), .val (.int (1 : Int32))]) rfl kq) ?_
      refine own_viaH (fun _ kq => XS.iload X93_.here hx rfl (hb hby at_138) rfl kq) ?_
      refine own_viaH (fun _ kq => XS.iconst X93_.here hx rfl (hb hby at_140) kq) ?_
      refine own_viaH (fun _ kq => XS.icmpNo X93_.here hx rfl (hb hby at_141) rfl (tlt (by decide)).2.2.2 kq) ?_
      show own_FinH _ _ _ _ _ _ _ _ _ T93_ (mkF m 144 #[.val (.int p1), .val (.int p2), .val (.int p3), .val (.int p4), .val (.int p5), .val (.int (4 : Int32)), .val (.int c1), .val (.int c2), .val (.int c3), .val (.int c4), .val (.ref xA), .val (.ref xB), .val (.int (1 : Int32))] [])
      refine own_viaH (fun _ kq => XS.iload X93_.here hx rfl (hb hby at_144) rfl kq) ?_
      refine own_viaH (fun _ kq => XS.ifNo X93_.here hx rfl (hb hby at_146) rfl ((if0 _ _).trans (feq (by decide)).1) kq) ?_
      show own_FinH _ _ _ _ _ _ _ _ _ T93_ (mkF m 149 #[.val (.int p1), .val (.int p2), .val (.int p3), .val (.int p4), .val (.int p5), .val (.int (4 : Int32)), .val (.int c1), .val (.int c2), .val (.int c3), .val (.int c4), .val (.ref xA), .val (.ref xB), .val (.int (1 : Int32))] [])
      refine own_viaH (fun _ kq => XS.aload X93_.here hx rfl (hb hby at_149) rfl rfl kq) ?_
      refine own_viaH (fun _ kq => XS.iconst X93_.here hx rfl (hb hby at_151) kq) ?_
      show own_FinH _ _ _ _ _ _ _ _ _ T93_ (mkF m 152 #[.val (.int p1), .val (.int p2), .val (.int p3), .val (.int p4), .val (.int p5), .val (.int (4 : Int32)), .val (.int c1), .val (.int c2), .val (.int c3), .val (.int c4), .val (.ref xA), .val (.ref xB), .val (.int (1 : Int32))] [(.int (2 : Int32)), (.ref xB)])
      obtain ⟨cq94_, kq94_, q94_a, q94_b, q94_c⟩ := isOf hZ hh93_ r85_
      obtain ⟨_, _, ⟨T94_, L94_, k94_, n94_⟩, -, X94_, ⟨Lc94_, hQ94_, l94_, y94_, z94_⟩, st94_⟩ := X93_.virtualBack hx (y := (⟨"java/lang/String", "charAt", "(I)C"⟩ : MethodName)) (z := (⟨"java/lang/String", "charAt", "(I)C"⟩ : MethodName)) hown (mvT hZ (own_w hw 155 rfl)) (mvT hZ (own_w hw 156 rfl)) (notFace_of_selects (args := #[]) (mvT hZ (own_w hw 158 rfl))) (mvT hZ (own_w hw 158 rfl)) (mvT hZ (own_w hw 157 rfl)) (by decide) (backOf (W := 0) (own_rm_chAt l Z a0 hw [] xB cz uB kuB cdB MB wsB [own_fc c1, own_fc c2, own_fc c3, own_fc c4] fm (2 : Int32) 2 T83_.heap n0 (Nat.le_trans Z0 (Nat.le_trans K77_.1 K83_.1)) ((O0.keep K77_ all0).keep K83_ all0) S1 (by first | assumption | decide) S2 r_fm S3 S4 S5 r85_ r86_ r87_ r88_ hcB (by simp) hrd rfl (by simp)) hZ (own_w hw 159 rfl) (own_w hw 10 rfl) (by decide) (by decide)) q94_a q94_c (g := (mkF m 152 #[.val (.int p1), .val (.int p2), .val (.int p3), .val (.int p4), .val (.int p5), .val (.int (4 : Int32)), .val (.int c1), .val (.int c2), .val (.int c3), .val (.int c4), .val (.ref xA), .val (.ref xB), .val (.int (1 : Int32))] [(.int (2 : Int32)), (.ref xB)])) rfl (by rw [hml]; rfl) (Steps.refl _) (argsL := [(.int (2 : Int32))]) (rest := []) (lenOf own_pd34 rfl) rfl (by show 2 * 0 + _ ≤ _; exact Nat.le_of_eq rfl) (hb hby at_152) (fun _ _ => ⟨rfl, hh93_, (by decide : 0 + 0 + 0 + 0 + 0 + 4 + 9 + 0 + 0 + 0 + 0 + 0 + 0 ≤ _), (by decide : 0 + 0 + 0 + 0 + 0 + 20 + 56 + 0 + 0 + 0 + 0 + 0 + 0 ≤ _)⟩)
      dsimp only [Pt.U, Pt.locs, Pt.cells, Pt.slots] at X94_ l94_ y94_ z94_ st94_ hQ94_
      subst l94_ y94_ z94_
      obtain ⟨rfl, Nq94_, hh94_⟩ := hQ94_
      have N94_ := Fr.app N93_ Nq94_
      refine own_viaH (fun _ kq => st94_.trans kq) ?_
      show own_FinH _ _ _ _ _ _ _ _ _ T94_ (mkF m 155 #[.val (.int p1), .val (.int p2), .val (.int p3), .val (.int p4), .val (.int p5), .val (.int (4 : Int32)), .val (.int c1), .val (.int c2), .val (.int c3), .val (.int c4), .val (.ref xA), .val (.ref xB), .val (.int (1 : Int32))] [(.int ([own_fc c1, own_fc c2, own_fc c3, own_fc c4].getD 2 0))])
      refine own_viaH (fun _ kq => XS.iload X94_.here hx rfl (hb hby at_155) rfl kq) ?_
      show own_FinH _ _ _ _ _ _ _ _ _ T94_ (mkF m 157 #[.val (.int p1), .val (.int p2), .val (.int p3), .val (.int p4), .val (.int p5), .val (.int (4 : Int32)), .val (.int c1), .val (.int c2), .val (.int c3), .val (.int c4), .val (.ref xA), .val (.ref xB), .val (.int (1 : Int32))] [(.int c3), (.int ([own_fc c1, own_fc c2, own_fc c3, own_fc c4].getD 2 0))])
      obtain ⟨_, _, ⟨T95_, L95_, k95_, n95_⟩, -, X95_, ⟨Lc95_, hQ95_, l95_, y95_, z95_⟩, st95_⟩ := Jvm.LawKit.callS X94_ hx (y := (⟨"com/example/even_rows/evenrows/mapping/SqlNameFoldedPinLaw", "fold", "(C)C"⟩ : MethodName)) hown (mvT hZ (own_w hw 171 rfl)) (mvT hZ (own_w hw 172 rfl)) (mvT hZ (own_w hw 3 rfl)) (mvT hZ (own_w hw 173 rfl)) (by decide) (backOf (W := 1) (own_rm_foldC l Z a0 hw [] c3 T83_.heap n0 (Nat.le_trans Z0 (Nat.le_trans K77_.1 K83_.1)) hc3) hZ (own_w hw 173 rfl) (own_w hw 3 rfl) (by decide) (by decide)) (g := (mkF m 157 #[.val (.int p1), .val (.int p2), .val (.int p3), .val (.int p4), .val (.int p5), .val (.int (4 : Int32)), .val (.int c1), .val (.int c2), .val (.int c3), .val (.int c4), .val (.ref xA), .val (.ref xB), .val (.int (1 : Int32))] [(.int c3), (.int ([own_fc c1, own_fc c2, own_fc c3, own_fc c4].getD 2 0))])) rfl (by rw [hml]; rfl) (argsL := [(.int c3)]) (rest := [(.int ([own_fc c1, own_fc c2, own_fc c3, own_fc c4].getD 2 0))]) (lenOf own_pd37 rfl) rfl (by show 2 * 0 + _ ≤ _; exact Nat.le_of_eq rfl) (hb hby at_157) (fun _ _ => ⟨rfl, hh94_, (by decide : 0 + 0 + 0 + 0 + 0 + 4 + 9 + 0 + 0 + 0 + 0 + 0 + 0 + 0 ≤ _), (by decide : 0 + 0 + 0 + 0 + 0 + 20 + 56 + 0 + 0 + 0 + 0 + 0 + 0 + 0 ≤ _)⟩)
      dsimp only [Pt.U, Pt.locs, Pt.cells, Pt.slots] at X95_ l95_ y95_ z95_ st95_ hQ95_
      subst l95_ y95_ z95_
      obtain ⟨rfl, Nq95_, hh95_⟩ := hQ95_
      have N95_ := Fr.app N94_ Nq95_
      refine own_viaH (fun _ kq => st95_ _ kq) ?_
      show own_FinH _ _ _ _ _ _ _ _ _ T95_ (mkF m 160 #[.val (.int p1), .val (.int p2), .val (.int p3), .val (.int p4), .val (.int p5), .val (.int (4 : Int32)), .val (.int c1), .val (.int c2), .val (.int c3), .val (.int c4), .val (.ref xA), .val (.ref xB), .val (.int (1 : Int32))] [(.int (own_fc c3)), (.int ([own_fc c1, own_fc c2, own_fc c3, own_fc c4].getD 2 0))])
      refine own_viaH (fun _ kq => XS.icmpNo X95_.here hx rfl (hb hby at_160) rfl (teq rfl).2 kq) ?_
      show own_FinH _ _ _ _ _ _ _ _ _ T95_ (mkF m 163 #[.val (.int p1), .val (.int p2), .val (.int p3), .val (.int p4), .val (.int p5), .val (.int (4 : Int32)), .val (.int c1), .val (.int c2), .val (.int c3), .val (.int c4), .val (.ref xA), .val (.ref xB), .val (.int (1 : Int32))] [])
      refine own_viaH (fun _ kq => XS.iconst X95_.here hx rfl (hb hby at_163) kq) ?_
      refine own_viaH (fun _ kq => XS.goto X95_.here hx rfl (pc0 := 164) (pc' := 168) rfl (hb hby at_164) (by decide) (by decide) kq) ?_
      refine own_viaH (fun _ kq => XS.istore X95_.here hx rfl (hb hby at_168) rfl (l' := #[.val (.int p1), .val (.int p2), .val (.int p3), .val (.int p4), .val (.int p5), .val (.int (4 : Int32)), .val (.int c1), .val (.int c2), .val (.int c3), .val (.int c4), .val (.ref xA), .val (.ref xB), .val (.int (1 : Int32))]) rfl kq) ?_
      refine own_viaH (fun _ kq => XS.iload X95_.here hx rfl (hb hby at_170) rfl kq) ?_
      refine own_viaH (fun _ kq => XS.iconst X95_.here hx rfl (hb hby at_172) kq) ?_
      refine own_viaH (fun _ kq => XS.icmpNo X95_.here hx rfl (hb hby at_173) rfl (tlt (by decide)).2.2.2 kq) ?_
      show own_FinH _ _ _ _ _ _ _ _ _ T95_ (mkF m 176 #[.val (.int p1), .val (.int p2), .val (.int p3), .val (.int p4), .val (.int p5), .val (.int (4 : Int32)), .val (.int c1), .val (.int c2), .val (.int c3), .val (.int c4), .val (.ref xA), .val (.ref xB), .val (.int (1 : Int32))] [])
      refine own_viaH (fun _ kq => XS.iload X95_.here hx rfl (hb hby at_176) rfl kq) ?_
      refine own_viaH (fun _ kq => XS.ifNo X95_.here hx rfl (hb hby at_178) rfl ((if0 _ _).trans (feq (by decide)).1) kq) ?_
      show own_FinH _ _ _ _ _ _ _ _ _ T95_ (mkF m 181 #[.val (.int p1), .val (.int p2), .val (.int p3), .val (.int p4), .val (.int p5), .val (.int (4 : Int32)), .val (.int c1), .val (.int c2), .val (.int c3), .val (.int c4), .val (.ref xA), .val (.ref xB), .val (.int (1 : Int32))] [])
      refine own_viaH (fun _ kq => XS.aload X95_.here hx rfl (hb hby at_181) rfl rfl kq) ?_
      refine own_viaH (fun _ kq => XS.iconst X95_.here hx rfl (hb hby at_183) kq) ?_
      show own_FinH _ _ _ _ _ _ _ _ _ T95_ (mkF m 184 #[.val (.int p1), .val (.int p2), .val (.int p3), .val (.int p4), .val (.int p5), .val (.int (4 : Int32)), .val (.int c1), .val (.int c2), .val (.int c3), .val (.int c4), .val (.ref xA), .val (.ref xB), .val (.int (1 : Int32))] [(.int (3 : Int32)), (.ref xB)])
      obtain ⟨cq96_, kq96_, q96_a, q96_b, q96_c⟩ := isOf hZ hh95_ r85_
      obtain ⟨_, _, ⟨T96_, L96_, k96_, n96_⟩, -, X96_, ⟨Lc96_, hQ96_, l96_, y96_, z96_⟩, st96_⟩ := X95_.virtualBack hx (y := (⟨"java/lang/String", "charAt", "(I)C"⟩ : MethodName)) (z := (⟨"java/lang/String", "charAt", "(I)C"⟩ : MethodName)) hown (mvT hZ (own_w hw 155 rfl)) (mvT hZ (own_w hw 156 rfl)) (notFace_of_selects (args := #[]) (mvT hZ (own_w hw 158 rfl))) (mvT hZ (own_w hw 158 rfl)) (mvT hZ (own_w hw 157 rfl)) (by decide) (backOf (W := 0) (own_rm_chAt l Z a0 hw [] xB cz uB kuB cdB MB wsB [own_fc c1, own_fc c2, own_fc c3, own_fc c4] fm (3 : Int32) 3 T83_.heap n0 (Nat.le_trans Z0 (Nat.le_trans K77_.1 K83_.1)) ((O0.keep K77_ all0).keep K83_ all0) S1 (by first | assumption | decide) S2 r_fm S3 S4 S5 r85_ r86_ r87_ r88_ hcB (by simp) hrd rfl (by simp)) hZ (own_w hw 159 rfl) (own_w hw 10 rfl) (by decide) (by decide)) q96_a q96_c (g := (mkF m 184 #[.val (.int p1), .val (.int p2), .val (.int p3), .val (.int p4), .val (.int p5), .val (.int (4 : Int32)), .val (.int c1), .val (.int c2), .val (.int c3), .val (.int c4), .val (.ref xA), .val (.ref xB), .val (.int (1 : Int32))] [(.int (3 : Int32)), (.ref xB)])) rfl (by rw [hml]; rfl) (Steps.refl _) (argsL := [(.int (3 : Int32))]) (rest := []) (lenOf own_pd34 rfl) rfl (by show 2 * 0 + _ ≤ _; exact Nat.le_of_eq rfl) (hb hby at_184) (fun _ _ => ⟨rfl, hh95_, (by decide : 0 + 0 + 0 + 0 + 0 + 4 + 9 + 0 + 0 + 0 + 0 + 0 + 0 + 0 + 0 ≤ _), (by decide : 0 + 0 + 0 + 0 + 0 + 20 + 56 + 0 + 0 + 0 + 0 + 0 + 0 + 0 + 0 ≤ _)⟩)
      dsimp only [Pt.U, Pt.locs, Pt.cells, Pt.slots] at X96_ l96_ y96_ z96_ st96_ hQ96_
      subst l96_ y96_ z96_
      obtain ⟨rfl, Nq96_, hh96_⟩ := hQ96_
      have N96_ := Fr.app N95_ Nq96_
      refine own_viaH (fun _ kq => st96_.trans kq) ?_
      show own_FinH _ _ _ _ _ _ _ _ _ T96_ (mkF m 187 #[.val (.int p1), .val (.int p2), .val (.int p3), .val (.int p4), .val (.int p5), .val (.int (4 : Int32)), .val (.int c1), .val (.int c2), .val (.int c3), .val (.int c4), .val (.ref xA), .val (.ref xB), .val (.int (1 : Int32))] [(.int ([own_fc c1, own_fc c2, own_fc c3, own_fc c4].getD 3 0))])
      refine own_viaH (fun _ kq => XS.iload X96_.here hx rfl (hb hby at_187) rfl kq) ?_
      show own_FinH _ _ _ _ _ _ _ _ _ T96_ (mkF m 189 #[.val (.int p1), .val (.int p2), .val (.int p3), .val (.int p4), .val (.int p5), .val (.int (4 : Int32)), .val (.int c1), .val (.int c2), .val (.int c3), .val (.int c4), .val (.ref xA), .val (.ref xB), .val (.int (1 : Int32))] [(.int c4), (.int ([own_fc c1, own_fc c2, own_fc c3, own_fc c4].getD 3 0))])
      obtain ⟨_, _, ⟨T97_, L97_, k97_, n97_⟩, -, X97_, ⟨Lc97_, hQ97_, l97_, y97_, z97_⟩, st97_⟩ := Jvm.LawKit.callS X96_ hx (y := (⟨"com/example/even_rows/evenrows/mapping/SqlNameFoldedPinLaw", "fold", "(C)C"⟩ : MethodName)) hown (mvT hZ (own_w hw 171 rfl)) (mvT hZ (own_w hw 172 rfl)) (mvT hZ (own_w hw 3 rfl)) (mvT hZ (own_w hw 173 rfl)) (by decide) (backOf (W := 1) (own_rm_foldC l Z a0 hw [] c4 T83_.heap n0 (Nat.le_trans Z0 (Nat.le_trans K77_.1 K83_.1)) hc4) hZ (own_w hw 173 rfl) (own_w hw 3 rfl) (by decide) (by decide)) (g := (mkF m 189 #[.val (.int p1), .val (.int p2), .val (.int p3), .val (.int p4), .val (.int p5), .val (.int (4 : Int32)), .val (.int c1), .val (.int c2), .val (.int c3), .val (.int c4), .val (.ref xA), .val (.ref xB), .val (.int (1 : Int32))] [(.int c4), (.int ([own_fc c1, own_fc c2, own_fc c3, own_fc c4].getD 3 0))])) rfl (by rw [hml]; rfl) (argsL := [(.int c4)]) (rest := [(.int ([own_fc c1, own_fc c2, own_fc c3, own_fc c4].getD 3 0))]) (lenOf own_pd37 rfl) rfl (by show 2 * 0 + _ ≤ _; exact Nat.le_of_eq rfl) (hb hby at_189) (fun _ _ => ⟨rfl, hh96_, (by decide : 0 + 0 + 0 + 0 + 0 + 4 + 9 + 0 + 0 + 0 + 0 + 0 + 0 + 0 + 0 + 0 ≤ _), (by decide : 0 + 0 + 0 + 0 + 0 + 20 + 56 + 0 + 0 + 0 + 0 + 0 + 0 + 0 + 0 + 0 ≤ _)⟩)
      dsimp only [Pt.U, Pt.locs, Pt.cells, Pt.slots] at X97_ l97_ y97_ z97_ st97_ hQ97_
      subst l97_ y97_ z97_
      obtain ⟨rfl, Nq97_, hh97_⟩ := hQ97_
      have N97_ := Fr.app N96_ Nq97_
      refine own_viaH (fun _ kq => st97_ _ kq) ?_
      show own_FinH _ _ _ _ _ _ _ _ _ T97_ (mkF m 192 #[.val (.int p1), .val (.int p2), .val (.int p3), .val (.int p4), .val (.int p5), .val (.int (4 : Int32)), .val (.int c1), .val (.int c2), .val (.int c3), .val (.int c4), .val (.ref xA), .val (.ref xB), .val (.int (1 : Int32))] [(.int (own_fc c4)), (.int ([own_fc c1, own_fc c2, own_fc c3, own_fc c4].getD 3 0))])
      refine own_viaH (fun _ kq => XS.icmpNo X97_.here hx rfl (hb hby at_192) rfl (teq rfl).2 kq) ?_
      show own_FinH _ _ _ _ _ _ _ _ _ T97_ (mkF m 195 #[.val (.int p1), .val (.int p2), .val (.int p3), .val (.int p4), .val (.int p5), .val (.int (4 : Int32)), .val (.int c1), .val (.int c2), .val (.int c3), .val (.int c4), .val (.ref xA), .val (.ref xB), .val (.int (1 : Int32))] [])
      refine own_viaH (fun _ kq => XS.iconst X97_.here hx rfl (hb hby at_195) kq) ?_
      refine own_viaH (fun _ kq => XS.goto X97_.here hx rfl (pc0 := 196) (pc' := 200) rfl (hb hby at_196) (by decide) (by decide) kq) ?_
      refine own_viaH (fun _ kq => XS.istore X97_.here hx rfl (hb hby at_200) rfl (l' := #[.val (.int p1), .val (.int p2), .val (.int p3), .val (.int p4), .val (.int p5), .val (.int (4 : Int32)), .val (.int c1), .val (.int c2), .val (.int c3), .val (.int c4), .val (.ref xA), .val (.ref xB), .val (.int (1 : Int32))]) rfl kq) ?_
      refine own_viaH (fun _ kq => XS.iload X97_.here hx rfl (hb hby at_202) rfl kq) ?_
      show own_FinH _ _ _ _ _ _ _ _ _ T97_ (mkF m 204 #[.val (.int p1), .val (.int p2), .val (.int p3), .val (.int p4), .val (.int p5), .val (.int (4 : Int32)), .val (.int c1), .val (.int c2), .val (.int c3), .val (.int c4), .val (.ref xA), .val (.ref xB), .val (.int (1 : Int32))] [(.int (1 : Int32))])
      have C98_ := C0.trans (CHr.keep K77_ sf0 H0)
      have H98_ := C98_.1
      have C99_ := C98_.trans (CHr.keep K83_ sf0 H98_)
      have H99_ := C99_.1
      exact own_retNH X97_ hx (t := .boolean) Bd.returns Bd.notSynchronized (own_ew hw) hZ hS0 (Nat.le_trans hk0 (Nat.le_trans K77_.1 K83_.1)) hh C99_ (by simp) (hb hby at_204) hh97_ (by decide) ⟨rfl, N97_⟩ (by decide) (by decide)
  exact s33 _ (own_n05 p1)
set_option maxRecDepth 65536 in
set_option maxHeartbeats 40000000 in
theorem comes_1 {Post : Tables → Env → Array Value → State → Outcome → State → Prop} (hpost : ∀ tb e args s v u, (limb_1_1.after args s (.returned v) u = true ∧ limb_1_2.after args s (.returned v) u = true ∧ True) → ReturnedEndW s (.returned v) u (Jvm.fieldLocs frame_1_writes args s ++ Jvm.arrayLocs frame_1_arrays args s ++ Jvm.staticLocs frame_1_statics s) 32 1216 → Post tb e args s (.returned v) u) :
    ArmFor flags0 classFile x code maxLocals ret World_1 tables_1 room_1 Calls_1 rest_1 Pre_1 Post := by
  intro l hfl _ _ p e ha hc hk s m args below hf hA hF happ hP
  obtain ⟨hcalls, hrest, hpre⟩ := hP
  obtain ⟨-, -, -, hnamed, -, -, -, hat⟩ := (Spec.applies_iff hf).mp happ
  obtain ⟨hg, hn⟩ := and_e (Cond.before_iff.mp (show (Jvm.Cond.and given_1 narrow_1).before args s = true from hpre))
  obtain ⟨g0, k0⟩ := and_e hg
  obtain ⟨g1, k1⟩ := and_e k0
  obtain ⟨g2, k2⟩ := and_e k1
  obtain ⟨g3, k3⟩ := and_e k2
  obtain ⟨g4, k4⟩ := and_e k3
  have g5 := k4
  obtain ⟨w0, w1, w2, w3, w4, rfl⟩ : ∃ w0 w1 w2 w3 w4 : Value, args = #[w0, w1, w2, w3, w4] := by
    have hs : args.size = 5 := by simpa [Cond.value, given_1] using g0
    obtain ⟨L⟩ := args
    match L, hs with
    | [w0, w1, w2, w3, w4], _ => exact ⟨w0, w1, w2, w3, w4, rfl⟩
  have hw := fun d (hd : d ∈ tables_1) => atoms_spec (ws := Jvm.Cond.code x code maxLocals ret :: tables_1) hat d (List.mem_cons_of_mem _ hd)
  have hfit : Fit s := fun {y c} hc i hi => by
    obtain ⟨ha, rfl⟩ := Array.getElem?_eq_some_iff.mp hc
    have q := List.all_eq_true.mp ((Array.all_eq_true_iff_forall_mem.mp hF) _ (Array.getElem_mem ha)) i (List.mem_range.mpr hi)
    simpa [Array.getElem?_eq_getElem hi] using q
  obtain ⟨hsets, hown0⟩ := atoms_of _ (rest_1_c_eq ▸ (show rest_1_c.before _ s = true from hrest))
  have hr0 := Cond.before_iff.mp hown0
  obtain ⟨i0, ei0⟩ := is_v g1
  obtain rfl : w0 = (.int i0) := Option.some.inj ei0
  obtain ⟨i1, ei1⟩ := is_v g2
  obtain rfl : w1 = (.int i1) := Option.some.inj ei1
  obtain ⟨i2, ei2⟩ := is_v g3
  obtain rfl : w2 = (.int i2) := Option.some.inj ei2
  obtain ⟨i3, ei3⟩ := is_v g4
  obtain rfl : w3 = (.int i3) := Option.some.inj ei3
  obtain ⟨i4, ei4⟩ := is_v g5
  obtain rfl : w4 = (.int i4) := Option.some.inj ei4
  have n3 := not_v (Cond.before_iff.mp (hsets _ (List.mem_of_getElem? (i := 2) rfl)))
  obtain ⟨cz, ecz⟩ := is_v (Cond.before_iff.mp (hsets _ (List.mem_of_getElem? (i := 1) rfl)))
  have S8 : Sta s s.heap "java/lang/String" "COMPACT_STRINGS" "Z" (.int cz) := Sta.start ecz (Or.inl (hsets _ (List.mem_of_getElem? (i := 0) rfl)))
  have c13 : ¬ (cz = (0 : Int32)) := gotF (Cond.eq_ints ecz (Term.int_eval (0))) n3
  obtain ⟨fm, efm, rfm⟩ := isR_v (Cond.before_iff.mp (hsets _ (List.mem_of_getElem? (i := 8) rfl)))
  have S9 : Sta s s.heap "jdk/internal/util/Preconditions" "SIOOBE_FORMATTER" "Ljava/util/function/BiFunction;" fm := Sta.start efm (Or.inl (hsets _ (List.mem_of_getElem? (i := 7) rfl)))
  have Sua : Sta s s.heap "java/lang/StringUTF16" "$assertionsDisabled" "Z" (.int (1 : Int32)) := Sta.start (own_eqi (Cond.before_iff.mp (hsets _ (List.mem_of_getElem? (i := 12) rfl)))) (Or.inl (hsets _ (List.mem_of_getElem? (i := 11) rfl)))
  have Suh : Sta s s.heap "java/lang/StringUTF16" "HI_BYTE_SHIFT" "I" (.int (0 : Int32)) := Sta.start (own_eqi (Cond.before_iff.mp (hsets _ (List.mem_of_getElem? (i := 15) rfl)))) (Or.inl (hsets _ (List.mem_of_getElem? (i := 14) rfl)))
  have Sul : Sta s s.heap "java/lang/StringUTF16" "LO_BYTE_SHIFT" "I" (.int (8 : Int32)) := Sta.start (own_eqi (Cond.before_iff.mp (hsets _ (List.mem_of_getElem? (i := 18) rfl)))) (Or.inl (hsets _ (List.mem_of_getElem? (i := 17) rfl)))
  obtain ⟨n, o, h1, h2, h3, _, L, rfl, ⟨rfl, N⟩, -, hq⟩ := own_rm_law l s _ hw tables_1 i0 i1 i2 i3 i4 cz fm s.heap s.heap.size (Nat.le_refl _) (Old.start s) S8 c13 S9 rfm Sua Suh Sul p e ha hc hk s m _ below hf ((Spec.applies_iff_loose hf).mp happ).1 ⟨rfl, State.Warmed39.refl s, rfl, CHv.start (own_ew hw) (fun q hq => hcalls.1 q hq) (hsets _ (List.mem_of_getElem? (i := 2) rfl)) (own_w hw 23 rfl) (own_w hw 9 rfl)⟩ trivial
  refine ⟨n, _, h1, h2, h3, hpost _ _ _ _ _ _ ⟨Cond.after_iff.mpr rfl, Cond.after_iff.mpr (eq_i res_at (Term.int_eval (1)) rfl), trivial⟩ ⟨hq.1, hq.2.1, hq.2.2.1, (hq.2.2.2.sift fun y hy => Or.inr (N y hy)).mono (by decide) (by decide)⟩⟩
theorem main_1_1 : Claimed_1_1 := comes_1 fun _ _ _ _ _ _ h hF => ⟨h.1, hF⟩
theorem main_1_2 : Claimed_1_2 := comes_1 fun _ _ _ _ _ _ h hF => ⟨h.2.1, hF⟩
end Jvm.Pilot.@@N@@
namespace Jvm.Pilot.@@N@@
open Jvm Jvm.ClassFile Sem Op Lib Jvm.Free Jvm.Stand Jvm.Pilot.@@N@@.Jvm.D
/-! MADE BY PROGRAM (witnessworld.py) out of the Statement's table words and the real class files: 24 classes; the members and pool entries that the words name. The judged class is class 1, her method 1. -/
namespace start1
open Jvm.ClassFile
def u (s : String) : CpInfo := .utf8 (stringToUtf16 s)
/-- a pool by its gaps: so many unusable entries, then the entry; so many at the end -/
def gap : Nat → List CpInfo → List CpInfo
  | 0, r => r
  | n + 1, r => .unusable :: gap n r
def poolList (es : List (Nat × CpInfo)) (last : Nat) : List CpInfo := es.foldr (fun e r => gap e.1 (e.2 :: r)) (gap last [])
def pool (es : List (Nat × CpInfo)) (last : Nat) : Array CpInfo := ⟨poolList es last⟩
def fileOf (pool : Array CpInfo) (this : Nat) (attrs : Array Attribute := #[]) (ms : Array MethodInfo := #[]) (fl : Nat := 33) (sup : Nat := 0) (ifs : Array Nat := #[]) (fds : Array FieldInfo := #[]) : ClassFile where
  minorVersion := 0
  majorVersion := 65
  constantPool := pool
  accessFlags := fl
  thisClass := this
  superClass := sup
  interfaces := ifs
  fields := fds
  methods := ms
  attributes := attrs
def plain (name : String) (sup : Option ClassId) : Class where
  name := name
  kind := .ordinary
  loader := none
  accessFlags := 33
  super := sup
  interfaces := #[]
  cf := none
  fields := #[]
  methods := #[]
  instanceTypes := #[]
  staticTypes := #[]
  resolved := #[]
  callSites := []
  init := .initialized
  statics := none
  mirror := none

def pool0 : Array CpInfo := pool [(5, u "<init>"), (0, u "()V"), (1, .class_ 10), (1, u "java/lang/Object"), (85, u "clone"), (0, u "()Ljava/lang/Object;")] 26

def k0c0 : Code := { maxStack := 0, maxLocals := 1, code := object_method_1_code, exceptionTable := #[], attributes := #[] }
def k0m0 : Method := { name := "<init>", desc := "()V", sig := { parameters := [], returnType := none }, accessFlags := 1, code := some k0c0 }
def k0m1 : Method := { name := "clone", desc := "()Ljava/lang/Object;", sig := { parameters := [], returnType := some (.object "java/lang/Object") }, accessFlags := 260, code := none }
/-- java/lang/Object -/
def k0 : Class := { plain "java/lang/Object" none with
  accessFlags := 33
  interfaces := #[]
  cf := some (fileOf pool0 8 #[] #[{ accessFlags := 1, nameIndex := 5, descriptorIndex := 6, attributes := #[] }, { accessFlags := 260, nameIndex := 96, descriptorIndex := 97, attributes := #[] }] 33 0 #[] #[])
  fields := #[]
  methods := #[k0m0, k0m1]
  instanceTypes := #[]
  staticTypes := #[]
  resolved := Array.replicate 124 none
  statics := none }

def pool1 : Array CpInfo := pool [(2, .class_ 4), (1, u "java/lang/Object"), (0, u "<init>"), (0, u "()V"), (0, .integer 2147483647), (0, .methodref 9 10), (0, .class_ 11), (0, .nameAndType 12 13), (0, u "com/example/even_rows/evenrows/mapping/SqlNameFoldedPinLaw"), (0, u "draw"), (0, u "(I)C"), (0, .methodref 9 15), (0, .nameAndType 16 17), (0, u "make"), (0, u "(ICCCC)Ljava/lang/String;"), (0, .methodref 19 20), (0, .class_ 21), (0, .nameAndType 22 23), (0, u "com/example/even_rows/evenrows/mapping/SqlName"), (0, u "folded"), (0, u "(Ljava/lang/String;)Ljava/lang/String;"), (0, .methodref 25 26), (0, .class_ 27), (0, .nameAndType 28 29), (0, u "java/lang/String"), (0, u "length"), (0, u "()I"), (0, .methodref 25 31), (0, .nameAndType 32 13), (0, u "charAt"), (0, .methodref 9 34), (0, .nameAndType 35 36), (0, u "fold"), (0, u "(C)C"), (0, .methodref 25 38), (0, .nameAndType 5 39), (0, u "([C)V"), (2, u "law"), (0, u "(IIIII)Z")] 3

def k1m0 : Method := { name := "<init>", desc := "()V", sig := { parameters := [], returnType := none }, accessFlags := 1, code := none }
def k1c1 : Code := { maxStack := 5, maxLocals := 13, code := code, exceptionTable := #[], attributes := #[] }
def k1m1 : Method := { name := "law", desc := "(IIIII)Z", sig := { parameters := [.int, .int, .int, .int, .int], returnType := some .boolean }, accessFlags := 9, code := some k1c1 }
def k1c2 : Code := { maxStack := 3, maxLocals := 1, code := method_3_code, exceptionTable := #[], attributes := #[] }
def k1m2 : Method := { name := "draw", desc := "(I)C", sig := { parameters := [.int], returnType := some .char }, accessFlags := 10, code := some k1c2 }
def k1c3 : Code := { maxStack := 2, maxLocals := 1, code := method_4_code, exceptionTable := #[], attributes := #[] }
def k1m3 : Method := { name := "fold", desc := "(C)C", sig := { parameters := [.char], returnType := some .char }, accessFlags := 10, code := some k1c3 }
def k1c4 : Code := { maxStack := 6, maxLocals := 5, code := method_5_code, exceptionTable := #[], attributes := #[] }
def k1m4 : Method := { name := "make", desc := "(ICCCC)Ljava/lang/String;", sig := { parameters := [.int, .char, .char, .char, .char], returnType := some (.object "java/lang/String") }, accessFlags := 10, code := some k1c4 }
/-- com/example/even_rows/evenrows/mapping/SqlNameFoldedPinLaw -/
def k1 : Class := { plain "com/example/even_rows/evenrows/mapping/SqlNameFoldedPinLaw" (some 0) with
  accessFlags := 49
  interfaces := #[]
  cf := some (fileOf pool1 9 #[] #[{ accessFlags := 1, nameIndex := 5, descriptorIndex := 6, attributes := #[] }, { accessFlags := 9, nameIndex := 42, descriptorIndex := 43, attributes := #[] }, { accessFlags := 10, nameIndex := 12, descriptorIndex := 13, attributes := #[] }, { accessFlags := 10, nameIndex := 35, descriptorIndex := 36, attributes := #[] }, { accessFlags := 10, nameIndex := 16, descriptorIndex := 17, attributes := #[] }] 49 2 #[] #[])
  fields := #[]
  methods := #[k1m0, k1m1, k1m2, k1m3, k1m4]
  instanceTypes := #[]
  staticTypes := #[]
  resolved := Array.replicate 47 none
  statics := none }

def pool2 : Array CpInfo := pool [(1, .class_ 2), (0, u "java/io/Serializable"), (0, .class_ 4), (0, u "java/lang/Object")] 2

/-- java/io/Serializable -/
def k2 : Class := { plain "java/io/Serializable" (some 0) with
  accessFlags := 1537
  interfaces := #[]
  cf := some (fileOf pool2 1 #[] #[] 1537 3 #[] #[])
  fields := #[]
  methods := #[]
  instanceTypes := #[]
  staticTypes := #[]
  resolved := Array.replicate 7 none
  statics := none }

def pool3 : Array CpInfo := pool [(1, .class_ 2), (0, u "java/lang/Comparable"), (0, .class_ 4), (0, u "java/lang/Object")] 7

/-- java/lang/Comparable -/
def k3 : Class := { plain "java/lang/Comparable" (some 0) with
  accessFlags := 1537
  interfaces := #[]
  cf := some (fileOf pool3 1 #[] #[] 1537 3 #[] #[])
  fields := #[]
  methods := #[]
  instanceTypes := #[]
  staticTypes := #[]
  resolved := Array.replicate 12 none
  statics := none }

def pool4 : Array CpInfo := pool [(2, .class_ 4), (1, u "java/lang/CharSequence"), (42, .class_ 48), (0, u "java/lang/CharSequence$1CodePointIterator"), (10, .class_ 60), (0, u "java/lang/CharSequence$1CharIterator"), (5, .class_ 67), (0, u "java/lang/Object")] 63

/-- java/lang/CharSequence -/
def k4 : Class := { plain "java/lang/CharSequence" (some 0) with
  accessFlags := 1537
  interfaces := #[]
  cf := some (fileOf pool4 2 #[.nestMembers #[47, 59]] #[] 1537 66 #[] #[])
  fields := #[]
  methods := #[]
  instanceTypes := #[]
  staticTypes := #[]
  resolved := Array.replicate 131 none
  statics := none }

def pool5 : Array CpInfo := pool [(1, .class_ 2), (0, u "java/lang/constant/Constable"), (0, .class_ 4), (0, u "java/lang/Object")] 6

/-- java/lang/constant/Constable -/
def k5 : Class := { plain "java/lang/constant/Constable" (some 0) with
  accessFlags := 1537
  interfaces := #[]
  cf := some (fileOf pool5 1 #[] #[] 1537 3 #[] #[])
  fields := #[]
  methods := #[]
  instanceTypes := #[]
  staticTypes := #[]
  resolved := Array.replicate 11 none
  statics := none }

def pool6 : Array CpInfo := pool [(1, .class_ 2), (0, u "java/lang/constant/ConstantDesc"), (0, .class_ 4), (0, u "java/lang/Object")] 32

/-- java/lang/constant/ConstantDesc -/
def k6 : Class := { plain "java/lang/constant/ConstantDesc" (some 0) with
  accessFlags := 1537
  interfaces := #[]
  cf := some (fileOf pool6 1 #[] #[] 1537 3 #[] #[])
  fields := #[]
  methods := #[]
  instanceTypes := #[]
  staticTypes := #[]
  resolved := Array.replicate 37 none
  statics := none }

def pool7 : Array CpInfo := pool [(1, .methodref 2 3), (0, .class_ 4), (0, .nameAndType 5 6), (0, u "java/lang/Object"), (0, u "<init>"), (0, u "()V"), (0, .string 8), (0, u ""), (0, .fieldref 10 11), (0, .class_ 12), (0, .nameAndType 13 14), (0, u "java/lang/String"), (0, u "value"), (0, u "[B"), (0, .fieldref 10 16), (0, .nameAndType 17 18), (0, u "coder"), (0, u "B"), (2, u "hash"), (0, u "I"), (2, u "hashIsZero"), (0, u "Z"), (0, .methodref 10 28), (0, .nameAndType 5 29), (0, u "([CIILjava/lang/Void;)V"), (6, u "checkBoundsOffCount"), (0, u "(III)I"), (0, .fieldref 10 39), (0, .nameAndType 40 26), (0, u "COMPACT_STRINGS"), (1, .class_ 44), (1, u "java/lang/StringUTF16"), (0, u "compress"), (1, .methodref 42 48), (0, .nameAndType 49 50), (0, u "coderFromArrayLen"), (0, u "([BI)B"), (3, .methodref 55 56), (0, .class_ 57), (0, .nameAndType 58 59), (0, u "java/util/Arrays"), (0, u "copyOfRange"), (0, u "([BII)[B"), (47, .class_ 109), (1, u "java/lang/StringLatin1"), (32, u "()Z"), (34, .methodref 42 178), (0, .nameAndType 45 179), (0, u "([CII)[B"), (119, .methodref 107 300), (0, .nameAndType 301 302), (0, u "toChars"), (0, u "([B)[C"), (0, .methodref 42 300), (30, u "()I"), (0, .methodref 10 336), (0, .nameAndType 17 337), (0, u "()B"), (2, u "()[B"), (22, u "([BI)C"), (27, u "(II)V"), (35, u "(I)C"), (61, .methodref 10 490), (0, .nameAndType 5 491), (0, u "(Ljava/lang/AbstractStringBuilder;Ljava/lang/Void;)V"), (0, .methodref 10 493), (0, .nameAndType 494 142), (0, u "isLatin1"), (0, .methodref 107 496), (0, .nameAndType 497 363), (0, u "charAt"), (0, .methodref 42 496), (2, u "checkIndex"), (4, .nameAndType 507 334), (0, u "length"), (41, .methodref 550 506), (0, .class_ 551), (0, u "java/lang/AbstractStringBuilder"), (0, .methodref 550 553), (0, .nameAndType 554 340), (0, u "getValue"), (20, .class_ 576), (0, u "java/lang/CharSequence"), (22, u "CASE_INSENSITIVE_ORDER"), (0, u "Ljava/util/Comparator;"), (354, u "toCharArray"), (0, u "()[C"), (53, u "([C)V"), (36, .methodref 550 493), (0, .fieldref 550 1049), (0, .nameAndType 1050 26), (0, u "maybeLatin1"), (2, .fieldref 1054 1055), (0, .class_ 1056), (0, .nameAndType 1057 1058), (0, u "jdk/internal/util/Preconditions"), (0, u "SIOOBE_FORMATTER"), (0, u "Ljava/util/function/BiFunction;"), (0, .methodref 1054 1060), (0, .nameAndType 501 1061), (0, u "(IILjava/util/function/BiFunction;)I"), (2, u "(IIILjava/util/function/BiFunction;)I"), (0, .methodref 1054 1066), (0, .nameAndType 1067 1064), (0, u "checkFromIndexSize"), (33, u "serialPersistentFields"), (0, u "[Ljava/io/ObjectStreamField;"), (0, .class_ 1104), (0, u "java/lang/String$CaseInsensitiveComparator"), (1, .class_ 1107), (0, u "java/io/Serializable"), (0, .class_ 1109), (0, u "java/lang/Comparable"), (0, .class_ 1111), (0, u "java/lang/constant/Constable"), (0, .class_ 1113), (0, u "java/lang/constant/ConstantDesc"), (2, u "serialVersionUID"), (0, u "J"), (3, u "REPL"), (0, u "C"), (2, u "LATIN1"), (1, u "UTF16"), (105, u "(Ljava/lang/StringBuilder;)V")] 217

def k7m0 : Method := { name := "<init>", desc := "()V", sig := { parameters := [], returnType := none }, accessFlags := 1, code := none }
def k7c1 : Code := { maxStack := 5, maxLocals := 2, code := jdk_42_method_3_code, exceptionTable := #[], attributes := #[] }
def k7m1 : Method := { name := "<init>", desc := "([C)V", sig := { parameters := [(.array .char)], returnType := none }, accessFlags := 1, code := some k7c1 }
def k7c2 : Code := { maxStack := 3, maxLocals := 2, code := jdk_42_method_53_code, exceptionTable := #[], attributes := #[] }
def k7m2 : Method := { name := "<init>", desc := "(Ljava/lang/StringBuilder;)V", sig := { parameters := [(.object "java/lang/StringBuilder")], returnType := none }, accessFlags := 1, code := some k7c2 }
def k7c3 : Code := { maxStack := 2, maxLocals := 1, code := jdk_42_method_54_code, exceptionTable := #[], attributes := #[] }
def k7m3 : Method := { name := "length", desc := "()I", sig := { parameters := [], returnType := some .int }, accessFlags := 1, code := some k7c3 }
def k7c4 : Code := { maxStack := 2, maxLocals := 2, code := jdk_42_method_56_code, exceptionTable := #[], attributes := #[] }
def k7m4 : Method := { name := "charAt", desc := "(I)C", sig := { parameters := [.int], returnType := some .char }, accessFlags := 1, code := some k7c4 }
def k7c5 : Code := { maxStack := 1, maxLocals := 1, code := jdk_42_method_129_code, exceptionTable := #[], attributes := #[] }
def k7m5 : Method := { name := "toCharArray", desc := "()[C", sig := { parameters := [], returnType := some (.array .char) }, accessFlags := 1, code := some k7c5 }
def k7c6 : Code := { maxStack := 4, maxLocals := 6, code := jdk_42_method_149_code, exceptionTable := #[], attributes := #[] }
def k7m6 : Method := { name := "<init>", desc := "([CIILjava/lang/Void;)V", sig := { parameters := [(.array .char), .int, .int, (.object "java/lang/Void")], returnType := none }, accessFlags := 2, code := some k7c6 }
def k7c7 : Code := { maxStack := 5, maxLocals := 5, code := jdk_42_method_150_code, exceptionTable := #[], attributes := #[] }
def k7m7 : Method := { name := "<init>", desc := "(Ljava/lang/AbstractStringBuilder;Ljava/lang/Void;)V", sig := { parameters := [(.object "java/lang/AbstractStringBuilder"), (.object "java/lang/Void")], returnType := none }, accessFlags := 0, code := some k7c7 }
def k7c8 : Code := { maxStack := 1, maxLocals := 1, code := jdk_42_method_152_code, exceptionTable := #[], attributes := #[] }
def k7m8 : Method := { name := "coder", desc := "()B", sig := { parameters := [], returnType := some .byte }, accessFlags := 0, code := some k7c8 }
def k7c9 : Code := { maxStack := 1, maxLocals := 1, code := jdk_42_method_154_code, exceptionTable := #[], attributes := #[] }
def k7m9 : Method := { name := "isLatin1", desc := "()Z", sig := { parameters := [], returnType := some .boolean }, accessFlags := 0, code := some k7c9 }
def k7c10 : Code := { maxStack := 3, maxLocals := 2, code := jdk_42_method_155_code, exceptionTable := #[], attributes := #[] }
def k7m10 : Method := { name := "checkIndex", desc := "(II)V", sig := { parameters := [.int, .int], returnType := none }, accessFlags := 8, code := some k7c10 }
def k7c11 : Code := { maxStack := 4, maxLocals := 3, code := jdk_42_method_157_code, exceptionTable := #[], attributes := #[] }
def k7m11 : Method := { name := "checkBoundsOffCount", desc := "(III)I", sig := { parameters := [.int, .int, .int], returnType := some .int }, accessFlags := 8, code := some k7c11 }
/-- java/lang/String -/
def k7 : Class := { plain "java/lang/String" (some 0) with
  accessFlags := 49
  interfaces := #[2, 3, 4, 5, 6]
  cf := some (fileOf pool7 10 #[.nestMembers #[1103]] #[{ accessFlags := 1, nameIndex := 5, descriptorIndex := 6, attributes := #[] }, { accessFlags := 1, nameIndex := 5, descriptorIndex := 1010, attributes := #[] }, { accessFlags := 1, nameIndex := 5, descriptorIndex := 1233, attributes := #[] }, { accessFlags := 1, nameIndex := 507, descriptorIndex := 334, attributes := #[] }, { accessFlags := 1, nameIndex := 497, descriptorIndex := 427, attributes := #[] }, { accessFlags := 1, nameIndex := 955, descriptorIndex := 956, attributes := #[] }, { accessFlags := 2, nameIndex := 5, descriptorIndex := 29, attributes := #[] }, { accessFlags := 0, nameIndex := 5, descriptorIndex := 491, attributes := #[] }, { accessFlags := 0, nameIndex := 17, descriptorIndex := 337, attributes := #[] }, { accessFlags := 0, nameIndex := 494, descriptorIndex := 142, attributes := #[] }, { accessFlags := 8, nameIndex := 501, descriptorIndex := 391, attributes := #[] }, { accessFlags := 8, nameIndex := 36, descriptorIndex := 37, attributes := #[] }] 49 2 #[1106, 1108, 575, 1110, 1112] #[{ accessFlags := 18, nameIndex := 13, descriptorIndex := 14, attributes := #[] }, { accessFlags := 18, nameIndex := 17, descriptorIndex := 18, attributes := #[] }, { accessFlags := 2, nameIndex := 21, descriptorIndex := 22, attributes := #[] }, { accessFlags := 2, nameIndex := 25, descriptorIndex := 26, attributes := #[] }, { accessFlags := 26, nameIndex := 1116, descriptorIndex := 1117, attributes := #[] }, { accessFlags := 24, nameIndex := 40, descriptorIndex := 26, attributes := #[] }, { accessFlags := 26, nameIndex := 1101, descriptorIndex := 1102, attributes := #[] }, { accessFlags := 26, nameIndex := 1121, descriptorIndex := 1122, attributes := #[] }, { accessFlags := 25, nameIndex := 599, descriptorIndex := 600, attributes := #[] }, { accessFlags := 24, nameIndex := 1125, descriptorIndex := 18, attributes := #[] }, { accessFlags := 24, nameIndex := 1127, descriptorIndex := 18, attributes := #[] }])
  fields := #[{ name := "value", type := (.array .byte), accessFlags := 18, slot := 0, constantValue := 0 }, { name := "coder", type := .byte, accessFlags := 18, slot := 1, constantValue := 0 }, { name := "hash", type := .int, accessFlags := 2, slot := 2, constantValue := 0 }, { name := "hashIsZero", type := .boolean, accessFlags := 2, slot := 3, constantValue := 0 }, { name := "serialVersionUID", type := .long, accessFlags := 26, slot := 0, constantValue := 0 }, { name := "COMPACT_STRINGS", type := .boolean, accessFlags := 24, slot := 1, constantValue := 0 }, { name := "serialPersistentFields", type := (.array (.object "java/io/ObjectStreamField")), accessFlags := 26, slot := 2, constantValue := 0 }, { name := "REPL", type := .char, accessFlags := 26, slot := 3, constantValue := 0 }, { name := "CASE_INSENSITIVE_ORDER", type := (.object "java/util/Comparator"), accessFlags := 25, slot := 4, constantValue := 0 }, { name := "LATIN1", type := .byte, accessFlags := 24, slot := 5, constantValue := 0 }, { name := "UTF16", type := .byte, accessFlags := 24, slot := 6, constantValue := 0 }]
  methods := #[k7m0, k7m1, k7m2, k7m3, k7m4, k7m5, k7m6, k7m7, k7m8, k7m9, k7m10, k7m11]
  instanceTypes := #[(.array .byte), .byte, .int, .boolean]
  staticTypes := #[.long, .boolean, (.array (.object "java/io/ObjectStreamField")), .char, (.object "java/util/Comparator"), .byte, .byte]
  resolved := Array.replicate 1451 none
  statics := some 0 }

def pool8 : Array CpInfo := pool [(2, .class_ 4), (1, u "java/lang/Object"), (0, u "<init>"), (0, u "()V"), (0, .methodref 8 9), (0, .class_ 10), (0, .nameAndType 11 12), (0, u "java/lang/String"), (0, u "length"), (0, u "()I"), (22, .class_ 36), (0, u "java/lang/StringBuilder"), (0, .methodref 35 38), (0, .nameAndType 5 39), (0, u "(I)V"), (0, .methodref 8 41), (0, .nameAndType 42 43), (0, u "toCharArray"), (0, u "()[C"), (0, .methodref 35 45), (0, .nameAndType 46 47), (0, u "append"), (0, u "(C)Ljava/lang/StringBuilder;"), (0, .methodref 35 49), (0, .nameAndType 50 51), (0, u "toString"), (0, u "()Ljava/lang/String;"), (1, .class_ 55), (1, u "com/example/even_rows/evenrows/mapping/SqlName"), (1, u "(Ljava/lang/String;)Ljava/lang/String;"), (2, u "folded")] 34

def k8m0 : Method := { name := "<init>", desc := "()V", sig := { parameters := [], returnType := none }, accessFlags := 2, code := none }
def k8c1 : Code := { maxStack := 3, maxLocals := 6, code := prog_7_method_3_code, exceptionTable := #[], attributes := #[] }
def k8m1 : Method := { name := "folded", desc := "(Ljava/lang/String;)Ljava/lang/String;", sig := { parameters := [(.object "java/lang/String")], returnType := some (.object "java/lang/String") }, accessFlags := 9, code := some k8c1 }
/-- com/example/even_rows/evenrows/mapping/SqlName -/
def k8 : Class := { plain "com/example/even_rows/evenrows/mapping/SqlName" (some 0) with
  accessFlags := 49
  interfaces := #[]
  cf := some (fileOf pool8 53 #[] #[{ accessFlags := 2, nameIndex := 5, descriptorIndex := 6, attributes := #[] }, { accessFlags := 9, nameIndex := 60, descriptorIndex := 57, attributes := #[] }] 49 2 #[] #[])
  fields := #[]
  methods := #[k8m0, k8m1]
  instanceTypes := #[]
  staticTypes := #[]
  resolved := Array.replicate 95 none
  statics := none }

def pool9 : Array CpInfo := pool [(1, .class_ 2), (0, u "java/lang/Appendable"), (0, .class_ 4), (0, u "java/lang/Object")] 9

/-- java/lang/Appendable -/
def k9 : Class := { plain "java/lang/Appendable" (some 0) with
  accessFlags := 1537
  interfaces := #[]
  cf := some (fileOf pool9 1 #[] #[] 1537 3 #[] #[])
  fields := #[]
  methods := #[]
  instanceTypes := #[]
  staticTypes := #[]
  resolved := Array.replicate 14 none
  statics := none }

def pool10 : Array CpInfo := pool [(1, .class_ 2), (0, u "java/lang/String"), (0, .methodref 4 5), (0, .class_ 6), (0, .nameAndType 7 8), (0, u "java/lang/Object"), (0, u "<init>"), (0, u "()V"), (1, .class_ 12), (1, u "java/lang/AbstractStringBuilder"), (0, u "EMPTYVALUE"), (0, u "[B"), (0, .fieldref 10 16), (0, .nameAndType 17 14), (0, u "value"), (0, .fieldref 1 19), (0, .nameAndType 20 21), (0, u "COMPACT_STRINGS"), (0, u "Z"), (0, .fieldref 10 23), (0, .nameAndType 24 25), (0, u "coder"), (0, u "B"), (0, .methodref 27 28), (0, .class_ 29), (0, .nameAndType 30 31), (0, u "java/lang/StringUTF16"), (0, u "newBytesFor"), (0, u "(I)[B"), (2, u "length"), (0, u "()I"), (9, u "append"), (2, .class_ 49), (0, u "java/lang/CharSequence"), (25, u "maybeLatin1"), (3, .fieldref 10 80), (0, .nameAndType 81 82), (0, u "count"), (0, u "I"), (0, .methodref 10 84), (0, .nameAndType 85 86), (0, u "isLatin1"), (0, u "()Z"), (1, .class_ 90), (1, u "java/lang/StringLatin1"), (9, .methodref 10 101), (0, .nameAndType 102 103), (0, u "ensureCapacityInternal"), (0, u "(I)V"), (21, .methodref 88 126), (0, .nameAndType 127 128), (0, u "inflate"), (0, u "([BI[BII)V"), (7, u "([BII)V"), (54, .methodref 88 192), (0, .nameAndType 193 194), (0, u "canEncode"), (0, u "(C)Z"), (0, .methodref 10 196), (0, .nameAndType 127 8), (0, .methodref 27 198), (0, .nameAndType 199 136), (0, u "putCharSB"), (92, u "(C)Ljava/lang/AbstractStringBuilder;"), (110, u "()[B"), (40, .class_ 445), (0, u "java/lang/Appendable"), (106, u "getValue")] 56

def k10m0 : Method := { name := "<init>", desc := "()V", sig := { parameters := [], returnType := none }, accessFlags := 0, code := none }
def k10c1 : Code := { maxStack := 2, maxLocals := 2, code := jdk_68_method_2_code, exceptionTable := #[], attributes := #[] }
def k10m1 : Method := { name := "<init>", desc := "(I)V", sig := { parameters := [.int], returnType := none }, accessFlags := 0, code := some k10c1 }
def k10c2 : Code := { maxStack := 1, maxLocals := 1, code := jdk_68_method_6_code, exceptionTable := #[], attributes := #[] }
def k10m2 : Method := { name := "length", desc := "()I", sig := { parameters := [], returnType := some .int }, accessFlags := 1, code := some k10c2 }
def k10c3 : Code := { maxStack := 4, maxLocals := 3, code := jdk_68_method_9_code, exceptionTable := #[], attributes := #[] }
def k10m3 : Method := { name := "ensureCapacityInternal", desc := "(I)V", sig := { parameters := [.int], returnType := none }, accessFlags := 2, code := some k10c3 }
def k10c4 : Code := { maxStack := 5, maxLocals := 2, code := jdk_68_method_11_code, exceptionTable := #[], attributes := #[] }
def k10m4 : Method := { name := "inflate", desc := "()V", sig := { parameters := [], returnType := none }, accessFlags := 2, code := some k10c4 }
def k10c5 : Code := { maxStack := 5, maxLocals := 2, code := jdk_68_method_31_code, exceptionTable := #[], attributes := #[] }
def k10m5 : Method := { name := "append", desc := "(C)Ljava/lang/AbstractStringBuilder;", sig := { parameters := [.char], returnType := some (.object "java/lang/AbstractStringBuilder") }, accessFlags := 1, code := some k10c5 }
def k10c6 : Code := { maxStack := 1, maxLocals := 1, code := jdk_68_method_64_code, exceptionTable := #[], attributes := #[] }
def k10m6 : Method := { name := "getValue", desc := "()[B", sig := { parameters := [], returnType := some (.array .byte) }, accessFlags := 16, code := some k10c6 }
def k10c7 : Code := { maxStack := 1, maxLocals := 1, code := jdk_68_method_68_code, exceptionTable := #[], attributes := #[] }
def k10m7 : Method := { name := "isLatin1", desc := "()Z", sig := { parameters := [], returnType := some .boolean }, accessFlags := 16, code := some k10c7 }
/-- java/lang/AbstractStringBuilder -/
def k10 : Class := { plain "java/lang/AbstractStringBuilder" (some 0) with
  accessFlags := 1056
  interfaces := #[9, 4]
  cf := some (fileOf pool10 10 #[] #[{ accessFlags := 0, nameIndex := 7, descriptorIndex := 8, attributes := #[] }, { accessFlags := 0, nameIndex := 7, descriptorIndex := 103, attributes := #[] }, { accessFlags := 1, nameIndex := 34, descriptorIndex := 35, attributes := #[] }, { accessFlags := 2, nameIndex := 102, descriptorIndex := 103, attributes := #[] }, { accessFlags := 2, nameIndex := 127, descriptorIndex := 8, attributes := #[] }, { accessFlags := 1, nameIndex := 45, descriptorIndex := 292, attributes := #[] }, { accessFlags := 16, nameIndex := 552, descriptorIndex := 403, attributes := #[] }, { accessFlags := 16, nameIndex := 85, descriptorIndex := 86, attributes := #[] }] 1056 4 #[444, 48] #[{ accessFlags := 0, nameIndex := 17, descriptorIndex := 14, attributes := #[] }, { accessFlags := 0, nameIndex := 24, descriptorIndex := 25, attributes := #[] }, { accessFlags := 0, nameIndex := 75, descriptorIndex := 21, attributes := #[] }, { accessFlags := 0, nameIndex := 81, descriptorIndex := 82, attributes := #[] }, { accessFlags := 26, nameIndex := 13, descriptorIndex := 14, attributes := #[] }])
  fields := #[{ name := "value", type := (.array .byte), accessFlags := 0, slot := 0, constantValue := 0 }, { name := "coder", type := .byte, accessFlags := 0, slot := 1, constantValue := 0 }, { name := "maybeLatin1", type := .boolean, accessFlags := 0, slot := 2, constantValue := 0 }, { name := "count", type := .int, accessFlags := 0, slot := 3, constantValue := 0 }, { name := "EMPTYVALUE", type := (.array .byte), accessFlags := 26, slot := 0, constantValue := 0 }]
  methods := #[k10m0, k10m1, k10m2, k10m3, k10m4, k10m5, k10m6, k10m7]
  instanceTypes := #[(.array .byte), .byte, .boolean, .int]
  staticTypes := #[(.array .byte)]
  resolved := Array.replicate 609 none
  statics := none }

def pool11 : Array CpInfo := pool [(1, .methodref 2 3), (0, .class_ 4), (0, .nameAndType 5 6), (0, u "java/lang/AbstractStringBuilder"), (0, u "<init>"), (0, u "(I)V"), (11, .class_ 20), (1, u "java/lang/String"), (3, .class_ 26), (1, u "java/lang/StringBuilder"), (0, u "append"), (22, .methodref 2 51), (0, .nameAndType 27 52), (0, u "(C)Ljava/lang/AbstractStringBuilder;"), (84, .methodref 18 138), (0, .nameAndType 5 139), (0, u "(Ljava/lang/StringBuilder;)V"), (5, u "()V"), (10, u "()I"), (129, u "(C)Ljava/lang/StringBuilder;"), (56, .methodref 2 344), (0, .nameAndType 345 156), (0, u "length"), (3, .class_ 350), (0, u "java/lang/Appendable"), (0, .class_ 352), (0, u "java/io/Serializable"), (0, .class_ 354), (0, u "java/lang/Comparable"), (0, .class_ 356), (0, u "java/lang/CharSequence"), (0, u "serialVersionUID"), (0, u "J"), (40, u "toString"), (0, u "()Ljava/lang/String;")] 21

def k11m0 : Method := { name := "<init>", desc := "()V", sig := { parameters := [], returnType := none }, accessFlags := 1, code := none }
def k11c1 : Code := { maxStack := 2, maxLocals := 2, code := jdk_67_method_2_code, exceptionTable := #[], attributes := #[] }
def k11m1 : Method := { name := "<init>", desc := "(I)V", sig := { parameters := [.int], returnType := none }, accessFlags := 1, code := some k11c1 }
def k11c2 : Code := { maxStack := 2, maxLocals := 2, code := jdk_67_method_14_code, exceptionTable := #[], attributes := #[] }
def k11m2 : Method := { name := "append", desc := "(C)Ljava/lang/StringBuilder;", sig := { parameters := [.char], returnType := some (.object "java/lang/StringBuilder") }, accessFlags := 1, code := some k11c2 }
def k11c3 : Code := { maxStack := 3, maxLocals := 1, code := jdk_67_method_42_code, exceptionTable := #[], attributes := #[] }
def k11m3 : Method := { name := "toString", desc := "()Ljava/lang/String;", sig := { parameters := [], returnType := some (.object "java/lang/String") }, accessFlags := 1, code := some k11c3 }
def k11c4 : Code := { maxStack := 1, maxLocals := 1, code := jdk_67_method_93_code, exceptionTable := #[], attributes := #[] }
def k11m4 : Method := { name := "length", desc := "()I", sig := { parameters := [], returnType := some .int }, accessFlags := 4161, code := some k11c4 }
/-- java/lang/StringBuilder -/
def k11 : Class := { plain "java/lang/StringBuilder" (some 10) with
  accessFlags := 49
  interfaces := #[9, 2, 3, 4]
  cf := some (fileOf pool11 24 #[] #[{ accessFlags := 1, nameIndex := 5, descriptorIndex := 145, attributes := #[] }, { accessFlags := 1, nameIndex := 5, descriptorIndex := 6, attributes := #[] }, { accessFlags := 1, nameIndex := 27, descriptorIndex := 286, attributes := #[] }, { accessFlags := 1, nameIndex := 399, descriptorIndex := 400, attributes := #[] }, { accessFlags := 4161, nameIndex := 345, descriptorIndex := 156, attributes := #[] }] 49 2 #[349, 351, 353, 355] #[{ accessFlags := 24, nameIndex := 357, descriptorIndex := 358, attributes := #[] }])
  fields := #[{ name := "serialVersionUID", type := .long, accessFlags := 24, slot := 0, constantValue := 0 }]
  methods := #[k11m0, k11m1, k11m2, k11m3, k11m4]
  instanceTypes := #[(.array .byte), .byte, .boolean, .int]
  staticTypes := #[.long]
  resolved := Array.replicate 422 none
  statics := none }

def pool12 : Array CpInfo := pool [(1, .class_ 2), (0, u "java/lang/String"), (1, .class_ 6), (1, u "java/lang/Object"), (0, u "<init>"), (0, u "()V"), (0, .methodref 1 10), (0, .nameAndType 11 12), (0, u "checkIndex"), (0, u "(II)V"), (0, .methodref 14 15), (0, .class_ 16), (0, .nameAndType 17 18), (0, u "java/lang/StringLatin1"), (0, u "inflate"), (0, u "([BI[CII)V"), (1, .class_ 22), (1, u "java/lang/StringUTF16"), (3, .nameAndType 17 27), (0, u "([BI[BII)V"), (25, u "([BI)C"), (36, u "canEncode"), (14, u "(C)Z"), (15, u "$assertionsDisabled"), (0, u "Z"), (69, u "toChars"), (28, .class_ 223), (1, u "java/lang/StringLatin1$LinesSpliterator"), (16, .methodref 20 26), (11, u "charAt"), (15, u "([B)[C"), (121, .class_ 391), (0, u "java/lang/StringLatin1$CharsSpliterator")] 3

def k12m0 : Method := { name := "<init>", desc := "()V", sig := { parameters := [], returnType := none }, accessFlags := 0, code := none }
def k12c1 : Code := { maxStack := 2, maxLocals := 2, code := jdk_43_method_2_code, exceptionTable := #[], attributes := #[] }
def k12m1 : Method := { name := "charAt", desc := "([BI)C", sig := { parameters := [(.array .byte), .int], returnType := some .char }, accessFlags := 9, code := some k12c1 }
def k12c2 : Code := { maxStack := 2, maxLocals := 1, code := jdk_43_method_3_code, exceptionTable := #[], attributes := #[] }
def k12m2 : Method := { name := "canEncode", desc := "(C)Z", sig := { parameters := [.char], returnType := some .boolean }, accessFlags := 9, code := some k12c2 }
def k12c3 : Code := { maxStack := 5, maxLocals := 2, code := jdk_43_method_9_code, exceptionTable := #[], attributes := #[] }
def k12m3 : Method := { name := "toChars", desc := "([B)[C", sig := { parameters := [(.array .byte)], returnType := some (.array .char) }, accessFlags := 9, code := some k12c3 }
def k12c4 : Code := { maxStack := 4, maxLocals := 6, code := jdk_43_method_49_code, exceptionTable := #[], attributes := #[] }
def k12m4 : Method := { name := "inflate", desc := "([BI[CII)V", sig := { parameters := [(.array .byte), .int, (.array .char), .int, .int], returnType := none }, accessFlags := 9, code := some k12c4 }
def k12c5 : Code := { maxStack := 5, maxLocals := 5, code := jdk_43_method_50_code, exceptionTable := #[], attributes := #[] }
def k12m5 : Method := { name := "inflate", desc := "([BI[BII)V", sig := { parameters := [(.array .byte), .int, (.array .byte), .int, .int], returnType := none }, accessFlags := 9, code := some k12c5 }
/-- java/lang/StringLatin1 -/
def k12 : Class := { plain "java/lang/StringLatin1" (some 0) with
  accessFlags := 48
  interfaces := #[]
  cf := some (fileOf pool12 14 #[.nestMembers #[390, 221]] #[{ accessFlags := 0, nameIndex := 7, descriptorIndex := 8, attributes := #[] }, { accessFlags := 9, nameIndex := 252, descriptorIndex := 53, attributes := #[] }, { accessFlags := 9, nameIndex := 90, descriptorIndex := 105, attributes := #[] }, { accessFlags := 9, nameIndex := 192, descriptorIndex := 268, attributes := #[] }, { accessFlags := 9, nameIndex := 17, descriptorIndex := 18, attributes := #[] }, { accessFlags := 9, nameIndex := 17, descriptorIndex := 27, attributes := #[] }] 48 4 #[] #[{ accessFlags := 4120, nameIndex := 121, descriptorIndex := 122, attributes := #[] }])
  fields := #[{ name := "$assertionsDisabled", type := .boolean, accessFlags := 4120, slot := 0, constantValue := 0 }]
  methods := #[k12m0, k12m1, k12m2, k12m3, k12m4, k12m5]
  instanceTypes := #[]
  staticTypes := #[.boolean]
  resolved := Array.replicate 395 none
  statics := none }

def pool13 : Array CpInfo := pool [(2, .class_ 4), (1, u "java/lang/Object"), (0, u "<init>"), (0, u "()V"), (7, .class_ 16), (1, u "java/util/Arrays"), (57, .class_ 76), (1, u "java/util/Arrays$NaturalOrder"), (32, u "()Ljava/lang/Object;"), (3, .class_ 115), (1, u "java/util/Arrays$LegacyMergeSort"), (1, u "Z"), (10, .nameAndType 129 109), (0, u "clone"), (9, u "copyOfRange"), (170, .methodref 311 128), (0, .class_ 312), (0, u "[B"), (29, u "([BII)[B"), (32, .class_ 376), (0, u "java/util/Arrays$ArrayList"), (68, u "$assertionsDisabled"), (269, u "MIN_ARRAY_SORT_GRAN"), (0, u "I"), (2, u "INSERTIONSORT_THRESHOLD"), (255, .class_ 976), (0, u "java/util/Arrays$ArrayItr")] 52

def k13m0 : Method := { name := "<init>", desc := "()V", sig := { parameters := [], returnType := none }, accessFlags := 2, code := none }
def k13c1 : Code := { maxStack := 3, maxLocals := 3, code := jdk_65_method_132_code, exceptionTable := #[], attributes := #[] }
def k13m1 : Method := { name := "copyOfRange", desc := "([BII)[B", sig := { parameters := [(.array .byte), .int, .int], returnType := some (.array .byte) }, accessFlags := 9, code := some k13c1 }
/-- java/util/Arrays -/
def k13 : Class := { plain "java/util/Arrays" (some 0) with
  accessFlags := 49
  interfaces := #[]
  cf := some (fileOf pool13 14 #[.nestMembers #[975, 375, 113, 74]] #[{ accessFlags := 2, nameIndex := 5, descriptorIndex := 6, attributes := #[] }, { accessFlags := 9, nameIndex := 139, descriptorIndex := 342, attributes := #[] }] 49 2 #[] #[{ accessFlags := 26, nameIndex := 715, descriptorIndex := 716, attributes := #[] }, { accessFlags := 26, nameIndex := 719, descriptorIndex := 716, attributes := #[] }, { accessFlags := 4120, nameIndex := 445, descriptorIndex := 117, attributes := #[] }])
  fields := #[{ name := "MIN_ARRAY_SORT_GRAN", type := .int, accessFlags := 26, slot := 0, constantValue := 0 }, { name := "INSERTIONSORT_THRESHOLD", type := .int, accessFlags := 26, slot := 1, constantValue := 0 }, { name := "$assertionsDisabled", type := .boolean, accessFlags := 4120, slot := 2, constantValue := 0 }]
  methods := #[k13m0, k13m1]
  instanceTypes := #[]
  staticTypes := #[.int, .int, .boolean]
  resolved := Array.replicate 1029 none
  statics := none }

def pool14 : Array CpInfo := pool [(1, .class_ 2), (0, u "java/lang/Cloneable"), (0, .class_ 4), (0, u "java/lang/Object")] 2

/-- java/lang/Cloneable -/
def k14 : Class := { plain "java/lang/Cloneable" (some 0) with
  accessFlags := 1537
  interfaces := #[]
  cf := some (fileOf pool14 1 #[] #[] 1537 3 #[] #[])
  fields := #[]
  methods := #[]
  instanceTypes := #[]
  staticTypes := #[]
  resolved := Array.replicate 7 none
  statics := none }

def pool15 : Array CpInfo := pool [(3, .class_ 4), (0, u "java/lang/String"), (1, .class_ 8), (1, u "java/lang/Object"), (0, u "<init>"), (0, u "()V"), (0, .methodref 12 13), (0, .class_ 14), (0, .nameAndType 15 16), (0, u "java/lang/StringUTF16"), (0, u "newBytesLength"), (0, u "(I)I"), (3, .integer 1073741823), (23, .fieldref 12 45), (0, .nameAndType 46 47), (0, u "$assertionsDisabled"), (0, u "Z"), (0, .methodref 12 49), (0, .nameAndType 50 51), (0, u "length"), (0, u "([B)I"), (7, .fieldref 12 60), (0, .nameAndType 61 62), (0, u "HI_BYTE_SHIFT"), (0, u "I"), (0, .fieldref 12 64), (0, .nameAndType 65 62), (0, u "LO_BYTE_SHIFT"), (1, .methodref 12 68), (0, .nameAndType 69 70), (0, u "checkIndex"), (0, u "(I[B)V"), (0, .methodref 12 72), (0, .nameAndType 73 74), (0, u "getChar"), (0, u "([BI)C"), (24, u "(II[B)V"), (3, .methodref 12 104), (0, .nameAndType 105 106), (0, u "getChars"), (0, u "([BII[CI)V"), (0, .methodref 12 108), (0, .nameAndType 109 110), (0, u "newBytesFor"), (0, u "(I)[B"), (0, .methodref 12 112), (0, .nameAndType 113 114), (0, u "putChar"), (0, u "([BII)V"), (0, .methodref 12 116), (0, .nameAndType 117 118), (0, u "compress"), (0, u "([CI[BII)I"), (0, .methodref 12 120), (0, .nameAndType 121 122), (0, u "toBytes"), (0, u "([CII)[B"), (17, u "inflate"), (0, u "([BI[BII)V"), (31, .methodref 12 174), (0, .nameAndType 175 99), (0, u "checkBoundsOffCount"), (85, u "coderFromArrayLen"), (0, u "([BI)B"), (18, u "(III)I"), (60, u "toChars"), (26, .class_ 371), (1, u "java/lang/StringUTF16$LinesSpliterator"), (20, u "charAt"), (21, .methodref 3 415), (0, .nameAndType 69 416), (0, u "(II)V"), (2, .methodref 3 420), (0, .nameAndType 175 281), (9, u "MAX_LENGTH"), (23, u "([B)[C"), (131, u "putCharSB"), (40, .class_ 628), (0, u "java/lang/StringUTF16$CodePointsSpliterator"), (0, .class_ 630), (0, u "java/lang/StringUTF16$CharsSpliterator")] 4

def k15m0 : Method := { name := "<init>", desc := "()V", sig := { parameters := [], returnType := none }, accessFlags := 0, code := none }
def k15c1 : Code := { maxStack := 1, maxLocals := 1, code := jdk_52_method_2_code, exceptionTable := #[], attributes := #[] }
def k15m1 : Method := { name := "newBytesFor", desc := "(I)[B", sig := { parameters := [.int], returnType := some (.array .byte) }, accessFlags := 9, code := some k15c1 }
def k15c2 : Code := { maxStack := 4, maxLocals := 1, code := jdk_52_method_3_code, exceptionTable := #[], attributes := #[] }
def k15m2 : Method := { name := "newBytesLength", desc := "(I)I", sig := { parameters := [.int], returnType := some .int }, accessFlags := 9, code := some k15c2 }
def k15c3 : Code := { maxStack := 4, maxLocals := 3, code := jdk_52_method_4_code, exceptionTable := #[], attributes := #[] }
def k15m3 : Method := { name := "putChar", desc := "([BII)V", sig := { parameters := [(.array .byte), .int, .int], returnType := none }, accessFlags := 8, code := some k15c3 }
def k15c4 : Code := { maxStack := 3, maxLocals := 2, code := jdk_52_method_5_code, exceptionTable := #[], attributes := #[] }
def k15m4 : Method := { name := "getChar", desc := "([BI)C", sig := { parameters := [(.array .byte), .int], returnType := some .char }, accessFlags := 8, code := some k15c4 }
def k15c5 : Code := { maxStack := 2, maxLocals := 1, code := jdk_52_method_6_code, exceptionTable := #[], attributes := #[] }
def k15m5 : Method := { name := "length", desc := "([B)I", sig := { parameters := [(.array .byte)], returnType := some .int }, accessFlags := 9, code := some k15c5 }
def k15c6 : Code := { maxStack := 5, maxLocals := 2, code := jdk_52_method_13_code, exceptionTable := #[], attributes := #[] }
def k15m6 : Method := { name := "toChars", desc := "([B)[C", sig := { parameters := [(.array .byte)], returnType := some (.array .char) }, accessFlags := 9, code := some k15c6 }
def k15c7 : Code := { maxStack := 4, maxLocals := 5, code := jdk_52_method_14_code, exceptionTable := #[], attributes := #[] }
def k15m7 : Method := { name := "toBytes", desc := "([CII)[B", sig := { parameters := [(.array .char), .int, .int], returnType := some (.array .byte) }, accessFlags := 9, code := some k15c7 }
def k15c8 : Code := { maxStack := 2, maxLocals := 2, code := jdk_52_method_15_code, exceptionTable := #[], attributes := #[] }
def k15m8 : Method := { name := "coderFromArrayLen", desc := "([BI)B", sig := { parameters := [(.array .byte), .int], returnType := some .byte }, accessFlags := 8, code := some k15c8 }
def k15c9 : Code := { maxStack := 5, maxLocals := 6, code := jdk_52_method_16_code, exceptionTable := #[], attributes := #[] }
def k15m9 : Method := { name := "compress", desc := "([CII)[B", sig := { parameters := [(.array .char), .int, .int], returnType := some (.array .byte) }, accessFlags := 9, code := some k15c9 }
def k15c10 : Code := { maxStack := 3, maxLocals := 7, code := jdk_52_method_21_code, exceptionTable := #[], attributes := #[] }
def k15m10 : Method := { name := "compress", desc := "([CI[BII)I", sig := { parameters := [(.array .char), .int, (.array .byte), .int, .int], returnType := some .int }, accessFlags := 9, code := some k15c10 }
def k15c11 : Code := { maxStack := 4, maxLocals := 6, code := jdk_52_method_26_code, exceptionTable := #[], attributes := #[] }
def k15m11 : Method := { name := "getChars", desc := "([BII[CI)V", sig := { parameters := [(.array .byte), .int, .int, (.array .char), .int], returnType := none }, accessFlags := 9, code := some k15c11 }
def k15c12 : Code := { maxStack := 3, maxLocals := 3, code := jdk_52_method_71_code, exceptionTable := #[], attributes := #[] }
def k15m12 : Method := { name := "putCharSB", desc := "([BII)V", sig := { parameters := [(.array .byte), .int, .int], returnType := none }, accessFlags := 9, code := some k15c12 }
def k15c13 : Code := { maxStack := 2, maxLocals := 2, code := jdk_52_method_83_code, exceptionTable := #[], attributes := #[] }
def k15m13 : Method := { name := "charAt", desc := "([BI)C", sig := { parameters := [(.array .byte), .int], returnType := some .char }, accessFlags := 9, code := some k15c13 }
def k15c14 : Code := { maxStack := 4, maxLocals := 6, code := jdk_52_method_86_code, exceptionTable := #[], attributes := #[] }
def k15m14 : Method := { name := "inflate", desc := "([BI[BII)V", sig := { parameters := [(.array .byte), .int, (.array .byte), .int, .int], returnType := none }, accessFlags := 9, code := some k15c14 }
def k15c15 : Code := { maxStack := 2, maxLocals := 2, code := jdk_52_method_91_code, exceptionTable := #[], attributes := #[] }
def k15m15 : Method := { name := "checkIndex", desc := "(I[B)V", sig := { parameters := [.int, (.array .byte)], returnType := none }, accessFlags := 9, code := some k15c15 }
def k15c16 : Code := { maxStack := 3, maxLocals := 3, code := jdk_52_method_94_code, exceptionTable := #[], attributes := #[] }
def k15m16 : Method := { name := "checkBoundsOffCount", desc := "(II[B)V", sig := { parameters := [.int, .int, (.array .byte)], returnType := none }, accessFlags := 9, code := some k15c16 }
/-- java/lang/StringUTF16 -/
def k15 : Class := { plain "java/lang/StringUTF16" (some 0) with
  accessFlags := 48
  interfaces := #[]
  cf := some (fileOf pool15 12 #[.nestMembers #[627, 629, 369]] #[{ accessFlags := 0, nameIndex := 9, descriptorIndex := 10, attributes := #[] }, { accessFlags := 9, nameIndex := 109, descriptorIndex := 110, attributes := #[] }, { accessFlags := 9, nameIndex := 15, descriptorIndex := 16, attributes := #[] }, { accessFlags := 8, nameIndex := 113, descriptorIndex := 114, attributes := #[] }, { accessFlags := 8, nameIndex := 73, descriptorIndex := 74, attributes := #[] }, { accessFlags := 9, nameIndex := 50, descriptorIndex := 51, attributes := #[] }, { accessFlags := 9, nameIndex := 342, descriptorIndex := 454, attributes := #[] }, { accessFlags := 9, nameIndex := 121, descriptorIndex := 122, attributes := #[] }, { accessFlags := 8, nameIndex := 261, descriptorIndex := 262, attributes := #[] }, { accessFlags := 9, nameIndex := 117, descriptorIndex := 122, attributes := #[] }, { accessFlags := 9, nameIndex := 117, descriptorIndex := 118, attributes := #[] }, { accessFlags := 9, nameIndex := 105, descriptorIndex := 106, attributes := #[] }, { accessFlags := 9, nameIndex := 586, descriptorIndex := 114, attributes := #[] }, { accessFlags := 9, nameIndex := 392, descriptorIndex := 74, attributes := #[] }, { accessFlags := 9, nameIndex := 140, descriptorIndex := 141, attributes := #[] }, { accessFlags := 9, nameIndex := 69, descriptorIndex := 70, attributes := #[] }, { accessFlags := 9, nameIndex := 175, descriptorIndex := 99, attributes := #[] }] 48 6 #[] #[{ accessFlags := 26, nameIndex := 61, descriptorIndex := 62, attributes := #[] }, { accessFlags := 26, nameIndex := 65, descriptorIndex := 62, attributes := #[] }, { accessFlags := 24, nameIndex := 430, descriptorIndex := 62, attributes := #[] }, { accessFlags := 4120, nameIndex := 46, descriptorIndex := 47, attributes := #[] }])
  fields := #[{ name := "HI_BYTE_SHIFT", type := .int, accessFlags := 26, slot := 0, constantValue := 0 }, { name := "LO_BYTE_SHIFT", type := .int, accessFlags := 26, slot := 1, constantValue := 0 }, { name := "MAX_LENGTH", type := .int, accessFlags := 24, slot := 2, constantValue := 0 }, { name := "$assertionsDisabled", type := .boolean, accessFlags := 4120, slot := 3, constantValue := 0 }]
  methods := #[k15m0, k15m1, k15m2, k15m3, k15m4, k15m5, k15m6, k15m7, k15m8, k15m9, k15m10, k15m11, k15m12, k15m13, k15m14, k15m15, k15m16]
  instanceTypes := #[]
  staticTypes := #[.int, .int, .int, .boolean]
  resolved := Array.replicate 635 none
  statics := some 1 }

def pool16 : Array CpInfo := pool [(2, .class_ 4), (1, u "java/lang/Object"), (0, u "<init>"), (0, u "()V"), (17, .class_ 26), (1, u "jdk/internal/util/Preconditions"), (6, u "checkIndex"), (15, u "checkFromIndexSize"), (5, .class_ 56), (0, u "jdk/internal/util/Preconditions$4"), (57, .class_ 115), (0, u "jdk/internal/util/Preconditions$1"), (7, u "SIOOBE_FORMATTER"), (0, u "Ljava/util/function/BiFunction;"), (0, .class_ 126), (0, u "jdk/internal/util/Preconditions$2"), (3, u "AIOOBE_FORMATTER"), (0, .class_ 132), (0, u "jdk/internal/util/Preconditions$3"), (3, u "IOOBE_FORMATTER"), (41, u "(IILjava/util/function/BiFunction;)I"), (4, u "(IIILjava/util/function/BiFunction;)I")] 10

def k16m0 : Method := { name := "<init>", desc := "()V", sig := { parameters := [], returnType := none }, accessFlags := 1, code := none }
def k16c1 : Code := { maxStack := 3, maxLocals := 3, code := jdk_41_method_11_code, exceptionTable := #[], attributes := #[] }
def k16m1 : Method := { name := "checkIndex", desc := "(IILjava/util/function/BiFunction;)I", sig := { parameters := [.int, .int, (.object "java/util/function/BiFunction")], returnType := some .int }, accessFlags := 9, code := some k16c1 }
def k16c2 : Code := { maxStack := 4, maxLocals := 4, code := jdk_41_method_13_code, exceptionTable := #[], attributes := #[] }
def k16m2 : Method := { name := "checkFromIndexSize", desc := "(IIILjava/util/function/BiFunction;)I", sig := { parameters := [.int, .int, .int, (.object "java/util/function/BiFunction")], returnType := some .int }, accessFlags := 9, code := some k16c2 }
/-- jdk/internal/util/Preconditions -/
def k16 : Class := { plain "jdk/internal/util/Preconditions" (some 0) with
  accessFlags := 33
  interfaces := #[]
  cf := some (fileOf pool16 24 #[.nestMembers #[55, 131, 125, 114]] #[{ accessFlags := 1, nameIndex := 5, descriptorIndex := 6, attributes := #[] }, { accessFlags := 9, nameIndex := 33, descriptorIndex := 178, attributes := #[] }, { accessFlags := 9, nameIndex := 49, descriptorIndex := 183, attributes := #[] }] 33 2 #[] #[{ accessFlags := 25, nameIndex := 123, descriptorIndex := 124, attributes := #[] }, { accessFlags := 25, nameIndex := 130, descriptorIndex := 124, attributes := #[] }, { accessFlags := 25, nameIndex := 136, descriptorIndex := 124, attributes := #[] }])
  fields := #[{ name := "SIOOBE_FORMATTER", type := (.object "java/util/function/BiFunction"), accessFlags := 25, slot := 0, constantValue := 0 }, { name := "AIOOBE_FORMATTER", type := (.object "java/util/function/BiFunction"), accessFlags := 25, slot := 1, constantValue := 0 }, { name := "IOOBE_FORMATTER", type := (.object "java/util/function/BiFunction"), accessFlags := 25, slot := 2, constantValue := 0 }]
  methods := #[k16m0, k16m1, k16m2]
  instanceTypes := #[]
  staticTypes := #[(.object "java/util/function/BiFunction"), (.object "java/util/function/BiFunction"), (.object "java/util/function/BiFunction")]
  resolved := Array.replicate 194 none
  statics := some 2 }

def pool17 : Array CpInfo := pool [(9, u "<init>"), (6, .class_ 18), (1, u "java/lang/Object"), (0, u "()V"), (1, .class_ 23), (1, u "jdk/internal/util/ArraysSupport"), (0, u "LOG2_ARRAY_LONG_INDEX_SCALE"), (0, u "I"), (2, u "U"), (0, u "Ljdk/internal/misc/Unsafe;"), (8, u "BIG_ENDIAN"), (0, u "Z"), (8, u "LOG2_BYTE_BIT_SIZE"), (4, u "LOG2_ARRAY_INT_INDEX_SCALE"), (54, u "JLA"), (0, u "Ljdk/internal/access/JavaLangAccess;"), (11, u "LOG2_ARRAY_BOOLEAN_INDEX_SCALE"), (9, u "LOG2_ARRAY_BYTE_INDEX_SCALE"), (5, u "LOG2_ARRAY_CHAR_INDEX_SCALE"), (5, u "LOG2_ARRAY_SHORT_INDEX_SCALE"), (18, u "LOG2_ARRAY_FLOAT_INDEX_SCALE"), (24, u "LOG2_ARRAY_DOUBLE_INDEX_SCALE"), (89, u "T_BOOLEAN"), (2, u "T_CHAR"), (1, u "T_FLOAT"), (1, u "T_DOUBLE"), (1, u "T_BYTE"), (1, u "T_SHORT"), (1, u "T_INT"), (1, u "T_LONG"), (1, u "SOFT_MAX_ARRAY_LENGTH")] 83

def k17m0 : Method := { name := "<init>", desc := "()V", sig := { parameters := [], returnType := none }, accessFlags := 2, code := none }
/-- jdk/internal/util/ArraysSupport -/
def k17 : Class := { plain "jdk/internal/util/ArraysSupport" (some 0) with
  accessFlags := 33
  interfaces := #[]
  cf := some (fileOf pool17 21 #[] #[{ accessFlags := 2, nameIndex := 9, descriptorIndex := 19, attributes := #[] }] 33 16 #[] #[{ accessFlags := 24, nameIndex := 28, descriptorIndex := 29, attributes := #[] }, { accessFlags := 26, nameIndex := 38, descriptorIndex := 39, attributes := #[] }, { accessFlags := 25, nameIndex := 121, descriptorIndex := 25, attributes := #[] }, { accessFlags := 25, nameIndex := 131, descriptorIndex := 25, attributes := #[] }, { accessFlags := 25, nameIndex := 137, descriptorIndex := 25, attributes := #[] }, { accessFlags := 25, nameIndex := 143, descriptorIndex := 25, attributes := #[] }, { accessFlags := 25, nameIndex := 53, descriptorIndex := 25, attributes := #[] }, { accessFlags := 25, nameIndex := 24, descriptorIndex := 25, attributes := #[] }, { accessFlags := 25, nameIndex := 162, descriptorIndex := 25, attributes := #[] }, { accessFlags := 25, nameIndex := 187, descriptorIndex := 25, attributes := #[] }, { accessFlags := 26, nameIndex := 48, descriptorIndex := 25, attributes := #[] }, { accessFlags := 25, nameIndex := 277, descriptorIndex := 25, attributes := #[] }, { accessFlags := 25, nameIndex := 280, descriptorIndex := 25, attributes := #[] }, { accessFlags := 25, nameIndex := 282, descriptorIndex := 25, attributes := #[] }, { accessFlags := 25, nameIndex := 284, descriptorIndex := 25, attributes := #[] }, { accessFlags := 25, nameIndex := 286, descriptorIndex := 25, attributes := #[] }, { accessFlags := 25, nameIndex := 288, descriptorIndex := 25, attributes := #[] }, { accessFlags := 25, nameIndex := 290, descriptorIndex := 25, attributes := #[] }, { accessFlags := 25, nameIndex := 292, descriptorIndex := 25, attributes := #[] }, { accessFlags := 26, nameIndex := 108, descriptorIndex := 109, attributes := #[] }, { accessFlags := 25, nameIndex := 294, descriptorIndex := 25, attributes := #[] }])
  fields := #[{ name := "U", type := (.object "jdk/internal/misc/Unsafe"), accessFlags := 24, slot := 0, constantValue := 0 }, { name := "BIG_ENDIAN", type := .boolean, accessFlags := 26, slot := 1, constantValue := 0 }, { name := "LOG2_ARRAY_BOOLEAN_INDEX_SCALE", type := .int, accessFlags := 25, slot := 2, constantValue := 0 }, { name := "LOG2_ARRAY_BYTE_INDEX_SCALE", type := .int, accessFlags := 25, slot := 3, constantValue := 0 }, { name := "LOG2_ARRAY_CHAR_INDEX_SCALE", type := .int, accessFlags := 25, slot := 4, constantValue := 0 }, { name := "LOG2_ARRAY_SHORT_INDEX_SCALE", type := .int, accessFlags := 25, slot := 5, constantValue := 0 }, { name := "LOG2_ARRAY_INT_INDEX_SCALE", type := .int, accessFlags := 25, slot := 6, constantValue := 0 }, { name := "LOG2_ARRAY_LONG_INDEX_SCALE", type := .int, accessFlags := 25, slot := 7, constantValue := 0 }, { name := "LOG2_ARRAY_FLOAT_INDEX_SCALE", type := .int, accessFlags := 25, slot := 8, constantValue := 0 }, { name := "LOG2_ARRAY_DOUBLE_INDEX_SCALE", type := .int, accessFlags := 25, slot := 9, constantValue := 0 }, { name := "LOG2_BYTE_BIT_SIZE", type := .int, accessFlags := 26, slot := 10, constantValue := 0 }, { name := "T_BOOLEAN", type := .int, accessFlags := 25, slot := 11, constantValue := 0 }, { name := "T_CHAR", type := .int, accessFlags := 25, slot := 12, constantValue := 0 }, { name := "T_FLOAT", type := .int, accessFlags := 25, slot := 13, constantValue := 0 }, { name := "T_DOUBLE", type := .int, accessFlags := 25, slot := 14, constantValue := 0 }, { name := "T_BYTE", type := .int, accessFlags := 25, slot := 15, constantValue := 0 }, { name := "T_SHORT", type := .int, accessFlags := 25, slot := 16, constantValue := 0 }, { name := "T_INT", type := .int, accessFlags := 25, slot := 17, constantValue := 0 }, { name := "T_LONG", type := .int, accessFlags := 25, slot := 18, constantValue := 0 }, { name := "JLA", type := (.object "jdk/internal/access/JavaLangAccess"), accessFlags := 26, slot := 19, constantValue := 0 }, { name := "SOFT_MAX_ARRAY_LENGTH", type := .int, accessFlags := 25, slot := 20, constantValue := 0 }]
  methods := #[k17m0]
  instanceTypes := #[]
  staticTypes := #[(.object "jdk/internal/misc/Unsafe"), .boolean, .int, .int, .int, .int, .int, .int, .int, .int, .int, .int, .int, .int, .int, .int, .int, .int, .int, (.object "jdk/internal/access/JavaLangAccess"), .int]
  resolved := Array.replicate 378 none
  statics := none }

/-- the primitive byte -/
def k18 : Class := { plain "byte" none with kind := .primitive 'B', accessFlags := 0x411 }
/-- [B -/
def k19 : Class := { plain "[B" (some 0) with kind := .array 18 .byte, interfaces := #[14, 2], accessFlags := 1041 }

/-- the primitive char -/
def k20 : Class := { plain "char" none with kind := .primitive 'C', accessFlags := 0x411 }
/-- [C -/
def k21 : Class := { plain "[C" (some 0) with kind := .array 20 .char, interfaces := #[14, 2], accessFlags := 1041 }

/-- the primitive int -/
def k22 : Class := { plain "int" none with kind := .primitive 'I', accessFlags := 0x411 }
/-- [I -/
def k23 : Class := { plain "[I" (some 0) with kind := .array 22 .int, interfaces := #[14, 2], accessFlags := 1041 }

def heap : Heap := #[{ cls := 7, slots := #[.long 0, .int 1, .null, .int 0, .null, .int 0, .int 0], vm := .statics 7 },
  { cls := 15, slots := #[.int 0, .int 8, .int 0, .int 1], vm := .statics 15 },
  { cls := 16, slots := #[.null, .null, .null], vm := .statics 16 }]
def classes : Array Class := #[k0, k1, k2, k3, k4, k5, k6, k7, k8, k9, k10, k11, k12, k13, k14, k15, k16, k17, k18, k19, k20, k21, k22, k23]
def interned : List (Array UInt16 × Addr) := []
def slotsUsed : Nat := 14
def theMethod : MethodId := ⟨1, 1⟩
def args0 : Array Value := #[.int 3, .int 131, .int 600, .int 77, .int 5]
def aboutOver (below : List Frame) : State where
  vm := { classes := classes, interned := interned.toArray }
  heap := heap
  slotsUsed := slotsUsed
  threads := #[{ frames := .invoking theMethod args0 :: below }]
def below0 : List Frame := [.native { method := ⟨0, 0⟩, args := #[] }]
def about1 : State := aboutOver below0
def p0 : Program := .bare "" "" ""
def e0 : Env := launch0.env 0 0 0
theorem w_frames : about1.frames = Frame.invoking theMethod args0 :: below0 := rfl
set_option maxRecDepth 65536 in
theorem w_args : argsFit about1.vm theMethod args0 = true := by decide +kernel
set_option maxRecDepth 65536 in
theorem w_heap : heapFits about1 = true := by decide +kernel
set_option maxRecDepth 65536 in
theorem w_runnable : about1.curStatus? = some .runnable := by decide +kernel
set_option maxRecDepth 65536 in
theorem w_alone : about1.alone = true := by decide +kernel
set_option maxRecDepth 65536 in
theorem w_named : about1.methodNamed? x = some theMethod := by decide +kernel
set_option maxRecDepth 65536 in
theorem w_hears : about1.hears theMethod below0 = true := by decide +kernel
set_option maxRecDepth 65536 in
theorem w_ripe : about1.ripe theMethod args0 below0 = true := by decide +kernel
theorem w_running : about1.status = .running := rfl
set_option maxRecDepth 65536 in
theorem w_room : about1.hasRoom e0.platform room_1 = true :=
  launch0.hasRoom_least _ room_1 (by decide +kernel) (by decide +kernel) (by decide +kernel) (by decide +kernel) (by decide +kernel) (by decide +kernel)
theorem allAtoms_all (ts : List Jvm.Cond) (a : Array Jvm.Value) (st : Jvm.State) : (allAtoms ts).before a st = ts.all (fun c => c.before a st) := by
  induction ts with
  | nil => rfl
  | cons c t ih =>
    show (Jvm.Cond.and c (allAtoms t)).before a st = _
    rw [Jvm.Cond.before_and, ih, List.all_cons]
def words1 : List Jvm.Cond := Jvm.Cond.code x code maxLocals ret :: tables_1
/-- a 'code' word, met by the world's own term for the bytes: nothing is compared byte by byte -/
theorem code_word {y : MethodName} {bytes : ByteArray} {mx : Nat} {rt : Option FieldType} {a : Array Value} {s : State} {m : MethodId} {meth : Method} {c : Code} (h1 : s.methodNamed? y = some m) (h2 : s.vm.method? m = some meth) (h3 : meth.code = some c) (h4 : c.code = bytes)
    (h5 : (c.maxLocals == mx && c.exceptionTable.isEmpty && decide (c.maxStack ≤ mostOperands) && decide (meth.sig.returnType = rt) && !meth.locks && decide (parseMethodDescriptor y.desc = some meth.sig)) = true) : (Jvm.Cond.code y bytes mx rt).before a s = true := by
  simp only [Bool.and_eq_true, beq_iff_eq, Bool.not_eq_true', decide_eq_true_eq] at h5
  obtain ⟨⟨⟨⟨⟨g1, g2⟩, g3⟩, g4⟩, g5⟩, g6⟩ := h5
  simp [Cond.before, Cond.holds, Cond.value, h1, h2, h3, h4, g1, g2, g3, g4, g5, g6]
def isCode : Jvm.Cond → Bool
  | .code _ _ _ _ => true
  | _ => false
theorem all_split {L : List Jvm.Cond} {P : Jvm.Cond → Bool} (h1 : L.all (fun c => isCode c || P c) = true) (h2 : ∀ c ∈ L.filter isCode, P c = true) : L.all P = true := by
  refine List.all_eq_true.mpr fun c hc => ?_
  have h := List.all_eq_true.mp h1 c hc
  rcases Bool.eq_false_or_eq_true (isCode c) with hi | hi
  · exact h2 c (List.mem_filter.mpr ⟨hc, hi⟩)
  · simpa [hi] using h
set_option maxRecDepth 65536 in
theorem w_c0 : (Jvm.Cond.code x code maxLocals ret).before args0 about1 = true := code_word (m := ⟨1, 1⟩) (meth := k1m1) (c := k1c1) (by decide +kernel) rfl rfl rfl (by decide +kernel)
set_option maxRecDepth 65536 in
theorem w_c1 : (Jvm.Cond.code ({ cls := "com/example/even_rows/evenrows/mapping/SqlNameFoldedPinLaw", name := "draw", desc := "(I)C" } : Jvm.MethodName) method_3_code (1 : Nat) (Option.some Jvm.ClassFile.FieldType.char)).before args0 about1 = true := code_word (m := ⟨1, 2⟩) (meth := k1m2) (c := k1c2) (by decide +kernel) rfl rfl rfl (by decide +kernel)
set_option maxRecDepth 65536 in
theorem w_c2 : (Jvm.Cond.code ({ cls := "com/example/even_rows/evenrows/mapping/SqlNameFoldedPinLaw", name := "make", desc := "(ICCCC)Ljava/lang/String;" } : Jvm.MethodName) method_5_code (5 : Nat) (Option.some (Jvm.ClassFile.FieldType.object "java/lang/String"))).before args0 about1 = true := code_word (m := ⟨1, 4⟩) (meth := k1m4) (c := k1c4) (by decide +kernel) rfl rfl rfl (by decide +kernel)
set_option maxRecDepth 65536 in
theorem w_c3 : (Jvm.Cond.code ({ cls := "java/lang/String", name := "<init>", desc := "([C)V" } : Jvm.MethodName) jdk_42_method_3_code (2 : Nat) (Option.none : Option Jvm.ClassFile.FieldType)).before args0 about1 = true := code_word (m := ⟨7, 1⟩) (meth := k7m1) (c := k7c1) (by decide +kernel) rfl rfl rfl (by decide +kernel)
set_option maxRecDepth 65536 in
theorem w_c4 : (Jvm.Cond.code ({ cls := "java/lang/String", name := "<init>", desc := "([CIILjava/lang/Void;)V" } : Jvm.MethodName) jdk_42_method_149_code (6 : Nat) (Option.none : Option Jvm.ClassFile.FieldType)).before args0 about1 = true := code_word (m := ⟨7, 6⟩) (meth := k7m6) (c := k7c6) (by decide +kernel) rfl rfl rfl (by decide +kernel)
set_option maxRecDepth 65536 in
theorem w_c5 : (Jvm.Cond.code ({ cls := "java/lang/Object", name := "<init>", desc := "()V" } : Jvm.MethodName) object_method_1_code (1 : Nat) (Option.none : Option Jvm.ClassFile.FieldType)).before args0 about1 = true := code_word (m := ⟨0, 0⟩) (meth := k0m0) (c := k0c0) (by decide +kernel) rfl rfl rfl (by decide +kernel)
set_option maxRecDepth 65536 in
theorem w_c6 : (Jvm.Cond.code ({ cls := "com/example/even_rows/evenrows/mapping/SqlName", name := "folded", desc := "(Ljava/lang/String;)Ljava/lang/String;" } : Jvm.MethodName) prog_7_method_3_code (6 : Nat) (Option.some (Jvm.ClassFile.FieldType.object "java/lang/String"))).before args0 about1 = true := code_word (m := ⟨8, 1⟩) (meth := k8m1) (c := k8c1) (by decide +kernel) rfl rfl rfl (by decide +kernel)
set_option maxRecDepth 65536 in
theorem w_c7 : (Jvm.Cond.code ({ cls := "java/lang/String", name := "length", desc := "()I" } : Jvm.MethodName) jdk_42_method_54_code (1 : Nat) (Option.some Jvm.ClassFile.FieldType.int)).before args0 about1 = true := code_word (m := ⟨7, 3⟩) (meth := k7m3) (c := k7c3) (by decide +kernel) rfl rfl rfl (by decide +kernel)
set_option maxRecDepth 65536 in
theorem w_c8 : (Jvm.Cond.code ({ cls := "java/lang/String", name := "coder", desc := "()B" } : Jvm.MethodName) jdk_42_method_152_code (1 : Nat) (Option.some Jvm.ClassFile.FieldType.byte)).before args0 about1 = true := code_word (m := ⟨7, 8⟩) (meth := k7m8) (c := k7c8) (by decide +kernel) rfl rfl rfl (by decide +kernel)
set_option maxRecDepth 65536 in
theorem w_c9 : (Jvm.Cond.code ({ cls := "java/lang/StringBuilder", name := "<init>", desc := "(I)V" } : Jvm.MethodName) jdk_67_method_2_code (2 : Nat) (Option.none : Option Jvm.ClassFile.FieldType)).before args0 about1 = true := code_word (m := ⟨11, 1⟩) (meth := k11m1) (c := k11c1) (by decide +kernel) rfl rfl rfl (by decide +kernel)
set_option maxRecDepth 65536 in
theorem w_c10 : (Jvm.Cond.code ({ cls := "java/lang/AbstractStringBuilder", name := "<init>", desc := "(I)V" } : Jvm.MethodName) jdk_68_method_2_code (2 : Nat) (Option.none : Option Jvm.ClassFile.FieldType)).before args0 about1 = true := code_word (m := ⟨10, 1⟩) (meth := k10m1) (c := k10c1) (by decide +kernel) rfl rfl rfl (by decide +kernel)
set_option maxRecDepth 65536 in
theorem w_c11 : (Jvm.Cond.code ({ cls := "java/lang/String", name := "toCharArray", desc := "()[C" } : Jvm.MethodName) jdk_42_method_129_code (1 : Nat) (Option.some (Jvm.ClassFile.FieldType.array Jvm.ClassFile.FieldType.char))).before args0 about1 = true := code_word (m := ⟨7, 5⟩) (meth := k7m5) (c := k7c5) (by decide +kernel) rfl rfl rfl (by decide +kernel)
set_option maxRecDepth 65536 in
theorem w_c12 : (Jvm.Cond.code ({ cls := "java/lang/String", name := "isLatin1", desc := "()Z" } : Jvm.MethodName) jdk_42_method_154_code (1 : Nat) (Option.some Jvm.ClassFile.FieldType.boolean)).before args0 about1 = true := code_word (m := ⟨7, 9⟩) (meth := k7m9) (c := k7c9) (by decide +kernel) rfl rfl rfl (by decide +kernel)
set_option maxRecDepth 65536 in
theorem w_c13 : (Jvm.Cond.code ({ cls := "java/lang/StringLatin1", name := "toChars", desc := "([B)[C" } : Jvm.MethodName) jdk_43_method_9_code (2 : Nat) (Option.some (Jvm.ClassFile.FieldType.array Jvm.ClassFile.FieldType.char))).before args0 about1 = true := code_word (m := ⟨12, 3⟩) (meth := k12m3) (c := k12c3) (by decide +kernel) rfl rfl rfl (by decide +kernel)
set_option maxRecDepth 65536 in
theorem w_c14 : (Jvm.Cond.code ({ cls := "java/lang/StringLatin1", name := "inflate", desc := "([BI[CII)V" } : Jvm.MethodName) jdk_43_method_49_code (6 : Nat) (Option.none : Option Jvm.ClassFile.FieldType)).before args0 about1 = true := code_word (m := ⟨12, 4⟩) (meth := k12m4) (c := k12c4) (by decide +kernel) rfl rfl rfl (by decide +kernel)
set_option maxRecDepth 65536 in
theorem w_c15 : (Jvm.Cond.code ({ cls := "java/lang/StringBuilder", name := "toString", desc := "()Ljava/lang/String;" } : Jvm.MethodName) jdk_67_method_42_code (1 : Nat) (Option.some (Jvm.ClassFile.FieldType.object "java/lang/String"))).before args0 about1 = true := code_word (m := ⟨11, 3⟩) (meth := k11m3) (c := k11c3) (by decide +kernel) rfl rfl rfl (by decide +kernel)
set_option maxRecDepth 65536 in
theorem w_c16 : (Jvm.Cond.code ({ cls := "java/lang/String", name := "<init>", desc := "(Ljava/lang/StringBuilder;)V" } : Jvm.MethodName) jdk_42_method_53_code (2 : Nat) (Option.none : Option Jvm.ClassFile.FieldType)).before args0 about1 = true := code_word (m := ⟨7, 2⟩) (meth := k7m2) (c := k7c2) (by decide +kernel) rfl rfl rfl (by decide +kernel)
set_option maxRecDepth 65536 in
theorem w_c17 : (Jvm.Cond.code ({ cls := "java/lang/String", name := "<init>", desc := "(Ljava/lang/AbstractStringBuilder;Ljava/lang/Void;)V" } : Jvm.MethodName) jdk_42_method_150_code (5 : Nat) (Option.none : Option Jvm.ClassFile.FieldType)).before args0 about1 = true := code_word (m := ⟨7, 7⟩) (meth := k7m7) (c := k7c7) (by decide +kernel) rfl rfl rfl (by decide +kernel)
set_option maxRecDepth 65536 in
theorem w_c18 : (Jvm.Cond.code ({ cls := "java/lang/AbstractStringBuilder", name := "getValue", desc := "()[B" } : Jvm.MethodName) jdk_68_method_64_code (1 : Nat) (Option.some (Jvm.ClassFile.FieldType.array Jvm.ClassFile.FieldType.byte))).before args0 about1 = true := code_word (m := ⟨10, 6⟩) (meth := k10m6) (c := k10c6) (by decide +kernel) rfl rfl rfl (by decide +kernel)
set_option maxRecDepth 65536 in
theorem w_c19 : (Jvm.Cond.code ({ cls := "java/lang/StringBuilder", name := "length", desc := "()I" } : Jvm.MethodName) jdk_67_method_93_code (1 : Nat) (Option.some Jvm.ClassFile.FieldType.int)).before args0 about1 = true := code_word (m := ⟨11, 4⟩) (meth := k11m4) (c := k11c4) (by decide +kernel) rfl rfl rfl (by decide +kernel)
set_option maxRecDepth 65536 in
theorem w_c20 : (Jvm.Cond.code ({ cls := "java/lang/AbstractStringBuilder", name := "length", desc := "()I" } : Jvm.MethodName) jdk_68_method_6_code (1 : Nat) (Option.some Jvm.ClassFile.FieldType.int)).before args0 about1 = true := code_word (m := ⟨10, 2⟩) (meth := k10m2) (c := k10c2) (by decide +kernel) rfl rfl rfl (by decide +kernel)
set_option maxRecDepth 65536 in
theorem w_c21 : (Jvm.Cond.code ({ cls := "java/lang/AbstractStringBuilder", name := "isLatin1", desc := "()Z" } : Jvm.MethodName) jdk_68_method_68_code (1 : Nat) (Option.some Jvm.ClassFile.FieldType.boolean)).before args0 about1 = true := code_word (m := ⟨10, 7⟩) (meth := k10m7) (c := k10c7) (by decide +kernel) rfl rfl rfl (by decide +kernel)
set_option maxRecDepth 65536 in
theorem w_c22 : (Jvm.Cond.code ({ cls := "java/util/Arrays", name := "copyOfRange", desc := "([BII)[B" } : Jvm.MethodName) jdk_65_method_132_code (3 : Nat) (Option.some (Jvm.ClassFile.FieldType.array Jvm.ClassFile.FieldType.byte))).before args0 about1 = true := code_word (m := ⟨13, 1⟩) (meth := k13m1) (c := k13c1) (by decide +kernel) rfl rfl rfl (by decide +kernel)
set_option maxRecDepth 65536 in
theorem w_c23 : (Jvm.Cond.code ({ cls := "java/lang/StringUTF16", name := "compress", desc := "([CII)[B" } : Jvm.MethodName) jdk_52_method_16_code (6 : Nat) (Option.some (Jvm.ClassFile.FieldType.array Jvm.ClassFile.FieldType.byte))).before args0 about1 = true := code_word (m := ⟨15, 9⟩) (meth := k15m9) (c := k15c9) (by decide +kernel) rfl rfl rfl (by decide +kernel)
set_option maxRecDepth 65536 in
theorem w_c24 : (Jvm.Cond.code ({ cls := "java/lang/StringUTF16", name := "compress", desc := "([CI[BII)I" } : Jvm.MethodName) jdk_52_method_21_code (7 : Nat) (Option.some Jvm.ClassFile.FieldType.int)).before args0 about1 = true := code_word (m := ⟨15, 10⟩) (meth := k15m10) (c := k15c10) (by decide +kernel) rfl rfl rfl (by decide +kernel)
set_option maxRecDepth 65536 in
theorem w_c25 : (Jvm.Cond.code ({ cls := "java/lang/StringUTF16", name := "coderFromArrayLen", desc := "([BI)B" } : Jvm.MethodName) jdk_52_method_15_code (2 : Nat) (Option.some Jvm.ClassFile.FieldType.byte)).before args0 about1 = true := code_word (m := ⟨15, 8⟩) (meth := k15m8) (c := k15c8) (by decide +kernel) rfl rfl rfl (by decide +kernel)
set_option maxRecDepth 65536 in
theorem w_c26 : (Jvm.Cond.code ({ cls := "java/lang/StringBuilder", name := "append", desc := "(C)Ljava/lang/StringBuilder;" } : Jvm.MethodName) jdk_67_method_14_code (2 : Nat) (Option.some (Jvm.ClassFile.FieldType.object "java/lang/StringBuilder"))).before args0 about1 = true := code_word (m := ⟨11, 2⟩) (meth := k11m2) (c := k11c2) (by decide +kernel) rfl rfl rfl (by decide +kernel)
set_option maxRecDepth 65536 in
theorem w_c27 : (Jvm.Cond.code ({ cls := "java/lang/AbstractStringBuilder", name := "append", desc := "(C)Ljava/lang/AbstractStringBuilder;" } : Jvm.MethodName) jdk_68_method_31_code (2 : Nat) (Option.some (Jvm.ClassFile.FieldType.object "java/lang/AbstractStringBuilder"))).before args0 about1 = true := code_word (m := ⟨10, 5⟩) (meth := k10m5) (c := k10c5) (by decide +kernel) rfl rfl rfl (by decide +kernel)
set_option maxRecDepth 65536 in
theorem w_c28 : (Jvm.Cond.code ({ cls := "java/lang/AbstractStringBuilder", name := "ensureCapacityInternal", desc := "(I)V" } : Jvm.MethodName) jdk_68_method_9_code (3 : Nat) (Option.none : Option Jvm.ClassFile.FieldType)).before args0 about1 = true := code_word (m := ⟨10, 3⟩) (meth := k10m3) (c := k10c3) (by decide +kernel) rfl rfl rfl (by decide +kernel)
set_option maxRecDepth 65536 in
theorem w_c29 : (Jvm.Cond.code ({ cls := "java/lang/StringLatin1", name := "canEncode", desc := "(C)Z" } : Jvm.MethodName) jdk_43_method_3_code (1 : Nat) (Option.some Jvm.ClassFile.FieldType.boolean)).before args0 about1 = true := code_word (m := ⟨12, 2⟩) (meth := k12m2) (c := k12c2) (by decide +kernel) rfl rfl rfl (by decide +kernel)
set_option maxRecDepth 65536 in
theorem w_c30 : (Jvm.Cond.code ({ cls := "java/lang/String", name := "charAt", desc := "(I)C" } : Jvm.MethodName) jdk_42_method_56_code (2 : Nat) (Option.some Jvm.ClassFile.FieldType.char)).before args0 about1 = true := code_word (m := ⟨7, 4⟩) (meth := k7m4) (c := k7c4) (by decide +kernel) rfl rfl rfl (by decide +kernel)
set_option maxRecDepth 65536 in
theorem w_c31 : (Jvm.Cond.code ({ cls := "java/lang/StringLatin1", name := "charAt", desc := "([BI)C" } : Jvm.MethodName) jdk_43_method_2_code (2 : Nat) (Option.some Jvm.ClassFile.FieldType.char)).before args0 about1 = true := code_word (m := ⟨12, 1⟩) (meth := k12m1) (c := k12c1) (by decide +kernel) rfl rfl rfl (by decide +kernel)
set_option maxRecDepth 65536 in
theorem w_c32 : (Jvm.Cond.code ({ cls := "java/lang/String", name := "checkIndex", desc := "(II)V" } : Jvm.MethodName) jdk_42_method_155_code (2 : Nat) (Option.none : Option Jvm.ClassFile.FieldType)).before args0 about1 = true := code_word (m := ⟨7, 10⟩) (meth := k7m10) (c := k7c10) (by decide +kernel) rfl rfl rfl (by decide +kernel)
set_option maxRecDepth 65536 in
theorem w_c33 : (Jvm.Cond.code ({ cls := "jdk/internal/util/Preconditions", name := "checkIndex", desc := "(IILjava/util/function/BiFunction;)I" } : Jvm.MethodName) jdk_41_method_11_code (3 : Nat) (Option.some Jvm.ClassFile.FieldType.int)).before args0 about1 = true := code_word (m := ⟨16, 1⟩) (meth := k16m1) (c := k16c1) (by decide +kernel) rfl rfl rfl (by decide +kernel)
set_option maxRecDepth 65536 in
theorem w_c34 : (Jvm.Cond.code ({ cls := "com/example/even_rows/evenrows/mapping/SqlNameFoldedPinLaw", name := "fold", desc := "(C)C" } : Jvm.MethodName) method_4_code (1 : Nat) (Option.some Jvm.ClassFile.FieldType.char)).before args0 about1 = true := code_word (m := ⟨1, 3⟩) (meth := k1m3) (c := k1c3) (by decide +kernel) rfl rfl rfl (by decide +kernel)
set_option maxRecDepth 65536 in
theorem w_c35 : (Jvm.Cond.code ({ cls := "java/lang/StringUTF16", name := "toBytes", desc := "([CII)[B" } : Jvm.MethodName) jdk_52_method_14_code (5 : Nat) (Option.some (Jvm.ClassFile.FieldType.array Jvm.ClassFile.FieldType.byte))).before args0 about1 = true := code_word (m := ⟨15, 7⟩) (meth := k15m7) (c := k15c7) (by decide +kernel) rfl rfl rfl (by decide +kernel)
set_option maxRecDepth 65536 in
theorem w_c36 : (Jvm.Cond.code ({ cls := "java/lang/StringUTF16", name := "newBytesFor", desc := "(I)[B" } : Jvm.MethodName) jdk_52_method_2_code (1 : Nat) (Option.some (Jvm.ClassFile.FieldType.array Jvm.ClassFile.FieldType.byte))).before args0 about1 = true := code_word (m := ⟨15, 1⟩) (meth := k15m1) (c := k15c1) (by decide +kernel) rfl rfl rfl (by decide +kernel)
set_option maxRecDepth 65536 in
theorem w_c37 : (Jvm.Cond.code ({ cls := "java/lang/StringUTF16", name := "newBytesLength", desc := "(I)I" } : Jvm.MethodName) jdk_52_method_3_code (1 : Nat) (Option.some Jvm.ClassFile.FieldType.int)).before args0 about1 = true := code_word (m := ⟨15, 2⟩) (meth := k15m2) (c := k15c2) (by decide +kernel) rfl rfl rfl (by decide +kernel)
set_option maxRecDepth 65536 in
theorem w_c38 : (Jvm.Cond.code ({ cls := "java/lang/StringUTF16", name := "putChar", desc := "([BII)V" } : Jvm.MethodName) jdk_52_method_4_code (3 : Nat) (Option.none : Option Jvm.ClassFile.FieldType)).before args0 about1 = true := code_word (m := ⟨15, 3⟩) (meth := k15m3) (c := k15c3) (by decide +kernel) rfl rfl rfl (by decide +kernel)
set_option maxRecDepth 65536 in
theorem w_c39 : (Jvm.Cond.code ({ cls := "java/lang/StringUTF16", name := "getChar", desc := "([BI)C" } : Jvm.MethodName) jdk_52_method_5_code (2 : Nat) (Option.some Jvm.ClassFile.FieldType.char)).before args0 about1 = true := code_word (m := ⟨15, 4⟩) (meth := k15m4) (c := k15c4) (by decide +kernel) rfl rfl rfl (by decide +kernel)
set_option maxRecDepth 65536 in
theorem w_c40 : (Jvm.Cond.code ({ cls := "java/lang/StringUTF16", name := "toChars", desc := "([B)[C" } : Jvm.MethodName) jdk_52_method_13_code (2 : Nat) (Option.some (Jvm.ClassFile.FieldType.array Jvm.ClassFile.FieldType.char))).before args0 about1 = true := code_word (m := ⟨15, 6⟩) (meth := k15m6) (c := k15c6) (by decide +kernel) rfl rfl rfl (by decide +kernel)
set_option maxRecDepth 65536 in
theorem w_c41 : (Jvm.Cond.code ({ cls := "java/lang/StringUTF16", name := "getChars", desc := "([BII[CI)V" } : Jvm.MethodName) jdk_52_method_26_code (6 : Nat) (Option.none : Option Jvm.ClassFile.FieldType)).before args0 about1 = true := code_word (m := ⟨15, 11⟩) (meth := k15m11) (c := k15c11) (by decide +kernel) rfl rfl rfl (by decide +kernel)
set_option maxRecDepth 65536 in
theorem w_c42 : (Jvm.Cond.code ({ cls := "java/lang/StringUTF16", name := "checkBoundsOffCount", desc := "(II[B)V" } : Jvm.MethodName) jdk_52_method_94_code (3 : Nat) (Option.none : Option Jvm.ClassFile.FieldType)).before args0 about1 = true := code_word (m := ⟨15, 16⟩) (meth := k15m16) (c := k15c16) (by decide +kernel) rfl rfl rfl (by decide +kernel)
set_option maxRecDepth 65536 in
theorem w_c43 : (Jvm.Cond.code ({ cls := "java/lang/StringUTF16", name := "length", desc := "([B)I" } : Jvm.MethodName) jdk_52_method_6_code (1 : Nat) (Option.some Jvm.ClassFile.FieldType.int)).before args0 about1 = true := code_word (m := ⟨15, 5⟩) (meth := k15m5) (c := k15c5) (by decide +kernel) rfl rfl rfl (by decide +kernel)
set_option maxRecDepth 65536 in
theorem w_c44 : (Jvm.Cond.code ({ cls := "java/lang/String", name := "checkBoundsOffCount", desc := "(III)I" } : Jvm.MethodName) jdk_42_method_157_code (3 : Nat) (Option.some Jvm.ClassFile.FieldType.int)).before args0 about1 = true := code_word (m := ⟨7, 11⟩) (meth := k7m11) (c := k7c11) (by decide +kernel) rfl rfl rfl (by decide +kernel)
set_option maxRecDepth 65536 in
theorem w_c45 : (Jvm.Cond.code ({ cls := "jdk/internal/util/Preconditions", name := "checkFromIndexSize", desc := "(IIILjava/util/function/BiFunction;)I" } : Jvm.MethodName) jdk_41_method_13_code (4 : Nat) (Option.some Jvm.ClassFile.FieldType.int)).before args0 about1 = true := code_word (m := ⟨16, 2⟩) (meth := k16m2) (c := k16c2) (by decide +kernel) rfl rfl rfl (by decide +kernel)
set_option maxRecDepth 65536 in
theorem w_c46 : (Jvm.Cond.code ({ cls := "java/lang/AbstractStringBuilder", name := "inflate", desc := "()V" } : Jvm.MethodName) jdk_68_method_11_code (2 : Nat) (Option.none : Option Jvm.ClassFile.FieldType)).before args0 about1 = true := code_word (m := ⟨10, 4⟩) (meth := k10m4) (c := k10c4) (by decide +kernel) rfl rfl rfl (by decide +kernel)
set_option maxRecDepth 65536 in
theorem w_c47 : (Jvm.Cond.code ({ cls := "java/lang/StringLatin1", name := "inflate", desc := "([BI[BII)V" } : Jvm.MethodName) jdk_43_method_50_code (5 : Nat) (Option.none : Option Jvm.ClassFile.FieldType)).before args0 about1 = true := code_word (m := ⟨12, 5⟩) (meth := k12m5) (c := k12c5) (by decide +kernel) rfl rfl rfl (by decide +kernel)
set_option maxRecDepth 65536 in
theorem w_c48 : (Jvm.Cond.code ({ cls := "java/lang/StringUTF16", name := "inflate", desc := "([BI[BII)V" } : Jvm.MethodName) jdk_52_method_86_code (6 : Nat) (Option.none : Option Jvm.ClassFile.FieldType)).before args0 about1 = true := code_word (m := ⟨15, 14⟩) (meth := k15m14) (c := k15c14) (by decide +kernel) rfl rfl rfl (by decide +kernel)
set_option maxRecDepth 65536 in
theorem w_c49 : (Jvm.Cond.code ({ cls := "java/lang/StringUTF16", name := "putCharSB", desc := "([BII)V" } : Jvm.MethodName) jdk_52_method_71_code (3 : Nat) (Option.none : Option Jvm.ClassFile.FieldType)).before args0 about1 = true := code_word (m := ⟨15, 12⟩) (meth := k15m12) (c := k15c12) (by decide +kernel) rfl rfl rfl (by decide +kernel)
set_option maxRecDepth 65536 in
theorem w_c50 : (Jvm.Cond.code ({ cls := "java/lang/StringUTF16", name := "checkIndex", desc := "(I[B)V" } : Jvm.MethodName) jdk_52_method_91_code (2 : Nat) (Option.none : Option Jvm.ClassFile.FieldType)).before args0 about1 = true := code_word (m := ⟨15, 15⟩) (meth := k15m15) (c := k15c15) (by decide +kernel) rfl rfl rfl (by decide +kernel)
set_option maxRecDepth 65536 in
theorem w_c51 : (Jvm.Cond.code ({ cls := "java/lang/StringUTF16", name := "charAt", desc := "([BI)C" } : Jvm.MethodName) jdk_52_method_83_code (2 : Nat) (Option.some Jvm.ClassFile.FieldType.char)).before args0 about1 = true := code_word (m := ⟨15, 13⟩) (meth := k15m13) (c := k15c13) (by decide +kernel) rfl rfl rfl (by decide +kernel)
def codes1 : List Jvm.Cond := [Jvm.Cond.code x code maxLocals ret, Jvm.Cond.code ({ cls := "com/example/even_rows/evenrows/mapping/SqlNameFoldedPinLaw", name := "draw", desc := "(I)C" } : Jvm.MethodName) method_3_code (1 : Nat) (Option.some Jvm.ClassFile.FieldType.char), Jvm.Cond.code ({ cls := "com/example/even_rows/evenrows/mapping/SqlNameFoldedPinLaw", name := "make", desc := "(ICCCC)Ljava/lang/String;" } : Jvm.MethodName) method_5_code (5 : Nat) (Option.some (Jvm.ClassFile.FieldType.object "java/lang/String")), Jvm.Cond.code ({ cls := "java/lang/String", name := "<init>", desc := "([C)V" } : Jvm.MethodName) jdk_42_method_3_code (2 : Nat) (Option.none : Option Jvm.ClassFile.FieldType), Jvm.Cond.code ({ cls := "java/lang/String", name := "<init>", desc := "([CIILjava/lang/Void;)V" } : Jvm.MethodName) jdk_42_method_149_code (6 : Nat) (Option.none : Option Jvm.ClassFile.FieldType), Jvm.Cond.code ({ cls := "java/lang/Object", name := "<init>", desc := "()V" } : Jvm.MethodName) object_method_1_code (1 : Nat) (Option.none : Option Jvm.ClassFile.FieldType), Jvm.Cond.code ({ cls := "com/example/even_rows/evenrows/mapping/SqlName", name := "folded", desc := "(Ljava/lang/String;)Ljava/lang/String;" } : Jvm.MethodName) prog_7_method_3_code (6 : Nat) (Option.some (Jvm.ClassFile.FieldType.object "java/lang/String")), Jvm.Cond.code ({ cls := "java/lang/String", name := "length", desc := "()I" } : Jvm.MethodName) jdk_42_method_54_code (1 : Nat) (Option.some Jvm.ClassFile.FieldType.int), Jvm.Cond.code ({ cls := "java/lang/String", name := "coder", desc := "()B" } : Jvm.MethodName) jdk_42_method_152_code (1 : Nat) (Option.some Jvm.ClassFile.FieldType.byte), Jvm.Cond.code ({ cls := "java/lang/StringBuilder", name := "<init>", desc := "(I)V" } : Jvm.MethodName) jdk_67_method_2_code (2 : Nat) (Option.none : Option Jvm.ClassFile.FieldType), Jvm.Cond.code ({ cls := "java/lang/AbstractStringBuilder", name := "<init>", desc := "(I)V" } : Jvm.MethodName) jdk_68_method_2_code (2 : Nat) (Option.none : Option Jvm.ClassFile.FieldType), Jvm.Cond.code ({ cls := "java/lang/String", name := "toCharArray", desc := "()[C" } : Jvm.MethodName) jdk_42_method_129_code (1 : Nat) (Option.some (Jvm.ClassFile.FieldType.array Jvm.ClassFile.FieldType.char)), Jvm.Cond.code ({ cls := "java/lang/String", name := "isLatin1", desc := "()Z" } : Jvm.MethodName) jdk_42_method_154_code (1 : Nat) (Option.some Jvm.ClassFile.FieldType.boolean), Jvm.Cond.code ({ cls := "java/lang/StringLatin1", name := "toChars", desc := "([B)[C" } : Jvm.MethodName) jdk_43_method_9_code (2 : Nat) (Option.some (Jvm.ClassFile.FieldType.array Jvm.ClassFile.FieldType.char)), Jvm.Cond.code ({ cls := "java/lang/StringLatin1", name := "inflate", desc := "([BI[CII)V" } : Jvm.MethodName) jdk_43_method_49_code (6 : Nat) (Option.none : Option Jvm.ClassFile.FieldType), Jvm.Cond.code ({ cls := "java/lang/StringBuilder", name := "toString", desc := "()Ljava/lang/String;" } : Jvm.MethodName) jdk_67_method_42_code (1 : Nat) (Option.some (Jvm.ClassFile.FieldType.object "java/lang/String")), Jvm.Cond.code ({ cls := "java/lang/String", name := "<init>", desc := "(Ljava/lang/StringBuilder;)V" } : Jvm.MethodName) jdk_42_method_53_code (2 : Nat) (Option.none : Option Jvm.ClassFile.FieldType), Jvm.Cond.code ({ cls := "java/lang/String", name := "<init>", desc := "(Ljava/lang/AbstractStringBuilder;Ljava/lang/Void;)V" } : Jvm.MethodName) jdk_42_method_150_code (5 : Nat) (Option.none : Option Jvm.ClassFile.FieldType), Jvm.Cond.code ({ cls := "java/lang/AbstractStringBuilder", name := "getValue", desc := "()[B" } : Jvm.MethodName) jdk_68_method_64_code (1 : Nat) (Option.some (Jvm.ClassFile.FieldType.array Jvm.ClassFile.FieldType.byte)), Jvm.Cond.code ({ cls := "java/lang/StringBuilder", name := "length", desc := "()I" } : Jvm.MethodName) jdk_67_method_93_code (1 : Nat) (Option.some Jvm.ClassFile.FieldType.int), Jvm.Cond.code ({ cls := "java/lang/AbstractStringBuilder", name := "length", desc := "()I" } : Jvm.MethodName) jdk_68_method_6_code (1 : Nat) (Option.some Jvm.ClassFile.FieldType.int), Jvm.Cond.code ({ cls := "java/lang/AbstractStringBuilder", name := "isLatin1", desc := "()Z" } : Jvm.MethodName) jdk_68_method_68_code (1 : Nat) (Option.some Jvm.ClassFile.FieldType.boolean), Jvm.Cond.code ({ cls := "java/util/Arrays", name := "copyOfRange", desc := "([BII)[B" } : Jvm.MethodName) jdk_65_method_132_code (3 : Nat) (Option.some (Jvm.ClassFile.FieldType.array Jvm.ClassFile.FieldType.byte)), Jvm.Cond.code ({ cls := "java/lang/StringUTF16", name := "compress", desc := "([CII)[B" } : Jvm.MethodName) jdk_52_method_16_code (6 : Nat) (Option.some (Jvm.ClassFile.FieldType.array Jvm.ClassFile.FieldType.byte)), Jvm.Cond.code ({ cls := "java/lang/StringUTF16", name := "compress", desc := "([CI[BII)I" } : Jvm.MethodName) jdk_52_method_21_code (7 : Nat) (Option.some Jvm.ClassFile.FieldType.int), Jvm.Cond.code ({ cls := "java/lang/StringUTF16", name := "coderFromArrayLen", desc := "([BI)B" } : Jvm.MethodName) jdk_52_method_15_code (2 : Nat) (Option.some Jvm.ClassFile.FieldType.byte), Jvm.Cond.code ({ cls := "java/lang/StringBuilder", name := "append", desc := "(C)Ljava/lang/StringBuilder;" } : Jvm.MethodName) jdk_67_method_14_code (2 : Nat) (Option.some (Jvm.ClassFile.FieldType.object "java/lang/StringBuilder")), Jvm.Cond.code ({ cls := "java/lang/AbstractStringBuilder", name := "append", desc := "(C)Ljava/lang/AbstractStringBuilder;" } : Jvm.MethodName) jdk_68_method_31_code (2 : Nat) (Option.some (Jvm.ClassFile.FieldType.object "java/lang/AbstractStringBuilder")), Jvm.Cond.code ({ cls := "java/lang/AbstractStringBuilder", name := "ensureCapacityInternal", desc := "(I)V" } : Jvm.MethodName) jdk_68_method_9_code (3 : Nat) (Option.none : Option Jvm.ClassFile.FieldType), Jvm.Cond.code ({ cls := "java/lang/StringLatin1", name := "canEncode", desc := "(C)Z" } : Jvm.MethodName) jdk_43_method_3_code (1 : Nat) (Option.some Jvm.ClassFile.FieldType.boolean), Jvm.Cond.code ({ cls := "java/lang/String", name := "charAt", desc := "(I)C" } : Jvm.MethodName) jdk_42_method_56_code (2 : Nat) (Option.some Jvm.ClassFile.FieldType.char), Jvm.Cond.code ({ cls := "java/lang/StringLatin1", name := "charAt", desc := "([BI)C" } : Jvm.MethodName) jdk_43_method_2_code (2 : Nat) (Option.some Jvm.ClassFile.FieldType.char), Jvm.Cond.code ({ cls := "java/lang/String", name := "checkIndex", desc := "(II)V" } : Jvm.MethodName) jdk_42_method_155_code (2 : Nat) (Option.none : Option Jvm.ClassFile.FieldType), Jvm.Cond.code ({ cls := "jdk/internal/util/Preconditions", name := "checkIndex", desc := "(IILjava/util/function/BiFunction;)I" } : Jvm.MethodName) jdk_41_method_11_code (3 : Nat) (Option.some Jvm.ClassFile.FieldType.int), Jvm.Cond.code ({ cls := "com/example/even_rows/evenrows/mapping/SqlNameFoldedPinLaw", name := "fold", desc := "(C)C" } : Jvm.MethodName) method_4_code (1 : Nat) (Option.some Jvm.ClassFile.FieldType.char), Jvm.Cond.code ({ cls := "java/lang/StringUTF16", name := "toBytes", desc := "([CII)[B" } : Jvm.MethodName) jdk_52_method_14_code (5 : Nat) (Option.some (Jvm.ClassFile.FieldType.array Jvm.ClassFile.FieldType.byte)), Jvm.Cond.code ({ cls := "java/lang/StringUTF16", name := "newBytesFor", desc := "(I)[B" } : Jvm.MethodName) jdk_52_method_2_code (1 : Nat) (Option.some (Jvm.ClassFile.FieldType.array Jvm.ClassFile.FieldType.byte)), Jvm.Cond.code ({ cls := "java/lang/StringUTF16", name := "newBytesLength", desc := "(I)I" } : Jvm.MethodName) jdk_52_method_3_code (1 : Nat) (Option.some Jvm.ClassFile.FieldType.int), Jvm.Cond.code ({ cls := "java/lang/StringUTF16", name := "putChar", desc := "([BII)V" } : Jvm.MethodName) jdk_52_method_4_code (3 : Nat) (Option.none : Option Jvm.ClassFile.FieldType), Jvm.Cond.code ({ cls := "java/lang/StringUTF16", name := "getChar", desc := "([BI)C" } : Jvm.MethodName) jdk_52_method_5_code (2 : Nat) (Option.some Jvm.ClassFile.FieldType.char), Jvm.Cond.code ({ cls := "java/lang/StringUTF16", name := "toChars", desc := "([B)[C" } : Jvm.MethodName) jdk_52_method_13_code (2 : Nat) (Option.some (Jvm.ClassFile.FieldType.array Jvm.ClassFile.FieldType.char)), Jvm.Cond.code ({ cls := "java/lang/StringUTF16", name := "getChars", desc := "([BII[CI)V" } : Jvm.MethodName) jdk_52_method_26_code (6 : Nat) (Option.none : Option Jvm.ClassFile.FieldType), Jvm.Cond.code ({ cls := "java/lang/StringUTF16", name := "checkBoundsOffCount", desc := "(II[B)V" } : Jvm.MethodName) jdk_52_method_94_code (3 : Nat) (Option.none : Option Jvm.ClassFile.FieldType), Jvm.Cond.code ({ cls := "java/lang/StringUTF16", name := "length", desc := "([B)I" } : Jvm.MethodName) jdk_52_method_6_code (1 : Nat) (Option.some Jvm.ClassFile.FieldType.int), Jvm.Cond.code ({ cls := "java/lang/String", name := "checkBoundsOffCount", desc := "(III)I" } : Jvm.MethodName) jdk_42_method_157_code (3 : Nat) (Option.some Jvm.ClassFile.FieldType.int), Jvm.Cond.code ({ cls := "jdk/internal/util/Preconditions", name := "checkFromIndexSize", desc := "(IIILjava/util/function/BiFunction;)I" } : Jvm.MethodName) jdk_41_method_13_code (4 : Nat) (Option.some Jvm.ClassFile.FieldType.int), Jvm.Cond.code ({ cls := "java/lang/AbstractStringBuilder", name := "inflate", desc := "()V" } : Jvm.MethodName) jdk_68_method_11_code (2 : Nat) (Option.none : Option Jvm.ClassFile.FieldType), Jvm.Cond.code ({ cls := "java/lang/StringLatin1", name := "inflate", desc := "([BI[BII)V" } : Jvm.MethodName) jdk_43_method_50_code (5 : Nat) (Option.none : Option Jvm.ClassFile.FieldType), Jvm.Cond.code ({ cls := "java/lang/StringUTF16", name := "inflate", desc := "([BI[BII)V" } : Jvm.MethodName) jdk_52_method_86_code (6 : Nat) (Option.none : Option Jvm.ClassFile.FieldType), Jvm.Cond.code ({ cls := "java/lang/StringUTF16", name := "putCharSB", desc := "([BII)V" } : Jvm.MethodName) jdk_52_method_71_code (3 : Nat) (Option.none : Option Jvm.ClassFile.FieldType), Jvm.Cond.code ({ cls := "java/lang/StringUTF16", name := "checkIndex", desc := "(I[B)V" } : Jvm.MethodName) jdk_52_method_91_code (2 : Nat) (Option.none : Option Jvm.ClassFile.FieldType), Jvm.Cond.code ({ cls := "java/lang/StringUTF16", name := "charAt", desc := "([BI)C" } : Jvm.MethodName) jdk_52_method_83_code (2 : Nat) (Option.some Jvm.ClassFile.FieldType.char)]
set_option maxRecDepth 65536 in
theorem codes_eq : words1.filter isCode = codes1 := rfl
theorem w_codes : ∀ c ∈ words1.filter isCode, c.before args0 about1 = true := by
  rw [codes_eq]
  intro c hc
  simp only [codes1, List.mem_cons, List.not_mem_nil, or_false] at hc
  rcases hc with rfl | rfl | rfl | rfl | rfl | rfl | rfl | rfl | rfl | rfl | rfl | rfl | rfl | rfl | rfl | rfl | rfl | rfl | rfl | rfl | rfl | rfl | rfl | rfl | rfl | rfl | rfl | rfl | rfl | rfl | rfl | rfl | rfl | rfl | rfl | rfl | rfl | rfl | rfl | rfl | rfl | rfl | rfl | rfl | rfl | rfl | rfl | rfl | rfl | rfl | rfl | rfl
  · exact w_c0
  · exact w_c1
  · exact w_c2
  · exact w_c3
  · exact w_c4
  · exact w_c5
  · exact w_c6
  · exact w_c7
  · exact w_c8
  · exact w_c9
  · exact w_c10
  · exact w_c11
  · exact w_c12
  · exact w_c13
  · exact w_c14
  · exact w_c15
  · exact w_c16
  · exact w_c17
  · exact w_c18
  · exact w_c19
  · exact w_c20
  · exact w_c21
  · exact w_c22
  · exact w_c23
  · exact w_c24
  · exact w_c25
  · exact w_c26
  · exact w_c27
  · exact w_c28
  · exact w_c29
  · exact w_c30
  · exact w_c31
  · exact w_c32
  · exact w_c33
  · exact w_c34
  · exact w_c35
  · exact w_c36
  · exact w_c37
  · exact w_c38
  · exact w_c39
  · exact w_c40
  · exact w_c41
  · exact w_c42
  · exact w_c43
  · exact w_c44
  · exact w_c45
  · exact w_c46
  · exact w_c47
  · exact w_c48
  · exact w_c49
  · exact w_c50
  · exact w_c51
set_option maxRecDepth 65536 in
theorem w_t1 : (words1.take 24).all (fun c => isCode c || c.before args0 about1) = true := by decide +kernel
set_option maxRecDepth 65536 in
theorem w_t2 : ((words1.drop 24).take 24).all (fun c => isCode c || c.before args0 about1) = true := by decide +kernel
set_option maxRecDepth 65536 in
theorem w_t3 : (((words1.drop 24).drop 24).take 24).all (fun c => isCode c || c.before args0 about1) = true := by decide +kernel
set_option maxRecDepth 65536 in
theorem w_t4 : ((((words1.drop 24).drop 24).drop 24).take 24).all (fun c => isCode c || c.before args0 about1) = true := by decide +kernel
set_option maxRecDepth 65536 in
theorem w_t5 : (((((words1.drop 24).drop 24).drop 24).drop 24).take 24).all (fun c => isCode c || c.before args0 about1) = true := by decide +kernel
set_option maxRecDepth 65536 in
theorem w_t6 : ((((((words1.drop 24).drop 24).drop 24).drop 24).drop 24).take 24).all (fun c => isCode c || c.before args0 about1) = true := by decide +kernel
set_option maxRecDepth 65536 in
theorem w_t7 : (((((((words1.drop 24).drop 24).drop 24).drop 24).drop 24).drop 24).take 24).all (fun c => isCode c || c.before args0 about1) = true := by decide +kernel
set_option maxRecDepth 65536 in
theorem w_t8 : ((((((((words1.drop 24).drop 24).drop 24).drop 24).drop 24).drop 24).drop 24).take 24).all (fun c => isCode c || c.before args0 about1) = true := by decide +kernel
set_option maxRecDepth 65536 in
theorem w_t9 : (((((((((words1.drop 24).drop 24).drop 24).drop 24).drop 24).drop 24).drop 24).drop 24).take 24).all (fun c => isCode c || c.before args0 about1) = true := by decide +kernel
set_option maxRecDepth 65536 in
theorem w_t10 : (((((((((words1.drop 24).drop 24).drop 24).drop 24).drop 24).drop 24).drop 24).drop 24).drop 24).all (fun c => isCode c || c.before args0 about1) = true := by decide +kernel
theorem w_tables : (allAtoms (Jvm.Cond.code x code maxLocals ret :: tables_1)).before args0 about1 = true := by
  rw [allAtoms_all]
  show words1.all (fun c => c.before args0 about1) = true
  refine all_split ?_ w_codes
  rw [← List.take_append_drop 24 words1, List.all_append, w_t1, ← List.take_append_drop 24 (words1.drop 24), List.all_append, w_t2, ← List.take_append_drop 24 ((words1.drop 24).drop 24), List.all_append, w_t3, ← List.take_append_drop 24 (((words1.drop 24).drop 24).drop 24), List.all_append, w_t4, ← List.take_append_drop 24 ((((words1.drop 24).drop 24).drop 24).drop 24), List.all_append, w_t5, ← List.take_append_drop 24 (((((words1.drop 24).drop 24).drop 24).drop 24).drop 24), List.all_append, w_t6, ← List.take_append_drop 24 ((((((words1.drop 24).drop 24).drop 24).drop 24).drop 24).drop 24), List.all_append, w_t7, ← List.take_append_drop 24 (((((((words1.drop 24).drop 24).drop 24).drop 24).drop 24).drop 24).drop 24), List.all_append, w_t8, ← List.take_append_drop 24 ((((((((words1.drop 24).drop 24).drop 24).drop 24).drop 24).drop 24).drop 24).drop 24), List.all_append, w_t9, w_t10]
  rfl
set_option maxRecDepth 65536 in
theorem w_rest : rest_1_c.before args0 about1 = true := by decide +kernel
set_option maxRecDepth 65536 in
theorem w_case : (Jvm.Cond.and given_1 narrow_1).before args0 about1 = true := by decide +kernel
set_option maxRecDepth 65536 in
theorem w_consts : constsHeld consts_1 about1 := Jvm.Lit.constsHeldB_iff.mp (by decide +kernel)
theorem w_applies : (headSpec (Jvm.Cond.code x code maxLocals ret :: tables_1) room_1).applies x e0.platform about1 = true :=
  (Spec.applies_iff w_frames).mpr ⟨w_running, w_runnable, w_alone, w_named, w_hears, w_ripe, w_room, w_tables⟩
theorem atStart : AtStart classFile x code maxLocals ret World_1 tables_1 room_1 Calls_1 rest_1 Pre_1 launch0 p0 e0 about1 theMethod args0 below0 :=
  ⟨lists_1, trivial, launch0.admits_env _ _ _, launch0.least_env, fairChoices_fair.cas, fairChoices_fair.clock, w_frames, w_args, w_heap, w_applies, ⟨w_consts, trivial⟩, w_rest, w_case⟩
end start1
theorem witness_1 : WitnessClaimed_1 := ⟨start1.p0, start1.e0, start1.about1, start1.theMethod, start1.args0, start1.below0, start1.atStart⟩
end Jvm.Pilot.@@N@@
