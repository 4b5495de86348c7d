import JvmDerived
import JvmDerived.Pilot.@@N@@Statement
import JvmDerived.Pilot.@@N@@Code
set_option linter.unusedVariables false
set_option linter.unusedSimpArgs false
namespace Jvm.RoadKit
open Sem ClassFile Op Lib Jvm.Stand Jvm.Free Jvm.LawKit
section New
variable {p : Program} {l : Launch} {e : Env} {R : Room} {s : State} {m : MethodId} {args : Array Value} {below : List Frame} {meth : Method} {c : Code} {T : State} {locs : List Loc} {cells slots : Nat}
theorem retI (X : Stand p l e R s m args below meth c T locs cells slots) (hx : p.tables.exec = Jvm.exec) {pc : Nat} {Ls : Array Slot} {z : Int32} {rest : List Value} (hret : meth.sig.returnType = some .int) (hd : decode c.code pc = .ok (.ireturn, 1)) {fs : List Frame}
    (hl : ∀ (f : JFrame) (acts : List Action), f.method = m → f.locked = none → f.entered = [] → (doReturn e (T.setTop f) acts (some (.int z))).1 = T.setFrames fs) : Steps p.tables e below (T.setTop (mkF m pc Ls (.int z :: rest))) (T.setFrames fs) := by
  have hm' : T.vm.method? m = some meth := X.method'
  have hn : narrow .int (.int z) = .int z := rfl
  show Steps p.tables e below (T.setTop { method := m, pc := pc, locals := Ls, stack := _ :: rest, locked := none }) _
  jvm_step X.here [X.here.top, hx, hd, hm', hret, hn]
  first | (intro acts; rw [hl _ acts rfl rfl rfl]) | rw [hl _ _ rfl rfl rfl]
  exact Steps.refl _
end New
end Jvm.RoadKit
/- laws to paste: Road.eqW (cut by pick.py; bodies as the Statement names them) -/
namespace Jvm.Pilot.@@N@@
namespace StrChars
open Jvm Sem ClassFile Op Lib Jvm.Stand Jvm.Free.XT Jvm.Free.ALB Jvm.Free.JM Jvm.Free
open Jvm.Lib.Cold (StaticIs)
/-- the byte that i2b leaves of a char -/
def lo8 (x : Int32) : Int32 := x.toInt8.toInt32
theorem fits_lo8 (y : Int32) : fits .byte (.int (lo8 y)) = true := by
  have h1 := y.toInt8.le_toInt
  have h2 := y.toInt8.toInt_lt
  simp only [lo8, fits, Bool.and_eq_true, decide_eq_true_eq, Int32.le_iff_toInt_le, Int8.toInt_toInt32, show (-128 : Int32).toInt = -128 from by decide, show (127 : Int32).toInt = 127 from by decide]
  omega
def U16 : String := "java/lang/StringUTF16"
namespace Cmp5
def yN : MethodName := ⟨"java/lang/StringUTF16", "compress", "([CI[BII)I"⟩
abbrev yB : ByteArray := jdk_52_method_21_code
end Cmp5
namespace Cmp3
def yN : MethodName := ⟨"java/lang/StringUTF16", "compress", "([CII)[B"⟩
abbrev yB : ByteArray := jdk_52_method_16_code
end Cmp3
namespace CodL
def yN : MethodName := ⟨"java/lang/StringUTF16", "coderFromArrayLen", "([BI)B"⟩
abbrev yB : ByteArray := jdk_52_method_15_code
end CodL
namespace New4
def yN : MethodName := ⟨"java/lang/String", "<init>", "([CIILjava/lang/Void;)V"⟩
abbrev yB : ByteArray := jdk_42_method_149_code
end New4
namespace New1
def yN : MethodName := ⟨"java/lang/String", "<init>", "([C)V"⟩
abbrev yB : ByteArray := jdk_42_method_3_code
end New1
/-- the byte, read back as charAt reads it, is the char -/
theorem lo8_mask {x : Int32} (h0 : ¬ x < 0) (h1 : ¬ 255 < x) : lo8 x &&& 255 = x := by
  have t : ∀ k : Fin 256, lo8 (Int32.ofNat k.val) &&& 255 = Int32.ofNat k.val := by decide +kernel
  rw [Int32.lt_iff_toInt_lt] at h0 h1
  have e0 : (0 : Int32).toInt = 0 := rfl
  have e1 : (255 : Int32).toInt = 255 := rfl
  obtain ⟨k, hk⟩ : ∃ k : Nat, x.toInt = k := ⟨x.toInt.toNat, by omega⟩
  have hx : x = Int32.ofNat k := Int32.toInt_inj.mp (by rw [hk, Int32.toInt_ofNat_small (by omega)])
  rw [hx]
  exact t ⟨k, by omega⟩
end StrChars
namespace StrChars.Road
open Jvm Sem ClassFile Op Lib Jvm.Stand Jvm.Free Jvm.Free.XT
open Jvm.Lib.Cold (StaticIs)
abbrev ST : String := "java/lang/String"
/-- every table word that New1's law asks, flat -/
abbrev words : List Jvm.Cond := [.code New1.yN New1.yB 2 none, .initialized ST, .methodLink ST 27 New4.yN, .instanceMethod New4.yN,
  .code New4.yN New4.yB 6 none, .fieldLink ST 38 ST "COMPACT_STRINGS" "Z", .laysFinal ST ST "value" "[B", .fieldLink ST 9 ST "value" "[B", .laysFinal ST ST "coder" "B", .fieldLink ST 15 ST "coder" "B",
  .methodLink ST 1 Lib.objectInit, .instanceMethod Lib.objectInit, .code Lib.objectInit ⟨#[0xb1]⟩ 1 none, .methodLink ST 177 Cmp3.yN, .static Cmp3.yN, .methodLink ST 47 CodL.yN, .static CodL.yN,
  .code Cmp3.yN Cmp3.yB 6 (some (.array .byte)), .initialized U16, .arrayClass .byte, .methodLink U16 115 Cmp5.yN, .static Cmp5.yN, .code Cmp5.yN Cmp5.yB 7 (some .int), .code CodL.yN CodL.yB 2 (some .byte)]
end StrChars.Road
namespace StrChars
open Jvm Sem ClassFile Op Lib Jvm.Stand Jvm.Free.XT Jvm.Free.ALB Jvm.Free.JM Jvm.Free
open Jvm.Lib.Cold (StaticIs)
def hi8 (x : Int32) : Int32 := lo8 (x >>> ((8 : Int32) &&& 31))
/-- what StringUTF16.getChar makes of two bytes -/
def pairCh (u v : Int32) : Int32 := (((u &&& 255) <<< ((0 : Int32) &&& 31)) ||| ((v &&& 255) <<< ((8 : Int32) &&& 31))).toUInt32.toUInt16.toUInt32.toInt32
theorem lo8_and (x : Int32) : (lo8 x &&& 255).toBitVec.toNat = x.toBitVec.toNat % 256 := by
  have h : (lo8 x).toBitVec = (x.toBitVec.signExtend 8).signExtend 32 := by rw [lo8, Int8.toBitVec_toInt32, Int32.toBitVec_toInt8]
  rw [Int32.toBitVec_and, BitVec.toNat_and, h]
  have e : ((x.toBitVec.signExtend 8).signExtend 32).toNat % 256 = x.toBitVec.toNat % 256 := by
    rw [BitVec.toNat_signExtend]
    have hlt := x.toBitVec.isLt
    simp only [BitVec.toNat_setWidth, BitVec.toNat_signExtend]
    split <;> split <;> omega
  rw [← e]
  exact Nat.and_two_pow_sub_one_eq_mod _ 8
theorem pair_says {c : Int32} (h0 : ¬ c < 0) (h1 : ¬ 65535 < c) : pairCh (lo8 c) (hi8 c) = c := by
  rw [Int32.lt_iff_toInt_lt] at h0 h1
  have e0 : (0 : Int32).toInt = 0 := rfl
  have e1 : (65535 : Int32).toInt = 65535 := rfl
  have hc : c.toInt = c.toBitVec.toNat := by
    have := c.toBitVec.isLt
    have e : c.toInt = c.toBitVec.toInt := rfl
    rw [e] at h0 h1
    rw [e]
    rw [BitVec.toInt_eq_toNat_cond] at h0 h1 ⊢
    split at h0 <;> split <;> omega
  have hn : c.toBitVec.toNat < 65536 := by omega
  have a1 := lo8_and c
  have a2 : (hi8 c &&& 255).toBitVec.toNat = c.toBitVec.toNat / 256 := by
    rw [hi8, lo8_and]
    have e : ((8 : Int32) &&& 31) = 8 := by decide
    rw [e, Int32.toBitVec_shiftRight]
    have e2 : ((8 : Int32).toBitVec.smod 32) = 8#32 := by decide
    rw [e2, BitVec.sshiftRight_eq', BitVec.toNat_sshiftRight_of_msb_false (by rw [BitVec.msb_eq_false_iff_two_mul_lt]; omega)]
    show c.toBitVec.toNat >>> 8 % 256 = _
    rw [Nat.shiftRight_eq_div_pow]
    omega
  unfold pairCh
  apply Int32.toBitVec_inj.mp
  apply BitVec.eq_of_toNat_eq
  have f0 : ((0 : Int32) &&& 31) = 0 := by decide
  have f8 : ((8 : Int32) &&& 31) = 8 := by decide
  rw [f0, f8]
  have g : (((lo8 c &&& 255) <<< (0 : Int32)) ||| ((hi8 c &&& 255) <<< (8 : Int32))).toBitVec.toNat = c.toBitVec.toNat := by
    rw [Int32.toBitVec_or, Int32.toBitVec_shiftLeft, Int32.toBitVec_shiftLeft]
    have s0 : ((0 : Int32).toBitVec.smod 32) = 0#32 := by decide
    have s8 : ((8 : Int32).toBitVec.smod 32) = 8#32 := by decide
    rw [s0, s8, BitVec.toNat_or]
    simp only [BitVec.shiftLeft_eq', BitVec.toNat_shiftLeft, a1, a2]
    show (c.toBitVec.toNat % 256) <<< 0 % 2 ^ 32 ||| (c.toBitVec.toNat / 256) <<< 8 % 2 ^ 32 = _
    rw [Nat.shiftLeft_zero, Nat.mod_eq_of_lt (show c.toBitVec.toNat % 256 < 2 ^ 32 by omega), Nat.mod_eq_of_lt (show (c.toBitVec.toNat / 256) <<< 8 < 2 ^ 32 by rw [Nat.shiftLeft_eq]; omega), Nat.or_comm, ← Nat.shiftLeft_add_eq_or_of_lt (by omega), Nat.shiftLeft_eq]
    omega
  show BitVec.toNat (((((lo8 c &&& 255) <<< (0 : Int32)) ||| ((hi8 c &&& 255) <<< (8 : Int32))).toBitVec.setWidth 16).setWidth 32) = _
  rw [BitVec.toNat_setWidth, BitVec.toNat_setWidth, g]
  omega
end StrChars
namespace StrChars
open Jvm Sem ClassFile Op Lib Jvm.Stand Jvm.Free.XT Jvm.Free.ALB Jvm.Free.JM Jvm.Free
open Jvm.Lib.Cold (StaticIs)
/-- the array's cell V codes the n chars f 0 .. f (n - 1) by the coder cd, as the JDK does: coder 1 just where some char is above 255 -/
def Cod (cd : Int32) (n : Nat) (f : Nat → Int32) (V : Cell) : Prop := (cd = 0 ∧ V.slots.size = n ∧ ∀ j, j < n → V.slots[j]? = some (.int (lo8 (f j))) ∧ ¬ 255 < f j) ∨ (cd = 1 ∧ V.slots.size = 2 * n ∧ (∀ j, j < n → V.slots[2 * j]? = some (.int (lo8 (f j))) ∧ V.slots[2 * j + 1]? = some (.int (hi8 (f j)))) ∧ ∃ j, j < n ∧ 255 < f j)
/-- **x is a String of the n chars f 0 .. f (n - 1)**, Latin-1 or UTF-16; its array at t has the cell V -/
def Txt (x t : Addr) (V : Cell) (cd : Int32) (n : Nat) (f : Nat → Int32) (U : State) : Prop := Exact "java/lang/String" x U ∧ Has x "java/lang/String" "value" "[B" (.ref t) U ∧ Has x "java/lang/String" "coder" "B" (.int cd) U ∧ XT.Arr .byte t V U ∧ Cod cd n f V ∧ ∀ j, j < n → ¬ f j < 0 ∧ ¬ 65535 < f j
theorem Txt.mv {x t : Addr} {V : Cell} {cd : Int32} {n : Nat} {f : Nat → Int32} {U U' : State} (h : Txt x t V cd n f U) (hal : U.vm.Alike U'.vm) (hh : U'.heap = U.heap) : Txt x t V cd n f U' := ⟨h.1.mv hal hh, h.2.1.mv hal hh, h.2.2.1.mv hal hh, h.2.2.2.1.mv hal hh, h.2.2.2.2⟩
end StrChars
namespace StrChars.Road
open Jvm Sem ClassFile Op Lib Jvm.Stand Jvm.Free Jvm.Free.XT
open Jvm.Lib.Cold (StaticIs)
theorem consq {a : Array Value} {s : State} {c : Jvm.Cond} {L : List Jvm.Cond} (h0 : c.before a s = true) (h : ∀ w ∈ L, w.before a s = true) : ∀ w ∈ c :: L, w.before a s = true := fun w hw => (List.mem_cons.mp hw).elim (fun e => e ▸ h0) (h w)
/-- the bytes of the chars cs, low before high -/
def wideBytes : List Int32 → List Value
  | [] => []
  | c :: cs => .int (lo8 c) :: .int (hi8 c) :: wideBytes cs
theorem wide_lo (d : Value) : ∀ (cs : List Int32) (j : Nat), j < cs.length → (wideBytes cs).getD (2 * j) d = .int (lo8 (cs.getD j 0))
  | [], j, h => absurd h (Nat.not_lt_zero j)
  | c :: cs, 0, _ => rfl
  | c :: cs, j + 1, h => by
    have q := wide_lo d cs j (by simpa using h)
    rw [show 2 * (j + 1) = 2 * j + 1 + 1 from by omega]
    simpa [wideBytes] using q
theorem wide_hi (d : Value) : ∀ (cs : List Int32) (j : Nat), j < cs.length → (wideBytes cs).getD (2 * j + 1) d = .int (hi8 (cs.getD j 0))
  | [], j, h => absurd h (Nat.not_lt_zero j)
  | c :: cs, 0, _ => rfl
  | c :: cs, j + 1, h => by
    have q := wide_hi d cs j (by simpa using h)
    rw [show 2 * (j + 1) + 1 = 2 * j + 1 + 1 + 1 from by omega]
    simpa [wideBytes] using q
theorem low_at (d : Value) (cs : List Int32) (j : Nat) (h : j < cs.length) : (cs.map fun c => Value.int (lo8 c)).getD j d = .int (lo8 (cs.getD j 0)) := by
  simp [List.getD_eq_getElem?_getD, h]
/-- an array of N2 bytes vs codes the chars cs by the coder cd -/
def CodA (cs : List Int32) (cd N2 : Int32) (vs : List Value) : Prop := (cd = 0 ∧ N2 = Int32.ofNat cs.length ∧ vs = (cs.map fun c => Value.int (lo8 c)) ∧ ∀ c ∈ cs, ¬ 255 < c) ∨ (cd = 1 ∧ N2 = Int32.ofNat (2 * cs.length) ∧ vs = wideBytes cs ∧ ∃ c ∈ cs, 255 < c)
theorem CodA.cod {cs : List Int32} {cd N2 : Int32} {vs : List Value} {V : Cell} (h : CodA cs cd N2 vs) (hn : 2 * cs.length < 2 ^ 31) (hs : V.slots.size = N2.toNatClampNeg) (hv : RoadKit.Has V vs (.int 0)) : Cod cd cs.length (fun j => cs.getD j 0) V := by
  rcases h with ⟨rfl, rfl, rfl, h⟩ | ⟨rfl, rfl, rfl, c, hc, hw⟩
  · rw [n32 (by omega)] at hs
    exact Or.inl ⟨rfl, hs, fun j hj => ⟨by rw [hv j (by omega), low_at _ _ _ hj], by
      have e : cs.getD j 0 = cs[j] := by simp [List.getD_eq_getElem?_getD, hj]
      show ¬ 255 < cs.getD j 0
      rw [e]; exact h _ (List.getElem_mem _)⟩⟩
  · rw [n32 (by omega)] at hs
    obtain ⟨j, hj, rfl⟩ := List.getElem_of_mem hc
    exact Or.inr ⟨rfl, hs, fun j hj => ⟨by rw [hv _ (by omega), wide_lo _ _ _ hj], by rw [hv _ (by omega), wide_hi _ _ _ hj]⟩, j, hj, by
      have e : cs.getD j 0 = cs[j] := by simp [List.getD_eq_getElem?_getD, hj]
      show 255 < cs.getD j 0
      rw [e]; exact hw⟩
/-- an object of exactly java/lang/String, its two fields found: as the laws ask it -/
theorem strObj {Z U : State} {a0 : Array Value} {kI : Nat} (wi : (Jvm.Cond.instantiable ST kI).before a0 Z = true) (al : Z.vm.Alike U.vm) {x : Addr} {v0 c0 : Value} (E : RoadKit.Exa Z U.heap x ST) (V : RoadKit.Fld Z U.heap x ST "value" "[B" v0) (C : RoadKit.Fld Z U.heap x ST "coder" "B" c0) :
    ∃ (D : Cell) (fV fC : Field), Blank ST x D U ∧ Found ST "value" "[B" fV U ∧ Found ST "coder" "B" fC U ∧ D.slots[fV.slot]? = some v0 ∧ D.slots[fC.slot]? = some c0 ∧ RoadKit.slotOf Z ST "value" "[B" = fV.slot ∧ RoadKit.slotOf Z ST "coder" "B" = fC.slot := by
  obtain ⟨D, cfV, kV, iV, fV, hD, gV, stV, knV, obV, asV, slV⟩ := V
  obtain ⟨D', cfC, kC, iC, fC, hD', gC, stC, -, -, asC, slC⟩ := C
  cases hD.symm.trans hD'
  obtain ⟨D2, kD, e1, e2, e3, e4, e5⟩ := E
  cases hD.symm.trans e1
  obtain ⟨c2, k2, i1, i2, i3, -⟩ := Cond.instantiable_spec wi
  cases e2.symm.trans i1
  cases e3.symm.trans i2
  obtain ⟨kU, u1, u2⟩ := al.2.2 _ _ e3
  exact ⟨D, fV, fC, ⟨hD, ⟨knV, fun q hq => by rw [hq] at obV; cases obV⟩, by rw [al.findClass]; exact e2, kU, u1, by rw [u2]; exact i3, by rw [u2]; exact e5 i3⟩, ⟨SBG.found_only al ⟨cfV, kV, iV, gV⟩, stV⟩, ⟨SBG.found_only al ⟨cfC, kC, iC, gC⟩, stC⟩, slV, slC, by simp [RoadKit.slotOf, gV], by simp [RoadKit.slotOf, gC]⟩
theorem sta_is {Z U : State} (al : Z.vm.Alike U.vm) {C n d : String} {v : Value} (S : RoadKit.Sta Z U.heap C n d v) : StaticIs U C n d v := by
  obtain ⟨cfS, iS, kS, fS, st, cS, t1, t2, t3, t4, t5, t6, t7⟩ := S
  exact StaticIs.there (s := { Z with heap := U.heap }) ⟨cfS, iS, kS, fS, st, cS, t1, t2, t3, t4, t5, (fun q => by rw [q] at t6; cases t6), t7⟩ al rfl
end StrChars.Road
namespace StrChars
open Jvm Sem ClassFile Op Lib Jvm.Stand Jvm.Free.XT Jvm.Free.ALB Jvm.Free.JM Jvm.Free
open Jvm.Lib.Cold (StaticIs)
/-- what place i of a byte[]'s cell holds -/
def yv (A : Cell) (i : Nat) : Int32 := match A.slots[i]? with | some (.int x) => x | _ => 0
theorem yv_get {a : Addr} {A : Cell} {U : State} (h : XT.Arr .byte a A U) (ht : Typed .byte A) {i : Nat} (hi : i < A.slots.size) : A.slots[i]? = some (.int (yv A i)) := by
  have e := Array.getElem?_eq_getElem hi
  have f := ht i _ e
  unfold yv; rw [e]
  generalize A.slots[i] = v at f
  cases v <;> simp [fits] at f ⊢
/-- the two arrays are equal, place for place -/
def EqC (A B : Cell) : Prop := A.slots.size = B.slots.size ∧ ∀ i, i < A.slots.size → yv A i = yv B i
/-- a boolean that says whether p -/
def Says01 (q : Prop) (r : Option Value) (s u : State) : Prop := ∃ v : Int32, r = some (.int v) ∧ u.heap = s.heap ∧ ((v = 1 ∧ q) ∨ (v = 0 ∧ ¬ q))
theorem Says01.mv {q : Prop} : ∀ r (U U' V V' : State), U'.heap = U.heap → V.vm.Alike V'.vm → V'.heap = V.heap → Says01 q r U V → Says01 q r U' V' :=
  fun r U U' V V' h1 _ h2 ⟨v, a, b, c⟩ => ⟨v, a, by rw [h1, h2]; exact b, c⟩
namespace LEq
def yN : MethodName := ⟨"java/lang/StringLatin1", "equals", "([B[B)Z"⟩
abbrev yB : ByteArray := jdk_43_method_13_code
theorem d0 : decode yB 0 = .ok (.aload_n 0, 1) := by decide +kernel
theorem d1 : decode yB 1 = .ok (.arraylength, 1) := by decide +kernel
theorem d2 : decode yB 2 = .ok (.aload_n 1, 1) := by decide +kernel
theorem d3 : decode yB 3 = .ok (.arraylength, 1) := by decide +kernel
theorem d4 : decode yB 4 = .ok (.if_icmp (.ne) 30, 3) := by decide +kernel
theorem d7 : decode yB 7 = .ok (.iconst 0, 1) := by decide +kernel
theorem d8 : decode yB 8 = .ok (.istore_n 2, 1) := by decide +kernel
theorem d9 : decode yB 9 = .ok (.iload_n 2, 1) := by decide +kernel
theorem d10 : decode yB 10 = .ok (.aload_n 0, 1) := by decide +kernel
theorem d11 : decode yB 11 = .ok (.arraylength, 1) := by decide +kernel
theorem d12 : decode yB 12 = .ok (.if_icmp (.ge) 20, 3) := by decide +kernel
theorem d15 : decode yB 15 = .ok (.aload_n 0, 1) := by decide +kernel
theorem d16 : decode yB 16 = .ok (.iload_n 2, 1) := by decide +kernel
theorem d17 : decode yB 17 = .ok (.baload, 1) := by decide +kernel
theorem d18 : decode yB 18 = .ok (.aload_n 1, 1) := by decide +kernel
theorem d19 : decode yB 19 = .ok (.iload_n 2, 1) := by decide +kernel
theorem d20 : decode yB 20 = .ok (.baload, 1) := by decide +kernel
theorem d21 : decode yB 21 = .ok (.if_icmp (.eq) 5, 3) := by decide +kernel
theorem d24 : decode yB 24 = .ok (.iconst 0, 1) := by decide +kernel
theorem d25 : decode yB 25 = .ok (.ireturn, 1) := by decide +kernel
theorem d26 : decode yB 26 = .ok (.iinc 2 1, 3) := by decide +kernel
theorem d29 : decode yB 29 = .ok (.goto (-20), 3) := by decide +kernel
theorem d32 : decode yB 32 = .ok (.iconst 1, 1) := by decide +kernel
theorem d33 : decode yB 33 = .ok (.ireturn, 1) := by decide +kernel
theorem d34 : decode yB 34 = .ok (.iconst 0, 1) := by decide +kernel
theorem d35 : decode yB 35 = .ok (.ireturn, 1) := by decide +kernel
def site : List Cond := []
def tab : Cond := tabOf yN yB 3 (some .boolean) site
def P (a : Addr) (A : Cell) (b : Addr) (B : Cell) (args : Array Value) (s : State) : Prop := args = #[.ref a, .ref b] ∧ XT.Arr .byte a A s ∧ Typed .byte A ∧ XT.Arr .byte b B s ∧ Typed .byte B
/-- whether two byte[] are equal, place for place -/
theorem law (l : Launch) (a : Addr) (A : Cell) (b : Addr) (B : Cell) : Law l yN 2 2 0 0 yB 3 (some .boolean) site (P a A b B) (Says01 (EqC A B)) [] 0 0 := by
  refine Law.of_walk (plainFor_of_name (by decide +kernel)) (by decide +kernel) (by decide +kernel) (by decide) (fun _ _ h => by rw [h.1]; rfl) (fun _ U U' hal hh h => ⟨h.1, h.2.1.mv hal hh, h.2.2.1, h.2.2.2.1.mv hal hh, h.2.2.2.2⟩) (fun r U U' V V' h1 hal h2 h => Says01.mv r U U' V V' h1 hal h2 h) ?_
  intro p e s m args below meth c s₁ X0 hexec hbytes hml hret hlk hnm hown hh0 W hP
  obtain ⟨rfl, hA, tA, hB, tB⟩ := hP
  have a31 := hA.2.2.2
  have b31 := hB.2.2.2
  have hA0 := hA.mv X0.warmed.alike hh0
  have hB0 := hB.mv X0.warmed.alike hh0
  have c1 : Steps p.tables e below (s₁.setTop (entryFrame m #[.ref a, .ref b] 3)) (s₁.setTop (mkF m 0 #[.val (.ref a), .val (.ref b), .unset] [])) := entry rfl
  have c2 : Steps p.tables e below (s₁.setTop (entryFrame m #[.ref a, .ref b] 3)) (s₁.setTop (mkF m 4 #[.val (.ref a), .val (.ref b), .unset] [.int (Int32.ofNat B.slots.size), .int (Int32.ofNat A.slots.size)])) := c1.trans (by
    refine XS.aloadN X0.here hexec rfl (hb hbytes d0) rfl rfl ?_
    refine X0.alen hexec hA0 rfl rfl (hb hbytes d1) ?_
    refine XS.aloadN X0.here hexec rfl (hb hbytes d2) rfl rfl ?_
    refine X0.alen hexec hB0 rfl rfl (hb hbytes d3) ?_
    exact Steps.refl _)
  by_cases hs : A.slots.size = B.slots.size
  · have c3 : Steps p.tables e below (s₁.setTop (entryFrame m #[.ref a, .ref b] 3)) (s₁.setTop (mkF m 9 #[.val (.ref a), .val (.ref b), .val (.int 0)] [])) := c2.trans (by
      refine XS.icmpNo X0.here hexec rfl (hb hbytes d4) rfl (ii_ne_f (by rw [hs])) ?_
      refine iconstV X0.here hexec rfl 0 (hb hbytes d7) (by decide) ?_
      refine XS.istoreN X0.here hexec rfl (hb hbytes d8) rfl rfl ?_
      exact Steps.refl _)
    have loop : ∀ (r i : Nat), i + r = A.slots.size → (∀ j, j < i → yv A j = yv B j) → Steps p.tables e below (s₁.setTop (entryFrame m #[.ref a, .ref b] 3)) (s₁.setTop (mkF m 9 #[.val (.ref a), .val (.ref b), .val (.int (Int32.ofNat i))] [])) → ∃ (pc : Nat) (Ls : Array Slot) (v : Int32), (pc = 25 ∨ pc = 33) ∧ ((v = 1 ∧ EqC A B) ∨ (v = 0 ∧ ¬ EqC A B)) ∧ Steps p.tables e below (s₁.setTop (entryFrame m #[.ref a, .ref b] 3)) (s₁.setTop (mkF m pc Ls [.int v])) := by
      intro r
      induction r with
      | zero =>
        intro i hi he cl
        exact ⟨33, _, 1, Or.inr rfl, Or.inl ⟨rfl, hs, fun j hj => he j (by omega)⟩, cl.trans (by
          refine XS.iloadN X0.here hexec rfl (hb hbytes d9) rfl ?_
          refine XS.aloadN X0.here hexec rfl (hb hbytes d10) rfl rfl ?_
          refine X0.alen hexec hA0 rfl rfl (hb hbytes d11) ?_
          refine XS.icmpYes X0.here hexec rfl (pc0 := 12) rfl (hb hbytes d12) rfl (ii_ge_t (nlt32 (by omega) (by omega))) (by decide) rfl ?_
          refine iconstV X0.here hexec rfl 1 (hb hbytes d32) (by decide) ?_
          exact Steps.refl _)⟩
      | succ r ih =>
        intro i hi he cl
        have c4 : Steps p.tables e below (s₁.setTop (entryFrame m #[.ref a, .ref b] 3)) (s₁.setTop (mkF m 21 #[.val (.ref a), .val (.ref b), .val (.int (Int32.ofNat i))] [.int (yv B i), .int (yv A i)])) := cl.trans (by
          refine XS.iloadN X0.here hexec rfl (hb hbytes d9) rfl ?_
          refine XS.aloadN X0.here hexec rfl (hb hbytes d10) rfl rfl ?_
          refine X0.alen hexec hA0 rfl rfl (hb hbytes d11) ?_
          refine XS.icmpNo X0.here hexec rfl (hb hbytes d12) rfl (ii_ge_f (lt32 (by omega) (by omega))) ?_
          refine XS.aloadN X0.here hexec rfl (hb hbytes d15) rfl rfl ?_
          refine XS.iloadN X0.here hexec rfl (hb hbytes d16) rfl ?_
          refine X0.aget hexec hA0 rfl (yv_get hA tA (i := i) (by omega)) rfl rfl (hb hbytes d17) ?_
          refine XS.aloadN X0.here hexec rfl (hb hbytes d18) rfl rfl ?_
          refine XS.iloadN X0.here hexec rfl (hb hbytes d19) rfl ?_
          refine X0.aget hexec hB0 rfl (yv_get hB tB (i := i) (by omega)) rfl rfl (hb hbytes d20) ?_
          exact Steps.refl _)
        by_cases hv : yv A i = yv B i
        · have c5 : Steps p.tables e below (s₁.setTop (entryFrame m #[.ref a, .ref b] 3)) (s₁.setTop (mkF m 9 #[.val (.ref a), .val (.ref b), .val (.int (Int32.ofNat i + 1))] [])) := c4.trans (by
            refine XS.icmpYes X0.here hexec rfl (pc0 := 21) rfl (hb hbytes d21) rfl (ii_eq_t hv) (by decide) rfl ?_
            refine iincV X0.here hexec rfl 1 (hb hbytes d26) (by decide) rfl rfl ?_
            refine XS.goto X0.here hexec rfl (pc0 := 29) rfl (hb hbytes d29) (by decide) rfl ?_
            exact Steps.refl _)
          rw [succ32] at c5
          exact ih (i + 1) (by omega) (fun j hj => by
            by_cases e : j = i
            · rw [e]; exact hv
            · exact he j (by omega)) c5
        · exact ⟨25, _, 0, Or.inl rfl, Or.inr ⟨rfl, fun q => hv (q.2 i (by omega))⟩, c4.trans (by
            refine XS.icmpNo X0.here hexec rfl (hb hbytes d21) rfl (ii_eq_f hv) ?_
            refine iconstV X0.here hexec rfl 0 (hb hbytes d24) (by decide) ?_
            exact Steps.refl _)⟩
    obtain ⟨pc, Ls, v, hpc, hv, cz⟩ := loop A.slots.size 0 (by omega) (fun j hj => absurd hj (Nat.not_lt_zero j)) c3
    have nv : narrow .boolean (.int v) = .int v := by rcases hv with ⟨rfl, -⟩ | ⟨rfl, -⟩ <;> rfl
    rcases hpc with rfl | rfl
    · exact ⟨s₁, some (.int v), _, _, _, X0, rfl, rfl, rfl, (fun h => by cases h), ⟨v, rfl, hh0, hv⟩, fun fs hl => cz.trans (X0.ireturnOut hexec hret nv (Or.inr (Or.inl rfl)) (hb hbytes d25) hl)⟩
    · exact ⟨s₁, some (.int v), _, _, _, X0, rfl, rfl, rfl, (fun h => by cases h), ⟨v, rfl, hh0, hv⟩, fun fs hl => cz.trans (X0.ireturnOut hexec hret nv (Or.inr (Or.inl rfl)) (hb hbytes d33) hl)⟩
  · have c3 : Steps p.tables e below (s₁.setTop (entryFrame m #[.ref a, .ref b] 3)) (s₁.setTop (mkF m 35 #[.val (.ref a), .val (.ref b), .unset] [.int 0])) := c2.trans (by
      refine XS.icmpYes X0.here hexec rfl (pc0 := 4) rfl (hb hbytes d4) rfl (ii_ne_t (ne32 a31 b31 hs)) (by decide) rfl ?_
      refine iconstV X0.here hexec rfl 0 (hb hbytes d34) (by decide) ?_
      exact Steps.refl _)
    exact ⟨s₁, some (.int 0), _, _, _, X0, rfl, rfl, rfl, (fun h => by cases h), ⟨0, rfl, hh0, Or.inr ⟨rfl, fun q => hs q.1⟩⟩, fun fs hl => c3.trans (X0.ireturnOut hexec hret rfl (Or.inr (Or.inl rfl)) (hb hbytes d35) hl)⟩
end LEq
theorem Cod.ty {cd : Int32} {n : Nat} {f : Nat → Int32} {V : Cell} (h : Cod cd n f V) : Typed .byte V := fun i v hv => by
  have hi : i < V.slots.size := (Array.getElem?_eq_some_iff.mp hv).1
  rcases h with ⟨-, k1, k2⟩ | ⟨-, k1, k2, -⟩
  · rw [(k2 i (by omega)).1] at hv; cases hv; exact fits_lo8 _
  · rcases Nat.mod_two_eq_zero_or_one i with e | e
    · obtain ⟨j, rfl⟩ : ∃ j, i = 2 * j := ⟨i / 2, by omega⟩
      rw [(k2 j (by omega)).1] at hv; cases hv; exact fits_lo8 _
    · obtain ⟨j, rfl⟩ : ∃ j, i = 2 * j + 1 := ⟨i / 2, by omega⟩
      rw [(k2 j (by omega)).2] at hv; cases hv; exact fits_lo8 _
/-- the same text -/
def SameT (n : Nat) (f : Nat → Int32) (k : Nat) (g : Nat → Int32) : Prop := n = k ∧ ∀ j, j < n → f j = g j
theorem lo8_inj {x y : Int32} (h0 : ¬ x < 0) (h1 : ¬ 255 < x) (k0 : ¬ y < 0) (k1 : ¬ 255 < y) (h : lo8 x = lo8 y) : x = y := by
  rw [← lo8_mask h0 h1, ← lo8_mask k0 k1, h]
/-- arrays coded by one coder are equal just where the texts are -/
theorem Cod.eqv {cd : Int32} {n k : Nat} {f g : Nat → Int32} {V V' : Cell} (h : Cod cd n f V) (h' : Cod cd k g V') (hf : ∀ j, j < n → ¬ f j < 0 ∧ ¬ 65535 < f j) (hg : ∀ j, j < k → ¬ g j < 0 ∧ ¬ 65535 < g j) : EqC V V' ↔ SameT n f k g := by
  have yvv : ∀ {W : Cell} {i : Nat} {x : Int32}, W.slots[i]? = some (.int x) → yv W i = x := fun q => by unfold yv; rw [q]
  rcases h with ⟨rfl, k1, k2⟩ | ⟨rfl, k1, k2, -⟩
  · rcases h' with ⟨-, m1, m2⟩ | ⟨e, -⟩
    · constructor
      · rintro ⟨e1, e2⟩
        refine ⟨by omega, fun j hj => ?_⟩
        have q := e2 j (by omega)
        rw [yvv (k2 j hj).1, yvv (m2 j (by omega)).1] at q
        exact lo8_inj (hf j hj).1 (k2 j hj).2 (hg j (by omega)).1 (m2 j (by omega)).2 q
      · rintro ⟨rfl, e2⟩
        refine ⟨by omega, fun j hj => ?_⟩
        rw [yvv (k2 j (by omega)).1, yvv (m2 j (by omega)).1, e2 j (by omega)]
    · exact absurd e (by decide)
  · rcases h' with ⟨e, -⟩ | ⟨-, m1, m2, -⟩
    · exact absurd e (by decide)
    · constructor
      · rintro ⟨e1, e2⟩
        refine ⟨by omega, fun j hj => ?_⟩
        have q1 := e2 (2 * j) (by omega)
        have q2 := e2 (2 * j + 1) (by omega)
        rw [yvv (k2 j hj).1, yvv (m2 j (by omega)).1] at q1
        rw [yvv (k2 j hj).2, yvv (m2 j (by omega)).2] at q2
        rw [← pair_says (hf j hj).1 (hf j hj).2, ← pair_says (hg j (by omega)).1 (hg j (by omega)).2, q1, q2]
      · rintro ⟨rfl, e2⟩
        refine ⟨by omega, fun i hi => ?_⟩
        rcases Nat.mod_two_eq_zero_or_one i with e | e
        · obtain ⟨j, rfl⟩ : ∃ j, i = 2 * j := ⟨i / 2, by omega⟩
          rw [yvv (k2 j (by omega)).1, yvv (m2 j (by omega)).1, e2 j (by omega)]
        · obtain ⟨j, rfl⟩ : ∃ j, i = 2 * j + 1 := ⟨i / 2, by omega⟩
          rw [yvv (k2 j (by omega)).2, yvv (m2 j (by omega)).2, e2 j (by omega)]
/-- two codings differ: so do the texts -/
theorem Cod.dif {cd cd' : Int32} {n k : Nat} {f g : Nat → Int32} {V V' : Cell} (h : Cod cd n f V) (h' : Cod cd' k g V') (hne : ¬ cd = cd') : ¬ SameT n f k g := by
  rintro ⟨rfl, e⟩
  rcases h with ⟨rfl, -, k2⟩ | ⟨rfl, -, -, j, hj, hw⟩
  · rcases h' with ⟨rfl, -⟩ | ⟨-, -, -, j, hj, hw⟩
    · exact hne rfl
    · exact (k2 j hj).2 (by rw [e j hj]; exact hw)
  · rcases h' with ⟨-, -, m2⟩ | ⟨rfl, -⟩
    · exact (m2 j hj).2 (by rw [← e j hj]; exact hw)
    · exact hne rfl
/-- an object of exactly C is an instance of C -/
theorem cinst {p : Program} {l : Launch} {e : Env} {R : Room} {s : State} {m : MethodId} {args : Array Value} {below : List Frame} {meth : Method} {c : Code} {T : State} {locs : List Loc} {cells slots : Nat} (X : Stand p l e R s m args below meth c T locs cells slots) (hexec : p.tables.exec = Jvm.exec) {own C : String} {index : Nat} (hown : s.vm.findClass own = some m.cls) (hlink : (Cond.classLink own index C).before args s = true) {a : Addr} (hE : Exact C a T)
    {g : JFrame} (hg : g.method = m) {rest : List Value} (hstack : g.stack = .ref a :: rest) (hdg : decode c.code g.pc = .ok (.instanceof index, 3)) :
    ∃ T', Stand p l e R s m args below meth c T' locs cells slots ∧ T'.heap = T.heap ∧ ∀ target, Steps p.tables e below (T'.setTop { g with pc := g.pc + 3, stack := .int 1 :: rest }) target → Steps p.tables e below (T.setTop g) target := by
  obtain ⟨cB, h1, D, h2, h3, h4⟩ := hE
  have h1' : s.vm.findClass C = some cB := by rw [← X.warmed.alike.findClass]; exact h1
  obtain ⟨vm', X', st⟩ := X.instanceofYes hexec hown hlink h2 h4 h1' (by rw [h3]; exact Jvm.Free.SB.assignable_self _ _) hg hstack hdg
  exact ⟨_, X', rfl, st⟩
theorem cself {p : Program} {l : Launch} {e : Env} {R : Room} {s : State} {m : MethodId} {args : Array Value} {below : List Frame} {meth : Method} {c : Code} {T : State} {locs : List Loc} {cells slots : Nat} (X : Stand p l e R s m args below meth c T locs cells slots) (hexec : p.tables.exec = Jvm.exec) {own C : String} {index : Nat} (hown : s.vm.findClass own = some m.cls) (hlink : (Cond.classLink own index C).before args s = true) {a : Addr} (hE : Exact C a T)
    {g : JFrame} (hg : g.method = m) {rest : List Value} (hstack : g.stack = .ref a :: rest) (hdg : decode c.code g.pc = .ok (.checkcast index, 3)) :
    ∃ T', Stand p l e R s m args below meth c T' locs cells slots ∧ T'.heap = T.heap ∧ ∀ target, Steps p.tables e below (T'.setTop { g with pc := g.pc + 3, stack := .ref a :: rest }) target → Steps p.tables e below (T.setTop g) target := by
  obtain ⟨cB, h1, D, h2, h3, h4⟩ := hE
  have h1' : s.vm.findClass C = some cB := by rw [← X.warmed.alike.findClass]; exact h1
  obtain ⟨vm', X', st⟩ := X.checkcastYes hexec hown hlink h2 h4 h1' (by rw [h3]; exact Jvm.Free.SB.assignable_self _ _) hg hstack hdg
  exact ⟨_, X', rfl, fun t h => st t (by rw [← hstack] at h; exact h)⟩
namespace SEq
def yN : MethodName := ⟨"java/lang/String", "equals", "(Ljava/lang/Object;)Z"⟩
abbrev yB : ByteArray := jdk_42_method_66_code
theorem d0 : decode yB 0 = .ok (.aload_n 0, 1) := by decide +kernel
theorem d1 : decode yB 1 = .ok (.aload_n 1, 1) := by decide +kernel
theorem d2 : decode yB 2 = .ok (.if_acmp (.ne) 5, 3) := by decide +kernel
theorem d5 : decode yB 5 = .ok (.iconst 1, 1) := by decide +kernel
theorem d6 : decode yB 6 = .ok (.ireturn, 1) := by decide +kernel
theorem d7 : decode yB 7 = .ok (.aload_n 1, 1) := by decide +kernel
theorem d8 : decode yB 8 = .ok (.instanceof 10, 3) := by decide +kernel
theorem d11 : decode yB 11 = .ok (.ifCond (.eq) 43, 3) := by decide +kernel
theorem d14 : decode yB 14 = .ok (.aload_n 1, 1) := by decide +kernel
theorem d15 : decode yB 15 = .ok (.checkcast 10, 3) := by decide +kernel
theorem d18 : decode yB 18 = .ok (.astore_n 2, 1) := by decide +kernel
theorem d19 : decode yB 19 = .ok (.getstatic 38, 3) := by decide +kernel
theorem d22 : decode yB 22 = .ok (.ifCond (.eq) 14, 3) := by decide +kernel
theorem d25 : decode yB 25 = .ok (.aload_n 0, 1) := by decide +kernel
theorem d26 : decode yB 26 = .ok (.getfield 15, 3) := by decide +kernel
theorem d29 : decode yB 29 = .ok (.aload_n 2, 1) := by decide +kernel
theorem d30 : decode yB 30 = .ok (.getfield 15, 3) := by decide +kernel
theorem d33 : decode yB 33 = .ok (.if_icmp (.ne) 21, 3) := by decide +kernel
theorem d36 : decode yB 36 = .ok (.aload_n 0, 1) := by decide +kernel
theorem d37 : decode yB 37 = .ok (.getfield 9, 3) := by decide +kernel
theorem d40 : decode yB 40 = .ok (.aload_n 2, 1) := by decide +kernel
theorem d41 : decode yB 41 = .ok (.getfield 9, 3) := by decide +kernel
theorem d44 : decode yB 44 = .ok (.invokestatic 541, 3) := by decide +kernel
theorem d47 : decode yB 47 = .ok (.ifCond (.eq) 7, 3) := by decide +kernel
theorem d50 : decode yB 50 = .ok (.iconst 1, 1) := by decide +kernel
theorem d51 : decode yB 51 = .ok (.goto 4, 3) := by decide +kernel
theorem d54 : decode yB 54 = .ok (.iconst 0, 1) := by decide +kernel
theorem d55 : decode yB 55 = .ok (.ireturn, 1) := by decide +kernel
def site : List Cond := [.classLink "java/lang/String" 10 "java/lang/String", .fieldLink "java/lang/String" 38 "java/lang/String" "COMPACT_STRINGS" "Z", .fieldLink "java/lang/String" 15 "java/lang/String" "coder" "B", .fieldLink "java/lang/String" 9 "java/lang/String" "value" "[B", LEq.tab] ++ staticW "java/lang/String" 541 LEq.yN
def tab : Cond := tabOf yN yB 3 (some .boolean) site
def P (x t : Addr) (V : Cell) (cd : Int32) (n : Nat) (f : Nat → Int32) (y t' : Addr) (V' : Cell) (cd' : Int32) (k : Nat) (g : Nat → Int32) (z : Int32) (args : Array Value) (s : State) : Prop := args = #[.ref x, .ref y] ∧ Txt x t V cd n f s ∧ Txt y t' V' cd' k g s ∧ StaticIs s "java/lang/String" "COMPACT_STRINGS" "Z" (.int z) ∧ ¬ z = 0
/-- equals(Object) of two Strings: whether the texts are the same -/
theorem law (l : Launch) (x t : Addr) (V : Cell) (cd : Int32) (n : Nat) (f : Nat → Int32) (y t' : Addr) (V' : Cell) (cd' : Int32) (k : Nat) (g : Nat → Int32) (z : Int32) : Law l yN 2 1 1 14 yB 3 (some .boolean) site (P x t V cd n f y t' V' cd' k g z) (Says01 (SameT n f k g)) [] 0 0 := by
  refine Law.of_walk (plainFor_of_name (by decide +kernel)) (by decide +kernel) (by decide +kernel) (by decide) (fun _ _ h => by rw [h.1]; rfl) (fun _ U U' hal hh h => ⟨h.1, h.2.1.mv hal hh, h.2.2.1.mv hal hh, h.2.2.2.1.there hal hh, h.2.2.2.2⟩) (fun r U U' V V' h1 hal h2 h => Says01.mv r U U' V V' h1 hal h2 h) ?_
  intro p e s m args below meth c s₁ X0 hexec hbytes hml hret hlk hnm hown hh0 W hP
  obtain ⟨rfl, hx, hy, s1, hz⟩ := hP
  have c1 : Steps p.tables e below (s₁.setTop (entryFrame m #[.ref x, .ref y] 3)) (s₁.setTop (mkF m 2 #[.val (.ref x), .val (.ref y), .unset] [.ref y, .ref x])) := Steps.trans (entry rfl) (by
    show Steps p.tables e below (s₁.setTop (mkF m 0 #[.val (.ref x), .val (.ref y), .unset] [])) _
    refine XS.aloadN X0.here hexec rfl (hb hbytes d0) rfl rfl ?_
    refine XS.aloadN X0.here hexec rfl (hb hbytes d1) rfl rfl ?_
    exact Steps.refl _)
  by_cases hxy : x = y
  · have c2 : Steps p.tables e below (s₁.setTop (entryFrame m #[.ref x, .ref y] 3)) (s₁.setTop (mkF m 6 #[.val (.ref x), .val (.ref y), .unset] [.int 1])) := c1.trans (by
      refine acmpNo X0.here hexec rfl (hb hbytes d2) rfl rfl rfl (by simp [acmp, hxy]) ?_
      refine iconstV X0.here hexec rfl 1 (hb hbytes d5) (by decide) ?_
      exact Steps.refl _)
    subst hxy
    have ec : cd = cd' := by
      obtain ⟨D, fd, a1, a2, a3⟩ := hx.2.2.1
      obtain ⟨D', fd', b1, b2, b3⟩ := hy.2.2.1
      cases a1.symm.trans b1
      obtain ⟨q1, q2, q3, q4⟩ := a2.1
      obtain ⟨r1, r2, r3, r4⟩ := b2.1
      cases q4.symm.trans r4
      cases a3.symm.trans b3; rfl
    have et : t = t' := by
      obtain ⟨D, fd, a1, a2, a3⟩ := hx.2.1
      obtain ⟨D', fd', b1, b2, b3⟩ := hy.2.1
      cases a1.symm.trans b1
      obtain ⟨q1, q2, q3, q4⟩ := a2.1
      obtain ⟨r1, r2, r3, r4⟩ := b2.1
      cases q4.symm.trans r4
      cases a3.symm.trans b3; rfl
    subst ec et
    have ev : V = V' := by cases hx.2.2.2.1.1.symm.trans hy.2.2.2.1.1; rfl
    subst ev
    have hs : SameT n f k g := (Cod.eqv hx.2.2.2.2.1 hy.2.2.2.2.1 hx.2.2.2.2.2 hy.2.2.2.2.2).mp ⟨rfl, fun _ _ => rfl⟩
    exact ⟨s₁, some (.int 1), _, _, _, X0, rfl, rfl, rfl, (fun h => by cases h), ⟨1, rfl, hh0, Or.inl ⟨rfl, hs⟩⟩, fun fs hl => c2.trans (X0.ireturnOut hexec hret rfl (Or.inr (Or.inl rfl)) (hb hbytes d6) hl)⟩
  · have c2 : Steps p.tables e below (s₁.setTop (entryFrame m #[.ref x, .ref y] 3)) (s₁.setTop (mkF m 8 #[.val (.ref x), .val (.ref y), .unset] [.ref y])) := c1.trans (by
      refine acmpYes X0.here hexec rfl (pc0 := 2) rfl (hb hbytes d2) rfl rfl rfl (by simp [acmp, hxy]) (by decide) rfl ?_
      refine XS.aloadN X0.here hexec rfl (hb hbytes d7) rfl rfl ?_
      exact Steps.refl _)
    obtain ⟨T3, X3, q3, st3⟩ := cinst X0 hexec hown (wk W (.classLink "java/lang/String" 10 "java/lang/String")) (hy.mv X0.warmed.alike hh0).1 (g := (mkF m 8 #[.val (.ref x), .val (.ref y), .unset] [.ref y])) rfl (rest := []) rfl (hb hbytes d8)
    have hh3 := q3.trans hh0
    have c4 : Steps p.tables e below (s₁.setTop (entryFrame m #[.ref x, .ref y] 3)) (T3.setTop (mkF m 15 #[.val (.ref x), .val (.ref y), .unset] [.ref y])) := (c2.trans (st3 _ (Steps.refl _))).trans (by
      refine XS.ifNo X3.here hexec rfl (hb hbytes d11) rfl (i0_eq_f (by decide)) ?_
      refine XS.aloadN X3.here hexec rfl (hb hbytes d14) rfl rfl ?_
      exact Steps.refl _)
    obtain ⟨T5, X5, q5, st5⟩ := cself X3 hexec hown (wk W (.classLink "java/lang/String" 10 "java/lang/String")) (hy.mv X3.warmed.alike hh3).1 (g := (mkF m 15 #[.val (.ref x), .val (.ref y), .unset] [.ref y])) rfl (rest := []) rfl (hb hbytes d15)
    have hh5 := q5.trans hh3
    have c6 : Steps p.tables e below (s₁.setTop (entryFrame m #[.ref x, .ref y] 3)) (T5.setTop (mkF m 19 #[.val (.ref x), .val (.ref y), .val (.ref y)] [])) := (c4.trans (st5 _ (Steps.refl _))).trans (by
      refine XS.astoreN X5.here hexec rfl (hb hbytes d18) rfl rfl rfl ?_
      exact Steps.refl _)
    obtain ⟨T7, X7, q7, st7⟩ := X5.sget hexec hown (wk W (.fieldLink "java/lang/String" 38 "java/lang/String" "COMPACT_STRINGS" "Z")) s1 (fun _ _ h => by rw [hh5]; exact h) (g := (mkF m 19 #[.val (.ref x), .val (.ref y), .val (.ref y)] [])) rfl (hb hbytes d19)
    have hh7 := q7.trans hh5
    have c8 : Steps p.tables e below (s₁.setTop (entryFrame m #[.ref x, .ref y] 3)) (T7.setTop (mkF m 26 #[.val (.ref x), .val (.ref y), .val (.ref y)] [.ref x])) := (c6.trans (st7 _ (Steps.refl _))).trans (by
      refine XS.ifNo X7.here hexec rfl (hb hbytes d22) rfl (i0_eq_f hz) ?_
      refine XS.aloadN X7.here hexec rfl (hb hbytes d25) rfl rfl ?_
      exact Steps.refl _)
    obtain ⟨T9, X9, q9, st9⟩ := X7.hget hexec hown (wk W (.fieldLink "java/lang/String" 15 "java/lang/String" "coder" "B")) (hx.mv X7.warmed.alike hh7).2.2.1 (g := (mkF m 26 #[.val (.ref x), .val (.ref y), .val (.ref y)] [.ref x])) rfl (rest := []) rfl (hb hbytes d26)
    have hh9 := q9.trans hh7
    have c10 : Steps p.tables e below (s₁.setTop (entryFrame m #[.ref x, .ref y] 3)) (T9.setTop (mkF m 30 #[.val (.ref x), .val (.ref y), .val (.ref y)] [.ref y, .int cd])) := (c8.trans (st9 _ (Steps.refl _))).trans (by
      refine XS.aloadN X9.here hexec rfl (hb hbytes d29) rfl rfl ?_
      exact Steps.refl _)
    obtain ⟨T11, X11, q11, st11⟩ := X9.hget hexec hown (wk W (.fieldLink "java/lang/String" 15 "java/lang/String" "coder" "B")) (hy.mv X9.warmed.alike hh9).2.2.1 (g := (mkF m 30 #[.val (.ref x), .val (.ref y), .val (.ref y)] [.ref y, .int cd])) rfl (rest := [.int cd]) rfl (hb hbytes d30)
    have hh11 := q11.trans hh9
    have c12 : Steps p.tables e below (s₁.setTop (entryFrame m #[.ref x, .ref y] 3)) (T11.setTop (mkF m 33 #[.val (.ref x), .val (.ref y), .val (.ref y)] [.int cd', .int cd])) := c10.trans (st11 _ (Steps.refl _))
    by_cases hcd : cd = cd'
    · subst hcd
      have c13 : Steps p.tables e below (s₁.setTop (entryFrame m #[.ref x, .ref y] 3)) (T11.setTop (mkF m 37 #[.val (.ref x), .val (.ref y), .val (.ref y)] [.ref x])) := c12.trans (by
        refine XS.icmpNo X11.here hexec rfl (hb hbytes d33) rfl (ii_ne_f rfl) ?_
        refine XS.aloadN X11.here hexec rfl (hb hbytes d36) rfl rfl ?_
        exact Steps.refl _)
      obtain ⟨T14, X14, q14, st14⟩ := X11.hget hexec hown (wk W (.fieldLink "java/lang/String" 9 "java/lang/String" "value" "[B")) (hx.mv X11.warmed.alike hh11).2.1 (g := (mkF m 37 #[.val (.ref x), .val (.ref y), .val (.ref y)] [.ref x])) rfl (rest := []) rfl (hb hbytes d37)
      have hh14 := q14.trans hh11
      have c15 : Steps p.tables e below (s₁.setTop (entryFrame m #[.ref x, .ref y] 3)) (T14.setTop (mkF m 41 #[.val (.ref x), .val (.ref y), .val (.ref y)] [.ref y, .ref t])) := (c13.trans (st14 _ (Steps.refl _))).trans (by
        refine XS.aloadN X14.here hexec rfl (hb hbytes d40) rfl rfl ?_
        exact Steps.refl _)
      obtain ⟨T16, X16, q16, st16⟩ := X14.hget hexec hown (wk W (.fieldLink "java/lang/String" 9 "java/lang/String" "value" "[B")) (hy.mv X14.warmed.alike hh14).2.1 (g := (mkF m 41 #[.val (.ref x), .val (.ref y), .val (.ref y)] [.ref y, .ref t])) rfl (rest := [.ref t]) rfl (hb hbytes d41)
      have hh16 := q16.trans hh14
      have c17 : Steps p.tables e below (s₁.setTop (entryFrame m #[.ref x, .ref y] 3)) (T16.setTop (mkF m 44 #[.val (.ref x), .val (.ref y), .val (.ref y)] [.ref t', .ref t])) := c15.trans (st16 _ (Steps.refl _))
      obtain ⟨v18, T18, X18, E18, g18⟩ := X16.callS hexec (LEq.law l t V t' V') hown (wks W (staticW "java/lang/String" 541 LEq.yN)) (wk W LEq.tab) (W := 0) (Nat.le_of_ble_eq_true rfl) (Nat.le_of_ble_eq_true rfl) (Nat.le_refl _) (Nat.le_refl _) (g := (mkF m 44 #[.val (.ref x), .val (.ref y), .val (.ref y)] [.ref t', .ref t])) rfl (by rw [hml]; rfl) c17 (argsL := [.ref t, .ref t']) (rest := []) rfl rfl (by show 2 * 0 + 0 ≤ _; decide) (hb hbytes d44) (⟨rfl, hx.2.2.2.1.mv X16.warmed.alike hh16, hx.2.2.2.2.1.ty, hy.2.2.2.1.mv X16.warmed.alike hh16, hy.2.2.2.2.1.ty⟩)
      obtain ⟨v, rfl, q18, hv⟩ := E18
      have iff := Cod.eqv hx.2.2.2.2.1 hy.2.2.2.2.1 hx.2.2.2.2.2 hy.2.2.2.2.2
      rcases hv with ⟨rfl, he⟩ | ⟨rfl, he⟩
      · have c19 : Steps p.tables e below (s₁.setTop (entryFrame m #[.ref x, .ref y] 3)) (T18.setTop (mkF m 55 #[.val (.ref x), .val (.ref y), .val (.ref y)] [.int 1])) := Steps.trans g18 (by
          refine XS.ifNo X18.here hexec rfl (hb hbytes d47) rfl (i0_eq_f (by decide)) ?_
          refine iconstV X18.here hexec rfl 1 (hb hbytes d50) (by decide) ?_
          refine XS.goto X18.here hexec rfl (pc0 := 51) rfl (hb hbytes d51) (by decide) rfl ?_
          exact Steps.refl _)
        exact ⟨T18, some (.int 1), _, _, _, X18, rfl, rfl, rfl, (fun h => by cases h), ⟨1, rfl, q18.trans hh16, Or.inl ⟨rfl, iff.mp he⟩⟩, fun fs hl => c19.trans (X18.ireturnOut hexec hret rfl (Or.inr (Or.inl rfl)) (hb hbytes d55) hl)⟩
      · have c19 : Steps p.tables e below (s₁.setTop (entryFrame m #[.ref x, .ref y] 3)) (T18.setTop (mkF m 55 #[.val (.ref x), .val (.ref y), .val (.ref y)] [.int 0])) := Steps.trans g18 (by
          refine XS.ifYes X18.here hexec rfl (pc0 := 47) rfl (hb hbytes d47) rfl (i0_eq_t rfl) (by decide) rfl ?_
          refine iconstV X18.here hexec rfl 0 (hb hbytes d54) (by decide) ?_
          exact Steps.refl _)
        exact ⟨T18, some (.int 0), _, _, _, X18, rfl, rfl, rfl, (fun h => by cases h), ⟨0, rfl, q18.trans hh16, Or.inr ⟨rfl, fun q => he (iff.mpr q)⟩⟩, fun fs hl => c19.trans (X18.ireturnOut hexec hret rfl (Or.inr (Or.inl rfl)) (hb hbytes d55) hl)⟩
    · have c13 : Steps p.tables e below (s₁.setTop (entryFrame m #[.ref x, .ref y] 3)) (T11.setTop (mkF m 55 #[.val (.ref x), .val (.ref y), .val (.ref y)] [.int 0])) := c12.trans (by
        refine XS.icmpYes X11.here hexec rfl (pc0 := 33) rfl (hb hbytes d33) rfl (ii_ne_t hcd) (by decide) rfl ?_
        refine iconstV X11.here hexec rfl 0 (hb hbytes d54) (by decide) ?_
        exact Steps.refl _)
      exact ⟨T11, some (.int 0), _, _, _, X11, rfl, rfl, rfl, (fun h => by cases h), ⟨0, rfl, hh11, Or.inr ⟨rfl, Cod.dif hx.2.2.2.2.1 hy.2.2.2.2.1 hcd⟩⟩, fun fs hl => c13.trans (X11.ireturnOut hexec hret rfl (Or.inr (Or.inl rfl)) (hb hbytes d55) hl)⟩
theorem pays {l : Launch} {R : Room} {p : Program} {e : Env} {below : List Frame} {s : State} {sargs : Array Value} {len W : Nat} (x t : Addr) (V : Cell) (cd : Int32) (n : Nat) (f : Nat → Int32) (y t' : Addr) (V' : Cell) (cd' : Int32) (k : Nat) (g : Nat → Int32) (z : Int32) (htab : tab.before sargs s = true) (hfr : 2 ≤ R.frames) (hlo : W + 28 ≤ R.locals) :
    Back l R p e below s sargs yN len W (fun A₁ a₁ => A₁.cells + 0 ≤ R.cells ∧ A₁.slots + 0 ≤ R.slots ∧ P x t V cd n f y t' V' cd' k g z a₁ A₁.U) (fun A₁ _ v₁ B₁ => Says01 (SameT n f k g) v₁ A₁.U B₁.U ∧ B₁.locs = A₁.locs ++ [] ∧ B₁.cells = A₁.cells + 0 ∧ B₁.slots = A₁.slots + 0) :=
  (law l x t V cd n f y t' V' cd' k g z).pays htab hfr (by omega)
end SEq
end StrChars
namespace StrChars.Road
open Jvm Sem ClassFile Op Lib Jvm.Stand Jvm.Free Jvm.Free.XT
open Jvm.Lib.Cold (StaticIs)
/-- the words of String.equals(Object) -/
abbrev wordsEq : List Jvm.Cond := [.code SEq.yN SEq.yB 3 (some .boolean), .initialized ST, .classLink ST 10 ST, .fieldLink ST 38 ST "COMPACT_STRINGS" "Z", .fieldLink ST 15 ST "coder" "B", .fieldLink ST 9 ST "value" "[B", .methodLink ST 541 LEq.yN, .static LEq.yN, .code LEq.yN LEq.yB 3 (some .boolean), .initialized "java/lang/StringLatin1"]
theorem tabEq_of {a : Array Value} {s : State} (h : ∀ w ∈ wordsEq, w.before a s = true) : SEq.tab.before a s = true := by
  have hl : LEq.tab.before a s = true := unparts (wk h (.code LEq.yN LEq.yB 3 (some .boolean))) (wks h (.initialized LEq.yN.cls :: LEq.site))
  have q := consq hl h
  exact unparts (wk q (.code SEq.yN SEq.yB 3 (some .boolean))) (wks q (.initialized SEq.yN.cls :: SEq.site))
theorem movedEq {Z s : State} {a0 args : Array Value} (hZ : Z.Warmed39 s.vm) (hw : ∀ d ∈ wordsEq, d.before a0 Z = true) : ∀ d ∈ wordsEq, d.before args s = true := fun d hd => by
  have t : ∀ d ∈ wordsEq, (d.onTables && d.keepsFace) = true := by decide +kernel
  exact RoadKit.mv hZ (hw d hd) (t d hd)
/-- the road's facts of a String, as the laws ask it -/
theorem txt_of {Z U : State} {a0 : Array Value} {kI : Nat} (wi : (Jvm.Cond.instantiable ST kI).before a0 Z = true) (al : Z.vm.Alike U.vm) {x t : Addr} {kb : ClassId} {cs : List Int32} {cd N2 : Int32} {vs : List Value} (E : RoadKit.Exa Z U.heap x ST) (V : RoadKit.Fld Z U.heap x ST "value" "[B" (.ref t)) (C : RoadKit.Fld Z U.heap x ST "coder" "B" (.int cd)) (K : RoadKit.Arv Z U.heap t kb .byte N2 vs (.int 0)) (hc : CodA cs cd N2 vs) (hb : ∀ c ∈ cs, ¬ c < 0 ∧ ¬ (65535 : Int32) < c) (l2 : cs.length ≤ 4000) :
    ∃ A, Txt x t A cd cs.length (fun j => cs.getD j 0) U := by
  obtain ⟨A, K1, K2, K3, K4, K5, K6⟩ := K
  have hcod := hc.cod (by omega) K3 K5
  obtain ⟨D, fV, fC, hB, F1, F2, g1, g2, -, -⟩ := strObj wi al E V C
  exact ⟨A, ⟨_, hB.2.2.1, D, hB.1, rfl, by cases q : D.vm <;> first | rfl | exact absurd q (hB.2.1.2 _)⟩, Has.of hB F1 g1, Has.of hB F2 g2, ⟨K1.1, State.isArrayOf_alike al K1.2.1, K1.2.2, by rcases hcod with ⟨-, q, -⟩ | ⟨-, q, -⟩ <;> omega⟩, hcod, fun j hj => by
    have e : cs.getD j 0 = cs[j] := by simp [List.getD_eq_getElem?_getD, hj]
    show ¬ cs.getD j 0 < 0 ∧ ¬ 65535 < cs.getD j 0
    rw [e]; exact hb _ (List.getElem_mem _)⟩
theorem same_list (cs ds : List Int32) : SameT cs.length (fun j => cs.getD j 0) ds.length (fun j => ds.getD j 0) ↔ cs = ds := by
  constructor
  · rintro ⟨e, q⟩
    refine List.ext_getElem e fun j h1 h2 => ?_
    have := q j h1
    simpa [List.getD_eq_getElem?_getD, h1, h2] using this
  · rintro rfl
    exact ⟨rfl, fun _ _ => rfl⟩
/-- **equals(Object) OF TWO SUCH STRINGS**: 1 just where the chars are the same -/
theorem eqW {p : Program} {l : Launch} {e : Env} {R : Room} {s : State} {args : Array Value} {below : List Frame} {len W : Nat} {Z : State} {a0 : Array Value} {h : Heap} (hZ : Z.Warmed39 s.vm) (hw : ∀ d ∈ wordsEq, d.before a0 Z = true) {kI : Nat} (wi : (Jvm.Cond.instantiable ST kI).before a0 Z = true)
    {x t : Addr} {kb : ClassId} {cs : List Int32} {cd N2 : Int32} {vs : List Value} (E : RoadKit.Exa Z h x ST) (V : RoadKit.Fld Z h x ST "value" "[B" (.ref t)) (C : RoadKit.Fld Z h x ST "coder" "B" (.int cd)) (K : RoadKit.Arv Z h t kb .byte N2 vs (.int 0)) (hc : CodA cs cd N2 vs) (hb : ∀ c ∈ cs, ¬ c < 0 ∧ ¬ (65535 : Int32) < c) (l2 : cs.length ≤ 4000)
    {y t' : Addr} {kb' : ClassId} {ds : List Int32} {cd' N2' : Int32} {vs' : List Value} (E' : RoadKit.Exa Z h y ST) (V' : RoadKit.Fld Z h y ST "value" "[B" (.ref t')) (C' : RoadKit.Fld Z h y ST "coder" "B" (.int cd')) (K' : RoadKit.Arv Z h t' kb' .byte N2' vs' (.int 0)) (hc' : CodA ds cd' N2' vs') (hb' : ∀ c ∈ ds, ¬ c < 0 ∧ ¬ (65535 : Int32) < c) (l2' : ds.length ≤ 4000)
    {z : Int32} (S : RoadKit.Sta Z h ST "COMPACT_STRINGS" "Z" (.int z)) (hz : ¬ z = 0) (hfr : 2 ≤ R.frames) (hlo : W + 28 ≤ R.locals) :
    Back l R p e below s args (⟨"java/lang/String", "equals", "(Ljava/lang/Object;)Z"⟩ : MethodName) len W (fun P a => a = #[.ref x, .ref y] ∧ P.U.heap = h ∧ P.cells + 0 ≤ R.cells ∧ P.slots + 0 ≤ R.slots)
      (fun P _ v B => ∃ L, (((v = some (.int 1) ∧ cs = ds) ∨ (v = some (.int 0) ∧ ¬ cs = ds)) ∧ L = [] ∧ B.U.heap = h) ∧ B.locs = P.locs ++ L ∧ B.cells = P.cells + 0 ∧ B.slots = P.slots + 0) := by
  intro m meth c P g ig mk a X hg hsize hdg hW hn hp'
  obtain ⟨rfl, rfl, r1, r2⟩ := hp'
  have al : Z.vm.Alike P.U.vm := hZ.alike.trans X.warmed.alike
  obtain ⟨A, hx⟩ := txt_of wi al E V C K hc hb l2
  obtain ⟨A', hy⟩ := txt_of wi al E' V' C' K' hc' hb' l2'
  obtain ⟨v, B, X', ⟨⟨w, hv, hh, hq⟩, hl, hk, hs⟩, st⟩ := SEq.pays x t A cd cs.length (fun j => cs.getD j 0) y t' A' cd' ds.length (fun j => ds.getD j 0) z (tabEq_of (movedEq hZ hw)) hfr hlo m meth c P g ig mk _ X hg hsize hdg hW hn ⟨r1, r2, rfl, hx, hy, sta_is al S, hz⟩
  refine ⟨v, B, X', ⟨[], ⟨?_, rfl, hh⟩, hl, hk, hs⟩, st⟩
  rcases hq with ⟨rfl, q⟩ | ⟨rfl, q⟩
  · exact Or.inl ⟨hv, (same_list cs ds).mp q⟩
  · exact Or.inr ⟨hv, fun e => q ((same_list cs ds).mpr e)⟩
end StrChars.Road
end Jvm.Pilot.@@N@@
namespace Jvm.Pilot.@@N@@
open Jvm Jvm.ClassFile Sem Op Lib Jvm.Free Jvm.Stand Jvm.LawKit Jvm.RoadKit Bundle Jvm.Pilot.@@N@@.Jvm.D
abbrev si (x : Int32) : Slot := .val (.int x)
abbrev sr (x : Addr) : Slot := .val (.ref x)
theorem ww {a0 : Array Value} {Z : State} {d : Jvm.Cond} (hw : ∀ d ∈ tables_1, d.before a0 Z = true) (i : Nat) (h : tables_1[i]? = some d) : d.before a0 Z = true := hw _ (List.mem_of_getElem? h)
theorem mr0 {a b : Nat} (h : a = b) : a ≤ b := Nat.le_of_eq h
section Own
variable {p : Program} {l : Launch} {e : Env} {R : Room} {s : State} {m : MethodId} {args : Array Value} {below : List Frame} {meth : Method} {c : Code} {T : State} {locs : List Loc} {cells slots : Nat} {Z : State} {a0 : Array Value} {h : Heap}
/-- from S the run comes to an end that P speaks of -/
def Goes (tb : Tables) (e : Env) (below : List Frame) (P : State → Outcome → Prop) (S : State) : Prop := ∃ s₂ o, Steps tb e below S s₂ ∧ P s₂ o
theorem go {tb : Tables} {P : State → Outcome → Prop} {S S' : State} (st : ∀ t, Steps tb e below S' t → Steps tb e below S t) (h : Goes tb e below P S') : Goes tb e below P S := by
  obtain ⟨s₂, o, h1, h2⟩ := h
  exact ⟨s₂, o, st _ h1, h2⟩
/-- from S the run comes to the frame F, in a state that P speaks of -/
def Reach (tb : Tables) (e : Env) (below : List Frame) (F : JFrame) (P : State → Prop) (S : State) : Prop := ∃ T', P T' ∧ ∀ t, Steps tb e below (T'.setTop F) t → Steps tb e below S t
theorem goR {tb : Tables} {F : JFrame} {P : State → Prop} {S S' : State} (st : ∀ t, Steps tb e below S' t → Steps tb e below S t) (h : Reach tb e below F P S') : Reach tb e below F P S := by
  obtain ⟨T', h1, h2⟩ := h
  exact ⟨T', h1, fun t k => st t (h2 t k)⟩
def Same (X : Stand p l e R s m args below meth c T locs cells slots) (n0 : Nat) (h : Heap) : State → Prop := fun T' => ∃ locs', Stand p l e R s m args below meth c T' locs' cells slots ∧ Fr n0 locs' ∧ T'.heap = h
/-- the end of a body: it returned, and Q holds of the value, the heap, the written places -/
def EndP (s : State) (below : List Frame) (Q : Option Value → Heap → List Loc → Prop) (kc ks : Nat) (s₂ : State) (o : Outcome) : Prop :=
  s₂.status = .running ∧ Ended s₂ below o ∧ ∃ v L, o = .returned v ∧ Q v s₂.heap L ∧ FrameEnd s o s₂ L kc ks
variable {Q : Option Value → Heap → List Loc → Prop} {kc ks : Nat}
theorem finG {g : JFrame} (X : Stand p l e R s m args below meth c T locs cells slots) (hk : meth.locks = false) (v : Option Value) (hv : meth.sig.returnType = none → v = none)
    (st : ∀ fs, (∀ (f : JFrame) (acts : List Action), f.method = m → f.locked = none → f.entered = [] → (doReturn e (T.setTop f) acts v).1 = T.setFrames fs) → Steps p.tables e below (T.setTop g) (T.setFrames fs))
    (hc : cells ≤ kc) (hs : slots ≤ ks) (hQ : Q v T.heap locs) : Goes p.tables e below (EndP s below Q kc ks) (T.setTop g) := by
  obtain ⟨fs, hr, hrun, hended, hW, hsame⟩ := X.leave (v := v) hv hk
  exact ⟨_, _, st fs hr, hrun, hended, v, locs, rfl, hQ, ⟨_, rfl⟩, hW, hsame.mono hc hs⟩
theorem finV (X : Stand p l e R s m args below meth c T locs cells slots) (hx : p.tables.exec = Jvm.exec) (hk : meth.locks = false) (hret : meth.sig.returnType = none) {pc : Nat} {Ls : Array Slot} (hd : decode c.code pc = .ok (.return_, 1)) (hc : cells ≤ kc) (hs : slots ≤ ks) (hQ : Q none T.heap locs) :
    Goes p.tables e below (EndP s below Q kc ks) (T.setTop (mkF m pc Ls [])) := finG X hk none (fun _ => rfl) (fun _ hr => X.returnOut hx hret hd hr) hc hs hQ
theorem finI (X : Stand p l e R s m args below meth c T locs cells slots) (hx : p.tables.exec = Jvm.exec) (hk : meth.locks = false) (hret : meth.sig.returnType = some .int) {pc : Nat} {Ls : Array Slot} {z : Int32} {rest : List Value} (hd : decode c.code pc = .ok (.ireturn, 1)) (hc : cells ≤ kc) (hs : slots ≤ ks) (hQ : Q (some (.int z)) T.heap locs) :
    Goes p.tables e below (EndP s below Q kc ks) (T.setTop (mkF m pc Ls (.int z :: rest))) := finG X hk _ (fun q => by rw [hret] at q; cases q) (fun _ hr => retI X hx hret hd hr) hc hs hQ
theorem finN (X : Stand p l e R s m args below meth c T locs cells slots) (hx : p.tables.exec = Jvm.exec) (hk : meth.locks = false) {t : FieldType} (hret : meth.sig.returnType = some t) (ht : t = .boolean ∨ t = .byte ∨ t = .char ∨ t = .short) {pc : Nat} {Ls : Array Slot} {z : Int32} {rest : List Value} (hd : decode c.code pc = .ok (.ireturn, 1)) (hc : cells ≤ kc) (hs : slots ≤ ks) (hQ : Q (some (.int (nar t z))) T.heap locs) :
    Goes p.tables e below (EndP s below Q kc ks) (T.setTop (mkF m pc Ls (.int z :: rest))) := finG X hk _ (fun q => by rw [hret] at q; cases q) (fun _ hr => retN X hx hret ht hd hr) hc hs hQ
theorem finR (X : Stand p l e R s m args below meth c T locs cells slots) (hx : p.tables.exec = Jvm.exec) (hk : meth.locks = false) {t : FieldType} (hret : meth.sig.returnType = some t) (ht : t.isReference = true) {w : Value} (hw : w.isRef = true) {pc : Nat} {Ls : Array Slot} (hd : decode c.code pc = .ok (.areturn, 1)) (hc : cells ≤ kc) (hs : slots ≤ ks) (hQ : Q (some w) T.heap locs) :
    Goes p.tables e below (EndP s below Q kc ks) (T.setTop (mkF m pc Ls [w])) := finG X hk _ (fun q => by rw [hret] at q; cases q) (fun _ hr => X.areturnOut hx hw hret ht hd hr) hc hs hQ
theorem finJ (X : Stand p l e R s m args below meth c T locs cells slots) (hx : p.tables.exec = Jvm.exec) (hk : meth.locks = false) (hret : meth.sig.returnType = some .long) {pc : Nat} {Ls : Array Slot} {z : Int64} (hd : decode c.code pc = .ok (.lreturn, 1)) (hc : cells ≤ kc) (hs : slots ≤ ks) (hQ : Q (some (.long z)) T.heap locs) :
    Goes p.tables e below (EndP s below Q kc ks) (T.setTop (mkF m pc Ls [.long z])) := finG X hk _ (fun q => by rw [hret] at q; cases q) (fun _ hr => X.lreturnOut hx hret hd hr) hc hs hQ
theorem bodyOf {y : MethodName} {bytes : ByteArray} {maxL : Nat} {ret : Option FieldType} {ws : List Jvm.Cond} {rm : Room} {as' : Array Value} {Ls : Array Slot} {h0 : Heap}
    (pn : plainFor y = true) (ef : ∀ m, entryFrame m as' maxL = mkF m 0 Ls [])
    (body : ∀ (p : Program) (e : Env) (s : State) (m : MethodId) (below : List Frame) (meth : Method) (c : Code) (T : State), Stand p l e rm s m as' below meth c T [] 0 0 → p.tables.exec = Jvm.exec → c.code = bytes → c.maxLocals = maxL →
      s.vm.findClass y.cls = some m.cls → meth.name = y.name → meth.sig.returnType = ret → meth.locks = false → Z.Warmed39 s.vm → T.heap = h0 → Goes p.tables e below (EndP s below Q rm.cells rm.slots) (T.setTop (mkF m 0 Ls []))) :
    MetFree l y (head1 (Jvm.Cond.code y bytes maxL ret :: ws) rm) (fun a U => a = as' ∧ Z.Warmed39 U.vm ∧ U.heap = h0) (fun _ _ _ _ _ => True) (fun _ U o U' => ∃ v L, o = .returned v ∧ Q v U'.heap L ∧ FrameEnd U o U' L rm.cells rm.slots) := by
  refine MetFree.of_bodySF pn hisR ?_
  intro p e s m args below meth c s₁ Bd hml0 hP hK
  obtain ⟨rfl, hZ, hh⟩ := hP
  have e0 : s₁.heap = h0 := by rw [← hh, Bd.state]; rfl
  obtain ⟨s₂, o, st, hrun, hend, hq⟩ := body p e s m below meth c s₁ (Stand.of_body Bd) Bd.exec Bd.bytes hml0 (findClass_of_methodNamed Bd.named) (name_of_methodNamed Bd.named Bd.method).1 Bd.returns Bd.notSynchronized hZ e0
  exact ⟨s₂, o, castTop (ef m) st, hrun, hend, hq⟩
variable {y z : MethodName} {own C : String} {index W len : Nat} {bytes : ByteArray} {maxL : Nat} {ret : Option FieldType} {as' : Array Value} {argsL rest : List Value} {g : JFrame}
theorem callSt (X : Stand p l e R s m args below meth c T locs cells slots) (hx : p.tables.exec = Jvm.exec) (hZ : Z.Warmed39 s.vm) (hown : s.vm.findClass own = some m.cls)
    (w1 : (Jvm.Cond.methodLink own index y).before a0 Z = true) (w2 : (Jvm.Cond.static y).before a0 Z = true) (w3 : (Jvm.Cond.initialized y.cls).before a0 Z = true) (w4 : (Jvm.Cond.code y bytes maxL ret).before a0 Z = true)
    (hy : y.cls ≠ "java/lang/invoke/MethodHandle" ∧ y.cls ≠ "java/lang/invoke/VarHandle")
    (hB : Back l R p e below s args y 3 W (fun A a => a = argsL.toArray ∧ A.U.heap = h ∧ A.cells + kc ≤ R.cells ∧ A.slots + ks ≤ R.slots) (fun A _ v B => ∃ L, Q v B.U.heap L ∧ B.locs = A.locs ++ L ∧ B.cells = A.cells + kc ∧ B.slots = A.slots + ks))
    (hg : g.method = m) (hsize : g.locals.size = c.maxLocals) (hlen : ∀ sig, parseMethodDescriptor y.desc = some sig → argsL.length = sig.parameters.length) (hstack : g.stack = argsL.reverse ++ rest) (hW : 2 * g.monitorRoom + (rest.map fun v => v.category).sum ≤ W)
    (hd : decode c.code g.pc = .ok (.invokestatic index, 3)) (eT : T.heap = h) (hc : cells + kc ≤ R.cells) (hs : slots + ks ≤ R.slots) :
    ∃ v T' L, Stand p l e R s m args below meth c T' (locs ++ L) (cells + kc) (slots + ks) ∧ Q v T'.heap L ∧ ∀ t, Steps p.tables e below (T'.setTop { g with pc := g.pc + 3, stack := v.toList ++ rest }) t → Steps p.tables e below (T.setTop g) t := by
  obtain ⟨v, _, ⟨T1, L1, k1, n1⟩, -, X1, ⟨L, hQ, hl, hk, hn⟩, st⟩ := Jvm.LawKit.callS X hx hown (mvT hZ w1) (mvT hZ w2) (mvT hZ w3) (mvT hZ w4) hy hB hg hsize hlen hstack hW hd (fun _ _ => ⟨rfl, eT, hc, hs⟩)
  dsimp only [Pt.U, Pt.locs, Pt.cells, Pt.slots] at X1 hl hk hn st hQ
  subst hl hk hn
  exact ⟨v, T1, L, X1, hQ, st⟩
theorem callSp {a : Addr} (X : Stand p l e R s m args below meth c T locs cells slots) (hx : p.tables.exec = Jvm.exec) (hZ : Z.Warmed39 s.vm) (hy1 : y.name = "<init>") (hown : s.vm.findClass own = some m.cls)
    (w1 : (Jvm.Cond.methodLink own index y).before a0 Z = true) (w2 : (Jvm.Cond.instanceMethod y).before a0 Z = true) (w4 : (Jvm.Cond.code y bytes maxL none).before a0 Z = true)
    (hy : y.cls ≠ "java/lang/invoke/MethodHandle" ∧ y.cls ≠ "java/lang/invoke/VarHandle")
    (hB : Back l R p e below s args y 3 W (fun A b => b = (Value.ref a :: argsL).toArray ∧ A.U.heap = h ∧ A.cells + kc ≤ R.cells ∧ A.slots + ks ≤ R.slots) (fun A _ v B => ∃ L, Q v B.U.heap L ∧ B.locs = A.locs ++ L ∧ B.cells = A.cells + kc ∧ B.slots = A.slots + ks))
    (hg : g.method = m) (hsize : g.locals.size = c.maxLocals) (hlen : ∀ sig, parseMethodDescriptor y.desc = some sig → argsL.length = sig.parameters.length) (hstack : g.stack = argsL.reverse ++ .ref a :: rest) (hW : 2 * g.monitorRoom + (rest.map fun v => v.category).sum ≤ W)
    (hd : decode c.code g.pc = .ok (.invokespecial index, 3)) (eT : T.heap = h) (hc : cells + kc ≤ R.cells) (hs : slots + ks ≤ R.slots) :
    ∃ v T' L, Stand p l e R s m args below meth c T' (locs ++ L) (cells + kc) (slots + ks) ∧ Q v T'.heap L ∧ ∀ t, Steps p.tables e below (T'.setTop { g with pc := g.pc + 3, stack := v.toList ++ rest }) t → Steps p.tables e below (T.setTop g) t := by
  obtain ⟨v, _, ⟨T1, L1, k1, n1⟩, -, X1, ⟨L, hQ, hl, hk, hn⟩, st⟩ := X.specialBack hx hy1 hown (mvT hZ w1) (mvT hZ w2) (mvT hZ w4) hy hB hg hsize (Steps.refl _) hlen hstack hW hd (fun _ _ => ⟨rfl, eT, hc, hs⟩)
  dsimp only [Pt.U, Pt.locs, Pt.cells, Pt.slots] at X1 hl hk hn st hQ
  subst hl hk hn
  exact ⟨v, T1, L, X1, hQ, fun t k => st.trans k⟩
theorem callV {a : Addr} (X : Stand p l e R s m args below meth c T locs cells slots) (hx : p.tables.exec = Jvm.exec) (hZ : Z.Warmed39 s.vm) (hown : s.vm.findClass own = some m.cls)
    (w1 : (Jvm.Cond.methodLink own index y).before a0 Z = true) (w2 : (Jvm.Cond.declares y).before a0 Z = true) (nf : NotFace s y) (w3 : (Jvm.Cond.selects C y z).before a0 Z = true) (w4 : (Jvm.Cond.instanceMethod z).before a0 Z = true)
    (hy : y.cls ≠ "java/lang/invoke/MethodHandle" ∧ y.cls ≠ "java/lang/invoke/VarHandle")
    (hB : Back l R p e below s args z 3 W (fun A b => b = (Value.ref a :: argsL).toArray ∧ A.U.heap = h ∧ A.cells + kc ≤ R.cells ∧ A.slots + ks ≤ R.slots) (fun A _ v B => ∃ L, Q v B.U.heap L ∧ B.locs = A.locs ++ L ∧ B.cells = A.cells + kc ∧ B.slots = A.slots + ks))
    (E : Exa Z h a C) (hg : g.method = m) (hsize : g.locals.size = c.maxLocals) (hlen : ∀ sig, parseMethodDescriptor y.desc = some sig → argsL.length = sig.parameters.length) (hstack : g.stack = argsL.reverse ++ .ref a :: rest) (hW : 2 * g.monitorRoom + (rest.map fun v => v.category).sum ≤ W)
    (hd : decode c.code g.pc = .ok (.invokevirtual index, 3)) (eT : T.heap = h) (hc : cells + kc ≤ R.cells) (hs : slots + ks ≤ R.slots) :
    ∃ v T' L, Stand p l e R s m args below meth c T' (locs ++ L) (cells + kc) (slots + ks) ∧ Q v T'.heap L ∧ ∀ t, Steps p.tables e below (T'.setTop { g with pc := g.pc + 3, stack := v.toList ++ rest }) t → Steps p.tables e below (T.setTop g) t := by
  obtain ⟨cq, kq, qa, qb, qc⟩ := isOf hZ eT E
  obtain ⟨v, _, ⟨T1, L1, k1, n1⟩, -, X1, ⟨L, hQ, hl, hk, hn⟩, st⟩ := X.virtualBack hx hown (mvT hZ w1) (mvT hZ w2) nf (mvT hZ w3) (mvT hZ w4) hy hB qa qc hg hsize (Steps.refl _) hlen hstack hW hd (fun _ _ => ⟨rfl, eT, hc, hs⟩)
  dsimp only [Pt.U, Pt.locs, Pt.cells, Pt.slots] at X1 hl hk hn st hQ
  subst hl hk hn
  exact ⟨v, T1, L, X1, hQ, fun t k => st.trans k⟩
theorem nsRoot {O K : String} {n : Nat} (w : (Jvm.Cond.noSuperclass O).before a0 Z = true) (wk : (Jvm.Cond.instantiable K n).before a0 Z = true) (hn : O ≠ K) : NS Z O K := by
  obtain ⟨c, k, h1, h2, h3, -, -⟩ := Cond.noSuperclass_spec w
  obtain ⟨t, kt, g1, -⟩ := Cond.instantiable_spec wk
  have ne := ids_ne h1 g1 hn
  refine ⟨c, t, h1, g1, fun fuel => ?_⟩
  cases fuel with
  | zero => rfl
  | succ f => simp [Vm.isSubclassAux, ne, h2, h3]
theorem nsNo {C S K : String} {n : Nat} (w : (Jvm.Cond.superclass C S).before a0 Z = true) (wk : (Jvm.Cond.instantiable K n).before a0 Z = true) (n : NS Z C K) (hn : C ≠ K) : ∃ c t, Z.vm.findClass C = some c ∧ Z.vm.findClass K = some t ∧ Z.vm.assignable c t = false := by
  obtain ⟨c, t, h0, g0, n3⟩ := n
  obtain ⟨p, k, kp, h1, h2, h3, h4, h5, -, h7⟩ := Cond.superclass_spec h0 w
  obtain ⟨t', kt, g1, g2, g3, g4, -⟩ := Cond.instantiable_spec wk
  cases g0.symm.trans g1
  have g7 : kt.isInterface = false := (Bool.or_eq_false_iff.mp g4).1
  have ne := ids_ne h0 g0 hn
  refine ⟨c, t, h0, g0, ?_⟩
  show Z.vm.assignableAux (255 + 1) c t = false
  simp [Vm.assignableAux, ne, h2, g2, h5, g3, g7, Vm.isSubclass, n3]
theorem lsw {tb : Tables} [Ours tb] {target : State} {g : JFrame} (h : At T m c below) (hx : tb.exec = Jvm.exec) (hg : g.method = m) {dflt : Int} {pairs : Array (Int × Int)} {len : Nat} {pc0 pc' : Nat} (hpc : g.pc = pc0) (hd : decode c.code g.pc = .ok (.lookupswitch dflt pairs, len)) {i : Int32} {rest : List Value} (hs : g.stack = .int i :: rest)
    (hsrt : (pairs.toList.zip pairs.toList.tail).all (fun z => decide (z.1.1 < z.2.1)) = true) (ho : 0 ≤ (pc0 : Int) + lookupswitch.offset pairs.toList dflt i.toInt) (hp : ((pc0 : Int) + lookupswitch.offset pairs.toList dflt i.toInt).toNat = pc') (hr : Steps tb e below (T.setTop { g with pc := pc', stack := rest }) target) : Steps tb e below (T.setTop g) target := by
  subst hg hpc hp
  jvm_step h [h.top, hx, hd, hs, ho, lookupswitch.wp_chain]
  exact ⟨fun a b a1 b1 q => of_decide_eq_true (List.all_eq_true.mp hsrt _ q), hr⟩
theorem eqInt_v {t : Term} {n : Int32} (h : (Jvm.Cond.eq t (.int n)).value args s none s [] = some true) : t.eval args s none [] s = some (.int n) := by
  obtain ⟨x, y, hx, hy, k1, -⟩ := cmp_v (Or.inl h)
  have hy' : (Term.int n).eval args s none [] s = some (.int n) := Term.int_eval n
  have e : y = .int n := Option.some.inj (hy.symm.trans hy')
  subst e
  cases x <;> simp [Kin, Value.isRef] at k1
  rw [gotT (Cond.eq_ints hx hy') h] at hx
  exact hx
theorem putC (X : Stand p l e R s m args below meth c T locs cells slots) (hx : p.tables.exec = Jvm.exec) (hZ : Z.Warmed39 s.vm) (eT : T.heap = h) {b : Addr} {kB : ClassId} {nB : Int32} {vB : List Value} {dB : Value} (B : Arv Z h b kB .char nB vB dB) {j x : Int32} {i : Nat} (hn : nar .char x = x) (hj : ¬ j < 0 ∧ j < nB) (hi : j.toNatClampNeg = i) (hl : i < vB.length) (hg : g.method = m) (hs : g.stack = .int x :: .int j :: .ref b :: rest) (hd : decode c.code g.pc = .ok (.castore, 1)) :
    ∃ T' h', Stand p l e R s m args below meth c T' (locs ++ [⟨b, j.toNatClampNeg⟩]) cells slots ∧ T'.heap = h' ∧ Wr h h' b j.toNatClampNeg (.int x) ∧ Arv Z h' b kB .char nB (vB.set i (.int x)) dB ∧ ∀ t, Steps p.tables e below (T'.setTop { g with pc := g.pc + 1, stack := rest }) t → Steps p.tables e below (T.setTop g) t := by
  obtain ⟨cl, A, q1, S1, M1, H1, G1⟩ := B
  obtain ⟨T', h', X', e', W, st⟩ := stC X hx hZ eT A (inb_of S1 hj) hg hs hd
  rw [hn] at W
  exact ⟨T', h', X', e', W, Arv.set A q1 S1 M1 H1 G1 (by rw [← hn]; exact fits_nar_char _) W i hi hl, st⟩
theorem getC (X : Stand p l e R s m args below meth c T locs cells slots) (hx : p.tables.exec = Jvm.exec) (hZ : Z.Warmed39 s.vm) (eT : T.heap = h) {b : Addr} {kB : ClassId} {nB : Int32} {vB : List Value} {dB v : Value} (B : Arv Z h b kB .char nB vB dB) {j : Int32} (hj : ¬ j < 0 ∧ j < nB) (hv : vB.getD j.toNatClampNeg dB = v) (hg : g.method = m) (hs : g.stack = .int j :: .ref b :: rest) (hd : decode c.code g.pc = .ok (.caload, 1)) {t : State} (hr : Steps p.tables e below (T.setTop { g with pc := g.pc + 1, stack := v :: rest }) t) : Steps p.tables e below (T.setTop g) t := by
  obtain ⟨cl, A, q1, S1, M1, H1, G1⟩ := B
  have hin := inb_of S1 hj
  exact X.caload hx (j := j) (v := v) (by rw [eT]; exact A.1) (State.isArrayOf_alike hZ.alike A.2.1) A.2.2 hin (Has.at H1 hin hv) hg hs hd _ hr
theorem narc (x : Int32) : nar .char x.toUInt32.toUInt16.toUInt32.toInt32 = x.toUInt32.toUInt16.toUInt32.toInt32 := by
  have h1 := c_i2c x
  have h2 := c_i2c x.toUInt32.toUInt16.toUInt32.toInt32
  apply Int32.toInt_inj.mp
  show (x.toUInt32.toUInt16.toUInt32.toInt32).toUInt32.toUInt16.toUInt32.toInt32.toInt = _
  omega
end Own
end Jvm.Pilot.@@N@@
namespace Jvm.Pilot.@@N@@
open Jvm Jvm.ClassFile Sem Op Lib Jvm.Free Jvm.Stand Jvm.LawKit Jvm.RoadKit Bundle Jvm.Pilot.@@N@@.Jvm.D
theorem allI {P : Int32 → Prop} {y : Int32} {L : List Int32} (q : P y) (r : ∀ x ∈ L, P x) : ∀ x ∈ y :: L, P x := fun x z => (List.mem_cons.mp z).elim (fun u => u ▸ q) (r x)
theorem own_sub {L : List Jvm.Cond} {a0 : Array Value} {Z : State} (hs : ∀ d ∈ L, d ∈ tables_1) (hw : ∀ d ∈ tables_1, d.before a0 Z = true) : ∀ d ∈ L, d.before a0 Z = true := fun d hd => hw d (hs d hd)
set_option maxRecDepth 65536 in
theorem StrChars_wordsEq : ∀ d ∈ StrChars.Road.wordsEq, d ∈ tables_1 := by decide +kernel
end Jvm.Pilot.@@N@@
namespace Jvm.Pilot.@@N@@
open Jvm Jvm.ClassFile Sem Op Lib Jvm.Free Jvm.Stand Jvm.LawKit Jvm.RoadKit Bundle Jvm.Pilot.@@N@@.Jvm.D
section OwnW
variable {p : Program} {l : Launch} {e : Env} {R : Room} {s : State} {vm0 : Vm} {k0 : Nat} {m : MethodId} {args : Array Value} {below : List Frame} {meth : Method} {c : Code} {T : State} {locs : List Loc} {cells slots : Nat} {Z : State} {a0 : Array Value} {h : Heap} {EL : List (String × Nat)}
/-- the end of a body that may intern -/
def EndW (Z : State) (EL : List (String × Nat)) (s : State) (below : List Frame) (Q : Option Value → Heap → List Loc → Prop) (kc ks : Nat) (s₂ : State) (o : Outcome) : Prop :=
  s₂.status = .running ∧ Ended s₂ below o ∧ ∃ v L, o = .returned v ∧ Q v s₂.heap L ∧ CHr Z EL s.vm s.heap s₂.vm s₂.heap ∧ ReturnedEndW s o s₂ L kc ks
variable {Q : Option Value → Heap → List Loc → Prop} {kc ks : Nat}
theorem finGW {g : JFrame} (X : Stand p l e R (s.setVm vm0) m args below meth c T locs cells slots) (hk : meth.locks = false) (hS : s.Since vm0 k0) (hkS : k0 ≤ h.size) (hZ : Z.Warmed39 vm0) (hEL : EW Z a0 EL) (hC : CHr Z EL s.vm s.heap vm0 h) (eT : T.heap = h) (v : Option Value) (hv : meth.sig.returnType = none → v = none)
    (st : ∀ fs, (∀ (f : JFrame) (acts : List Action), f.method = m → f.locked = none → f.entered = [] → (doReturn e (T.setTop f) acts v).1 = T.setFrames fs) → Steps p.tables e below (T.setTop g) (T.setFrames fs))
    (hc : cells ≤ kc) (hs : slots ≤ ks) (hQ : Q v h locs) : Goes p.tables e below (EndW Z EL s below Q kc ks) (T.setTop g) := by
  subst eT
  obtain ⟨fs, hr, hrun, hended, hW⟩ := X.leaveW hS hkS (v := v) hv hk
  have q : CHr Z EL s.vm s.heap T.vm T.heap := hC.trans (CHv.at X hZ hEL hC.1)
  exact ⟨_, _, st fs hr, hrun, hended, v, locs, rfl, hQ, q, hW.1, hW.2.1, hW.2.2.1, hW.2.2.2.mono hc hs⟩
theorem finVW (X : Stand p l e R (s.setVm vm0) m args below meth c T locs cells slots) (hx : p.tables.exec = Jvm.exec) (hk : meth.locks = false) (hret : meth.sig.returnType = none) (hS : s.Since vm0 k0) (hkS : k0 ≤ h.size) (hZ : Z.Warmed39 vm0) (hEL : EW Z a0 EL) (hC : CHr Z EL s.vm s.heap vm0 h) (eT : T.heap = h) {pc : Nat} {Ls : Array Slot} (hd : decode c.code pc = .ok (.return_, 1)) (hc : cells ≤ kc) (hs : slots ≤ ks) (hQ : Q none h locs) :
    Goes p.tables e below (EndW Z EL s below Q kc ks) (T.setTop (mkF m pc Ls [])) := finGW X hk hS hkS hZ hEL hC eT none (fun _ => rfl) (fun _ hr => X.returnOut hx hret hd hr) hc hs hQ
theorem finIW (X : Stand p l e R (s.setVm vm0) m args below meth c T locs cells slots) (hx : p.tables.exec = Jvm.exec) (hk : meth.locks = false) (hret : meth.sig.returnType = some .int) (hS : s.Since vm0 k0) (hkS : k0 ≤ h.size) (hZ : Z.Warmed39 vm0) (hEL : EW Z a0 EL) (hC : CHr Z EL s.vm s.heap vm0 h) (eT : T.heap = h) {pc : Nat} {Ls : Array Slot} {z : Int32} {rest : List Value} (hd : decode c.code pc = .ok (.ireturn, 1)) (hc : cells ≤ kc) (hs : slots ≤ ks) (hQ : Q (some (.int z)) h locs) :
    Goes p.tables e below (EndW Z EL s below Q kc ks) (T.setTop (mkF m pc Ls (.int z :: rest))) := finGW X hk hS hkS hZ hEL hC eT _ (fun q => by rw [hret] at q; cases q) (fun _ hr => retI X hx hret hd hr) hc hs hQ
theorem finNW (X : Stand p l e R (s.setVm vm0) m args below meth c T locs cells slots) (hx : p.tables.exec = Jvm.exec) (hk : meth.locks = false) {t : FieldType} (hret : meth.sig.returnType = some t) (ht : t = .boolean ∨ t = .byte ∨ t = .char ∨ t = .short) (hS : s.Since vm0 k0) (hkS : k0 ≤ h.size) (hZ : Z.Warmed39 vm0) (hEL : EW Z a0 EL) (hC : CHr Z EL s.vm s.heap vm0 h) (eT : T.heap = h) {pc : Nat} {Ls : Array Slot} {z : Int32} {rest : List Value} (hd : decode c.code pc = .ok (.ireturn, 1)) (hc : cells ≤ kc) (hs : slots ≤ ks) (hQ : Q (some (.int (nar t z))) h locs) :
    Goes p.tables e below (EndW Z EL s below Q kc ks) (T.setTop (mkF m pc Ls (.int z :: rest))) := finGW X hk hS hkS hZ hEL hC eT _ (fun q => by rw [hret] at q; cases q) (fun _ hr => retN X hx hret ht hd hr) hc hs hQ
theorem finRW (X : Stand p l e R (s.setVm vm0) m args below meth c T locs cells slots) (hx : p.tables.exec = Jvm.exec) (hk : meth.locks = false) {t : FieldType} (hret : meth.sig.returnType = some t) (ht : t.isReference = true) {w : Value} (hw : w.isRef = true) (hS : s.Since vm0 k0) (hkS : k0 ≤ h.size) (hZ : Z.Warmed39 vm0) (hEL : EW Z a0 EL) (hC : CHr Z EL s.vm s.heap vm0 h) (eT : T.heap = h) {pc : Nat} {Ls : Array Slot} (hd : decode c.code pc = .ok (.areturn, 1)) (hc : cells ≤ kc) (hs : slots ≤ ks) (hQ : Q (some w) h locs) :
    Goes p.tables e below (EndW Z EL s below Q kc ks) (T.setTop (mkF m pc Ls [w])) := finGW X hk hS hkS hZ hEL hC eT _ (fun q => by rw [hret] at q; cases q) (fun _ hr => X.areturnOut hx hw hret ht hd hr) hc hs hQ
theorem bodyOfW {xs : List Addr} {y : MethodName} {bytes : ByteArray} {maxL : Nat} {ret : Option FieldType} {ws : List Jvm.Cond} {rm : Room} {as' : Array Value} {Ls : Array Slot} {h0 : Heap}
    (pn : plainFor y = true) (ef : ∀ m, entryFrame m as' maxL = mkF m 0 Ls [])
    (body : ∀ (p : Program) (e : Env) (s : State) (m : MethodId) (below : List Frame) (meth : Method) (c : Code) (T : State), Stand p l e rm (s.setVm s.vm) m as' below meth c T [] 0 0 → p.tables.exec = Jvm.exec → c.code = bytes → c.maxLocals = maxL →
      s.vm.findClass y.cls = some m.cls → meth.name = y.name → meth.sig.returnType = ret → meth.locks = false → Z.Warmed39 s.vm → T.heap = h0 → s.Since s.vm h0.size → CHr Z EL s.vm s.heap s.vm h0 → (∀ x ∈ xs, Safe Z EL s.vm h0 x) → Goes p.tables e below (EndW Z EL s below Q rm.cells rm.slots) (T.setTop (mkF m 0 Ls []))) :
    MetFree l y (head1 (Jvm.Cond.code y bytes maxL ret :: ws) rm) (fun a U => a = as' ∧ Z.Warmed39 U.vm ∧ U.heap = h0 ∧ CHv Z EL U.vm h0 ∧ ∀ x ∈ xs, Safe Z EL U.vm h0 x) (fun _ _ _ _ _ => True) (fun _ U o U' => ∃ v L, o = .returned v ∧ Q v U'.heap L ∧ CHr Z EL U.vm U.heap U'.vm U'.heap ∧ ReturnedEndW U o U' L rm.cells rm.slots) := by
  refine MetFree.of_bodySF pn hisR ?_
  intro p e s m args below meth c s₁ Bd hml0 hP hK
  obtain ⟨rfl, hZ, hh, hH, hsf⟩ := hP
  have e0 : s₁.heap = h0 := by rw [← hh, Bd.state]; rfl
  have hC : CHr Z EL s.vm s.heap s.vm h0 := by rw [hh]; exact CHr.refl hH
  obtain ⟨s₂, o, st, hrun, hend, hq⟩ := body p e s m below meth c s₁ (Stand.of_body Bd) Bd.exec Bd.bytes hml0 (findClass_of_methodNamed Bd.named) (name_of_methodNamed Bd.named Bd.method).1 Bd.returns Bd.notSynchronized hZ e0 ((State.WarmedH.refl s).since _) hC hsf
  exact ⟨s₂, o, castTop (ef m) st, hrun, hend, hq⟩
variable {y z : MethodName} {own C : String} {index W len : Nat} {bytes : ByteArray} {maxL : Nat} {ret : Option FieldType} {as' : Array Value} {argsL rest : List Value} {g : JFrame}
/-- what pays a call of a body that may intern; xs: cells that no booked String has -/
theorem backW {rm : Room} {xs : List Addr}
    (hM : MetFree l y (head1 [Jvm.Cond.code y bytes maxL ret] rm) (fun a U => a = as' ∧ Z.Warmed39 U.vm ∧ U.heap = h ∧ CHv Z EL U.vm h ∧ ∀ x ∈ xs, Safe Z EL U.vm h x) (fun _ _ _ _ _ => True) (fun _ U o U' => ∃ v L, o = .returned v ∧ Q v U'.heap L ∧ CHr Z EL U.vm U.heap U'.vm U'.heap ∧ ReturnedEndW U o U' L rm.cells rm.slots))
    (hZ : Z.Warmed39 vm0) (wc : (Jvm.Cond.code y bytes maxL ret).before a0 Z = true) (wz : (Jvm.Cond.initialized y.cls).before a0 Z = true) (hf : rm.frames + 1 ≤ R.frames) (hl : W + (maxL + 11) + rm.locals ≤ R.locals) (hEL : EW Z a0 EL) (H : CHv Z EL vm0 h) (hsf : ∀ x ∈ xs, Safe Z EL vm0 h x ∧ x < h.size) :
    BackS l R p e below (s.setVm vm0) args y len W (fun A a => a = as' ∧ A.U.heap = h ∧ A.cells + rm.cells ≤ R.cells ∧ A.slots + rm.slots ≤ R.slots)
      (fun A _ v B => ∃ L, Q v B.U.heap L ∧ B.locs = A.locs ++ L ∧ B.cells = A.cells + rm.cells ∧ B.slots = A.slots + rm.slots ∧ CHr Z EL vm0 h B.U.vm B.U.heap) := by
  refine BackS.of_freeW (bytes := bytes) (maxL := maxL) (ret := ret) (E := fun _ first o t L k n => k = rm.cells ∧ n = rm.slots ∧ (∃ v, o = .returned v ∧ Q v t.heap L) ∧ CHr Z EL first.vm first.heap t.vm t.heap) hM hf hl ?_ ?_ (fun _ _ _ _ _ _ _ _ _ => trivial) ?_ ?_
  · intro m meth c A a Y hp
    have hU : Z.Warmed39 A.U.vm := wtrans (s := s.setVm vm0) hZ Y.warmed
    exact ⟨by show (Jvm.Cond.and _ .tt).before a A.U = true; rw [Cond.before_and, mv hU wc]; rfl, mv hU wc, mv hU wz, hp.2.2.1, hp.2.2.2⟩
  · intro m meth c A a g mk Y hp
    have hC := CHv.at Y hZ hEL H
    exact ⟨hp.1, wtrans (s := s.setVm vm0) hZ Y.warmed, hp.2.1, hC.1, fun x hx => hC.safe (hsf x hx).2 (hsf x hx).1⟩
  · rintro a first o t ⟨v, L, h1, h2, h3, h4⟩
    exact ⟨L, _, _, h4, rfl, rfl, ⟨v, h1, h2⟩, h3⟩
  · rintro m meth c A a g mk v t L k n Y hp _ _ ⟨e1, e2, ⟨v', e3, e4⟩, e5⟩
    cases e3
    subst e1 e2
    refine ⟨L, e4, rfl, rfl, rfl, (CHv.at Y hZ hEL H).trans ?_⟩
    rw [← hp.2.1]; exact e5
theorem callStW (X : Stand p l e R (s.setVm vm0) m args below meth c T locs cells slots) (hx : p.tables.exec = Jvm.exec) (hZ : Z.Warmed39 vm0) (hown : vm0.findClass own = some m.cls)
    (w1 : (Jvm.Cond.methodLink own index y).before a0 Z = true) (w2 : (Jvm.Cond.static y).before a0 Z = true) (w3 : (Jvm.Cond.initialized y.cls).before a0 Z = true) (w4 : (Jvm.Cond.code y bytes maxL ret).before a0 Z = true)
    (hy : y.cls ≠ "java/lang/invoke/MethodHandle" ∧ y.cls ≠ "java/lang/invoke/VarHandle")
    (hB : BackS l R p e below (s.setVm vm0) args y 3 W (fun A a => a = argsL.toArray ∧ A.U.heap = h ∧ A.cells + kc ≤ R.cells ∧ A.slots + ks ≤ R.slots) (fun A _ v B => ∃ L, Q v B.U.heap L ∧ B.locs = A.locs ++ L ∧ B.cells = A.cells + kc ∧ B.slots = A.slots + ks ∧ CHr Z EL vm0 h B.U.vm B.U.heap))
    (hg : g.method = m) (hsize : g.locals.size = c.maxLocals) (hlen : ∀ sig, parseMethodDescriptor y.desc = some sig → argsL.length = sig.parameters.length) (hstack : g.stack = argsL.reverse ++ rest) (hW : 2 * g.monitorRoom + (rest.map fun v => v.category).sum ≤ W)
    (hd : decode c.code g.pc = .ok (.invokestatic index, 3)) (eT : T.heap = h) (hc : cells + kc ≤ R.cells) (hs : slots + ks ≤ R.slots) (hS : s.Since vm0 k0) (hkS : k0 ≤ h.size) :
    ∃ v T' L, Stand p l e R (s.setVm T'.vm) m args below meth c T' (locs ++ L) (cells + kc) (slots + ks) ∧ Q v T'.heap L ∧ s.Since T'.vm T'.heap.size ∧ Z.Warmed39 T'.vm ∧ T'.vm.findClass own = some m.cls ∧ CHr Z EL vm0 h T'.vm T'.heap ∧ ∀ t, Steps p.tables e below (T'.setTop { g with pc := g.pc + 3, stack := v.toList ++ rest }) t → Steps p.tables e below (T.setTop g) t := by
  obtain ⟨v, _, ⟨T1, L1, k1, n1⟩, -, X1, h2, hgr, ⟨L, hQ, hl, hk, hn, hC⟩, st⟩ := callSS X hx (s := s.setVm vm0) hown (mvT (s := s.setVm vm0) hZ w1) (mvT (s := s.setVm vm0) hZ w2) (mvT (s := s.setVm vm0) hZ w3) (mvT (s := s.setVm vm0) hZ w4) hy hB hg hsize hlen hstack hW hd (fun _ _ => ⟨rfl, eT, hc, hs⟩)
  dsimp only [Pt.U, Pt.locs, Pt.cells, Pt.slots] at X1 hl hk hn st hQ h2 hgr hC
  subst hl hk hn
  obtain ⟨X2, hS2, hZ2, hown2⟩ := rebS hS hkS X1 h2 (by rw [← eT]; exact hgr) hZ hown
  exact ⟨v, T1, L, X2, hQ, hS2, hZ2, hown2, hC, fun t k => st.trans k⟩
theorem callSpW {a : Addr} (X : Stand p l e R (s.setVm vm0) m args below meth c T locs cells slots) (hx : p.tables.exec = Jvm.exec) (hZ : Z.Warmed39 vm0) (hy1 : y.name = "<init>") (hown : vm0.findClass own = some m.cls)
    (w1 : (Jvm.Cond.methodLink own index y).before a0 Z = true) (w2 : (Jvm.Cond.instanceMethod y).before a0 Z = true) (w4 : (Jvm.Cond.code y bytes maxL none).before a0 Z = true)
    (hy : y.cls ≠ "java/lang/invoke/MethodHandle" ∧ y.cls ≠ "java/lang/invoke/VarHandle")
    (hB : BackS l R p e below (s.setVm vm0) args y 3 W (fun A b => b = (Value.ref a :: argsL).toArray ∧ A.U.heap = h ∧ A.cells + kc ≤ R.cells ∧ A.slots + ks ≤ R.slots) (fun A _ v B => ∃ L, Q v B.U.heap L ∧ B.locs = A.locs ++ L ∧ B.cells = A.cells + kc ∧ B.slots = A.slots + ks ∧ CHr Z EL vm0 h B.U.vm B.U.heap))
    (hg : g.method = m) (hsize : g.locals.size = c.maxLocals) (hlen : ∀ sig, parseMethodDescriptor y.desc = some sig → argsL.length = sig.parameters.length) (hstack : g.stack = argsL.reverse ++ .ref a :: rest) (hW : 2 * g.monitorRoom + (rest.map fun v => v.category).sum ≤ W)
    (hd : decode c.code g.pc = .ok (.invokespecial index, 3)) (eT : T.heap = h) (hc : cells + kc ≤ R.cells) (hs : slots + ks ≤ R.slots) (hS : s.Since vm0 k0) (hkS : k0 ≤ h.size) :
    ∃ v T' L, Stand p l e R (s.setVm T'.vm) m args below meth c T' (locs ++ L) (cells + kc) (slots + ks) ∧ Q v T'.heap L ∧ s.Since T'.vm T'.heap.size ∧ Z.Warmed39 T'.vm ∧ T'.vm.findClass own = some m.cls ∧ CHr Z EL vm0 h T'.vm T'.heap ∧ ∀ t, Steps p.tables e below (T'.setTop { g with pc := g.pc + 3, stack := v.toList ++ rest }) t → Steps p.tables e below (T.setTop g) t := by
  obtain ⟨v, _, ⟨T1, L1, k1, n1⟩, -, X1, h2, hgr, ⟨L, hQ, hl, hk, hn, hC⟩, st⟩ := X.specialBackS hx hy1 hown (mvT (s := s.setVm vm0) hZ w1) (mvT (s := s.setVm vm0) hZ w2) (mvT (s := s.setVm vm0) hZ w4) hy hB hg hsize (Steps.refl _) hlen hstack hW hd (fun _ _ => ⟨rfl, eT, hc, hs⟩)
  dsimp only [Pt.U, Pt.locs, Pt.cells, Pt.slots] at X1 hl hk hn st hQ h2 hgr hC
  subst hl hk hn
  obtain ⟨X2, hS2, hZ2, hown2⟩ := rebS hS hkS X1 h2 (by rw [← eT]; exact hgr) hZ hown
  exact ⟨v, T1, L, X2, hQ, hS2, hZ2, hown2, hC, fun t k => st.trans k⟩
theorem callVW {a : Addr} (X : Stand p l e R (s.setVm vm0) m args below meth c T locs cells slots) (hx : p.tables.exec = Jvm.exec) (hZ : Z.Warmed39 vm0) (hown : vm0.findClass own = some m.cls)
    (w1 : (Jvm.Cond.methodLink own index y).before a0 Z = true) (w2 : (Jvm.Cond.declares y).before a0 Z = true) (nf : NotFace (s.setVm vm0) y) (w3 : (Jvm.Cond.selects C y z).before a0 Z = true) (w4 : (Jvm.Cond.instanceMethod z).before a0 Z = true)
    (hy : y.cls ≠ "java/lang/invoke/MethodHandle" ∧ y.cls ≠ "java/lang/invoke/VarHandle")
    (hB : BackS l R p e below (s.setVm vm0) args z 3 W (fun A b => b = (Value.ref a :: argsL).toArray ∧ A.U.heap = h ∧ A.cells + kc ≤ R.cells ∧ A.slots + ks ≤ R.slots) (fun A _ v B => ∃ L, Q v B.U.heap L ∧ B.locs = A.locs ++ L ∧ B.cells = A.cells + kc ∧ B.slots = A.slots + ks ∧ CHr Z EL vm0 h B.U.vm B.U.heap))
    (E : Exa Z h a C) (hg : g.method = m) (hsize : g.locals.size = c.maxLocals) (hlen : ∀ sig, parseMethodDescriptor y.desc = some sig → argsL.length = sig.parameters.length) (hstack : g.stack = argsL.reverse ++ .ref a :: rest) (hW : 2 * g.monitorRoom + (rest.map fun v => v.category).sum ≤ W)
    (hd : decode c.code g.pc = .ok (.invokevirtual index, 3)) (eT : T.heap = h) (hc : cells + kc ≤ R.cells) (hs : slots + ks ≤ R.slots) (hS : s.Since vm0 k0) (hkS : k0 ≤ h.size) :
    ∃ v T' L, Stand p l e R (s.setVm T'.vm) m args below meth c T' (locs ++ L) (cells + kc) (slots + ks) ∧ Q v T'.heap L ∧ s.Since T'.vm T'.heap.size ∧ Z.Warmed39 T'.vm ∧ T'.vm.findClass own = some m.cls ∧ CHr Z EL vm0 h T'.vm T'.heap ∧ ∀ t, Steps p.tables e below (T'.setTop { g with pc := g.pc + 3, stack := v.toList ++ rest }) t → Steps p.tables e below (T.setTop g) t := by
  obtain ⟨cq, kq, qa, qb, qc⟩ := isOf (s := s.setVm vm0) hZ eT E
  obtain ⟨v, _, ⟨T1, L1, k1, n1⟩, -, X1, h2, hgr, ⟨L, hQ, hl, hk, hn, hC⟩, st⟩ := X.virtualBackS hx hown (mvT (s := s.setVm vm0) hZ w1) (mvT (s := s.setVm vm0) hZ w2) nf (mvT (s := s.setVm vm0) hZ w3) (mvT (s := s.setVm vm0) hZ w4) hy hB qa qc hg hsize (Steps.refl _) hlen hstack hW hd (fun _ _ => ⟨rfl, eT, hc, hs⟩)
  dsimp only [Pt.U, Pt.locs, Pt.cells, Pt.slots] at X1 hl hk hn st hQ h2 hgr hC
  subst hl hk hn
  obtain ⟨X2, hS2, hZ2, hown2⟩ := rebS hS hkS X1 h2 (by rw [← eT]; exact hgr) hZ hown
  exact ⟨v, T1, L, X2, hQ, hS2, hZ2, hown2, hC, fun t k => st.trans k⟩
theorem safeArv {vm : Vm} {x : Addr} {k : ClassId} {ty : FieldType} {n : Int32} {vs : List Value} {d : Value} (hal : Z.vm.Alike vm) (V : Arv Z h x k ty n vs d) (ht : ty ≠ .byte) : Safe Z EL vm h x := by
  obtain ⟨_, A, -⟩ := V
  exact Safe.arr hal A ht
end OwnW
end Jvm.Pilot.@@N@@
namespace Jvm.Pilot.@@N@@
open Jvm Jvm.ClassFile Sem Op Lib Jvm.Free Jvm.Stand Jvm.LawKit Jvm.RoadKit Bundle Jvm.Pilot.@@N@@.Jvm.D
theorem own_EW {a0 : Array Value} {Z : State} (hw : ∀ d ∈ tables_1, d.before a0 Z = true) : EW Z a0 consts_1 := (EW.cons (ww hw 62 rfl) (by decide) (EW.cons (ww hw 93 rfl) (by decide) (EW.cons (ww hw 83 rfl) (by decide) EW.nil)))
set_option maxRecDepth 65536 in
theorem own_strAtoms : ∀ d ∈ Bundle.stringAtoms, d ∈ tables_1 := by decide +kernel
theorem safeBlank {Z : State} {EL : List (String × Nat)} {vm : Vm} {h : Heap} {x : Addr} (hal : Z.vm.Alike vm) (E : Exa Z h x "java/lang/String") (F : Fld Z h x "java/lang/String" "value" "[B" .null) : Safe Z EL vm h x := fun B => by
  obtain ⟨cell, k, e1, e2, e3, -, -⟩ := E
  obtain ⟨p, -, u, a, -, q, -, G, rfl | rfl⟩ := B
  · obtain ⟨cell', cf, kf, i, f, g1, g2, -, -, -, -, g7⟩ := F
    cases e1.symm.trans g1
    cases (show h[q.sa]? = some q.sC from G.ha).symm.trans e1
    obtain ⟨cS, ⟨⟨-, -, -, ⟨c1, k1, i1, f1, -⟩, -, -, -, v1, -⟩, -⟩, -⟩ := G
    obtain ⟨k3, e5, -⟩ := State.fieldFound?_setVm (s := Z) hal g2
    have e4 := (show (Wst Z vm h).fieldFound? _ _ _ = _ from e5).symm.trans f1
    simp only [Option.some.injEq, Prod.mk.injEq] at e4
    rw [← e4.2.2.2, g7] at v1
    simp at v1
  · cases (show h[q.sd]? = some q.SA from G.hd).symm.trans e1
    obtain ⟨cS, -, -, f, -⟩ := G
    have f' : Z.vm.findClass "[B" = some q.SA.cls := by rw [← hal.findClass]; exact f
    obtain ⟨k1, q1, q2⟩ := Vm.findClass_spec f'
    obtain ⟨k2, q3, q4⟩ := Vm.findClass_spec e2
    cases q1.symm.trans q3
    exact absurd (q2.symm.trans q4) (by decide)
end Jvm.Pilot.@@N@@
namespace Jvm.Pilot.@@N@@
open Jvm Jvm.ClassFile Sem Op Lib Jvm.Free Jvm.Stand Jvm.LawKit Jvm.RoadKit Bundle Jvm.Pilot.@@N@@.Jvm.D
/-- x is a String whose bytes, at t, spell the chars cs by the coder cd -/
def Str (Z : State) (h : Heap) (x t : Addr) (cd : Int32) (cs : List Int32) : Prop := ∃ (kb : ClassId) (N2 : Int32) (vs : List Value), Exa Z h x "java/lang/String" ∧ Fld Z h x "java/lang/String" "value" "[B" (.ref t) ∧ Fld Z h x "java/lang/String" "coder" "B" (.int cd) ∧ Arv Z h t kb .byte N2 vs (.int 0) ∧ StrChars.Road.CodA cs cd N2 vs ∧ (∀ c ∈ cs, ¬ c < 0 ∧ ¬ (65535 : Int32) < c) ∧ cs.length ≤ 4000
theorem own_codOf {cs : List Int32} {n : Nat} (hn : cs.length = n) (hb : ∀ c ∈ cs, ¬ (255 : Int32) < c) : StrChars.Road.CodA cs 0 (Int32.ofNat n) ((cs.map StrChars.lo8).map Value.int) := Or.inl ⟨rfl, by rw [hn], by simp [List.map_map, Function.comp_def], hb⟩
section StrF
variable {Z : State} {h h' : Heap} {x t a : Addr} {cd : Int32} {cs : List Int32} {sl : Nat} {v : Value} {ws : List Addr}
theorem Str.exa (F : Str Z h x t cd cs) : Exa Z h x "java/lang/String" := by obtain ⟨_, _, _, q, -⟩ := F; exact q
theorem Str.val (F : Str Z h x t cd cs) : Fld Z h x "java/lang/String" "value" "[B" (.ref t) := by obtain ⟨_, _, _, -, q, -⟩ := F; exact q
theorem Str.cod (F : Str Z h x t cd cs) : Fld Z h x "java/lang/String" "coder" "B" (.int cd) := by obtain ⟨_, _, _, -, -, q, -⟩ := F; exact q
theorem Str.lt1 (F : Str Z h x t cd cs) : x < h.size := F.exa.lt
theorem Str.lt2 (F : Str Z h x t cd cs) : t < h.size := by obtain ⟨_, _, _, -, -, -, q, -⟩ := F; exact q.lt
theorem Str.ext (F : Str Z h x t cd cs) (E : Ext h h') : Str Z h' x t cd cs := by obtain ⟨k, n, vs, a1, a2, a3, a4, r⟩ := F; exact ⟨k, n, vs, a1.ext E, a2.ext E, a3.ext E, a4.ext E, r⟩
theorem Str.keep (F : Str Z h x t cd cs) (K : Keep h h' ws) (q1 : x ∉ ws) (q2 : t ∉ ws) : Str Z h' x t cd cs := by obtain ⟨k, n, vs, a1, a2, a3, a4, r⟩ := F; exact ⟨k, n, vs, a1.keep K, a2.keep K q1, a3.keep K q1, a4.keep K q2, r⟩
theorem Str.wr (F : Str Z h x t cd cs) (W : Wr h h' a sl v) (q1 : x ≠ a) (q2 : t ≠ a) : Str Z h' x t cd cs := by obtain ⟨k, n, vs, a1, a2, a3, a4, r⟩ := F; exact ⟨k, n, vs, a1.wr W, Fld.other W a2 (Or.inl q1), Fld.other W a3 (Or.inl q1), a4.other W q2, r⟩
theorem Str.ne1 {b : Addr} {C : String} (F : Str Z h x t cd cs) (E : Exa Z h b C) (hC : "java/lang/String" ≠ C) : x ≠ b := F.exa.ne E hC
theorem Str.ne2 {b : Addr} {C : String} {n : Nat} {a0 : Array Value} (F : Str Z h x t cd cs) (E : Exa Z h b C) (w : (Jvm.Cond.instantiable C n).before a0 Z = true) : t ≠ b := by obtain ⟨_, _, _, -, -, -, q, -⟩ := F; exact Ne.symm (E.neArv q w)
end StrF
theorem up16 (cs : List Int32) (h : ∀ c ∈ cs, ¬ c < 0 ∧ ¬ (255 : Int32) < c) : ∀ c ∈ cs, ¬ c < 0 ∧ ¬ (65535 : Int32) < c := fun c hc => ⟨(h c hc).1, fun q => (h c hc).2 (by rw [Int32.lt_iff_toInt_lt] at q ⊢; have e1 : (65535 : Int32).toInt = 65535 := rfl; have e2 : (255 : Int32).toInt = 255 := rfl; omega)⟩
theorem oj_lt {i n : Nat} (h : i < n) (hn : n ≤ 8000) : Int32.ofNat i < Int32.ofNat n := (Int32.ofNat_lt_ofNat (by omega) (by omega)).mpr h
theorem oj_nlt {i n : Nat} (h : ¬ i < n) (hi : i ≤ 8000) (hn : n ≤ 8000) : ¬ Int32.ofNat i < Int32.ofNat n := fun q => h ((Int32.ofNat_lt_ofNat (by omega) (by omega)).mp q)
theorem oj_nn {n : Nat} (hn : n ≤ 8000) : ¬ Int32.ofNat n < 0 := Int32.ofNat_not_neg (by omega)
theorem oj_n {n : Nat} (hn : n ≤ 8000) : (Int32.ofNat n).toNatClampNeg = n := by
  rw [Int32.toNatClampNeg, Int32.toInt_ofNat_of_lt (by omega)]; rfl
theorem oj_inj {i n : Nat} (hi : i ≤ 8000) (hn : n ≤ 8000) (h : Int32.ofNat i = Int32.ofNat n) : i = n := by
  have := congrArg Int32.toNatClampNeg h
  rwa [oj_n hi, oj_n hn] at this
theorem oj_one (i : Nat) : Int32.ofNat i + (1 : Int32) = Int32.ofNat (i + 1) := (Int32.ofNat_add i 1).symm
theorem oj_in {c : Cell} {n i : Nat} {z : Int32} (S : c.slots.size = z.toNatClampNeg) (hz : z = Int32.ofNat n) (h : i < n) (hn : n ≤ 8000) : ¬ (Int32.ofNat i < 0 ∨ c.slots.size ≤ (Int32.ofNat i).toNatClampNeg) := by
  rw [S, hz, oj_n hn, oj_n (by omega)]
  exact fun q => q.elim (oj_nn (by omega)) (by omega)
theorem oj_dbl {n : Nat} (hn : n ≤ 4000) : (Int32.ofNat n) <<< ((1 : Int32) &&& 31) = Int32.ofNat (2 * n) := by
  have q := c_ishl (Int32.ofNat n) 1 1 (by decide)
  rw [Int32.toInt_ofNat_of_lt (by omega)] at q
  apply Int32.toInt_inj.mp
  rw [Int32.toInt_ofNat_of_lt (by omega)]
  have r := rng32 (Int32.ofNat n <<< ((1 : Int32) &&& 31))
  omega
theorem oj_half {n : Nat} (hn : n ≤ 4000) : (Int32.ofNat (2 * n)) >>> ((1 : Int32) &&& 31) = Int32.ofNat n := by
  have q := c_ishr (Int32.ofNat (2 * n)) 1 1 (by decide)
  rw [Int32.toInt_ofNat_of_lt (by omega)] at q
  apply Int32.toInt_inj.mp
  rw [Int32.toInt_ofNat_of_lt (by omega), q]
  omega
theorem oj_get (cs : List Int32) {i : Nat} (h : i < cs.length) (d : Value) : (cs.map Value.int).getD i d = .int (cs.getD i 0) := by
  simp [List.getD_eq_getElem?_getD, h]
theorem oj_take (cs : List Int32) {i : Nat} (h : i < cs.length) (f : Int32 → Value) : (cs.take i).map f ++ [f (cs.getD i 0)] = (cs.take (i + 1)).map f := by
  rw [List.take_add_one, List.map_append, List.getD_eq_getElem?_getD, List.getElem?_eq_getElem h]; rfl
theorem oj_narb (x : Int32) : nar .byte (x.toInt8.toInt32) = x.toInt8.toInt32 := by simp [nar]
theorem oj_bb (x : Int32) : x.toInt8.toInt32.toInt8.toInt32 = x.toInt8.toInt32 := by simp
theorem arvSnoc {Z : State} {h h' : Heap} {a : Addr} {k : ClassId} {ty : FieldType} {z j : Int32} {vs : List Value} {dv v : Value} {c : Cell} (A : Arr Z h a c ty) (q1 : c.cls = k) (S : c.slots.size = z.toNatClampNeg) (q3 : ¬ z < 0) (H : Has c vs dv) (G : ∀ i, i < c.slots.size → fits ty (vs.getD i dv) = true) (hv : fits ty v = true) (W : Wr h h' a j.toNatClampNeg v) (hj : j.toNatClampNeg = vs.length) : Arv Z h' a k ty z (vs ++ [v]) dv := by
  have H' : Has c (vs ++ [dv]) dv := fun i hi => by rw [show [dv] = List.replicate 1 dv from rfl, pad_rep vs dv 1 i]; exact H i hi
  have G' : ∀ i, i < c.slots.size → fits ty ((vs ++ [dv]).getD i dv) = true := fun i hi => by rw [show [dv] = List.replicate 1 dv from rfl, pad_rep vs dv 1 i]; exact G i hi
  have q := Arv.set A q1 S q3 H' G' hv W vs.length hj (by simp)
  have e : (vs ++ [dv]).set vs.length v = vs ++ [v] := by simp
  rwa [e] at q
/-- how many chars ahead of the first above 255 -/
def own_k : List Int32 → Nat
  | [] => 0
  | c :: r => if (255 : Int32) < c then 0 else own_k r + 1
theorem own_k_at : ∀ (cs : List Int32) (i : Nat), (∀ j, j < i → ¬ (255 : Int32) < cs.getD j 0) → i < cs.length → (255 : Int32) < cs.getD i 0 → own_k cs = i
  | [], _, _, h, _ => absurd h (Nat.not_lt_zero _)
  | c :: r, 0, _, _, hc => by simp only [own_k]; exact if_pos hc
  | c :: r, i + 1, hb, h, hc => by
    have h0 : ¬ (255 : Int32) < c := hb 0 (Nat.succ_pos _)
    simp only [own_k, if_neg h0]
    rw [own_k_at r i (fun j hj => hb (j + 1) (by omega)) (by simpa using h) hc]
theorem own_k_all : ∀ (cs : List Int32), (∀ j, j < cs.length → ¬ (255 : Int32) < cs.getD j 0) → own_k cs = cs.length
  | [], _ => rfl
  | c :: r, hb => by
    have h0 : ¬ (255 : Int32) < c := hb 0 (Nat.succ_pos _)
    simp only [own_k, if_neg h0]
    rw [own_k_all r fun j hj => hb (j + 1) (by simpa using hj)]; rfl
theorem own_k_le : ∀ cs : List Int32, own_k cs ≤ cs.length
  | [] => Nat.le_refl _
  | c :: r => by
    simp only [own_k]
    split
    · exact Nat.zero_le _
    · exact Nat.succ_le_succ (own_k_le r)
theorem own_k_hi : ∀ cs : List Int32, own_k cs ≠ cs.length → own_k cs < cs.length ∧ (255 : Int32) < cs.getD (own_k cs) 0
  | [], h => absurd rfl h
  | c :: r, h => by
    by_cases q : (255 : Int32) < c
    · simp only [own_k, if_pos q]; exact ⟨Nat.succ_pos _, q⟩
    · simp only [own_k, if_neg q] at h ⊢
      obtain ⟨h1, h2⟩ := own_k_hi r fun e => h (congrArg (· + 1) e)
      exact ⟨Nat.succ_lt_succ h1, h2⟩
theorem own_k_lo (cs : List Int32) (h : own_k cs = cs.length) : ∀ c ∈ cs, ¬ (255 : Int32) < c := by
  induction cs with
  | nil => exact fun _ q => nomatch q
  | cons c r ih =>
    by_cases q : (255 : Int32) < c
    · simp only [own_k, if_pos q] at h; exact absurd h (Nat.succ_ne_zero _).symm
    · simp only [own_k, if_neg q] at h
      intro x hx
      rcases List.mem_cons.mp hx with rfl | hx
      · exact q
      · exact ih (Nat.succ.inj h) x hx
theorem oj_mem {cs : List Int32} {i : Nat} (h : i < cs.length) : cs.getD i 0 ∈ cs := by
  rw [List.getD_eq_getElem?_getD, List.getElem?_eq_getElem h]; exact List.getElem_mem h
theorem wide_len : ∀ cs : List Int32, (StrChars.Road.wideBytes cs).length = 2 * cs.length
  | [] => rfl
  | c :: r => by simp only [StrChars.Road.wideBytes, List.length_cons, wide_len r]; omega
theorem wide_snoc : ∀ (cs : List Int32) (c : Int32), StrChars.Road.wideBytes (cs ++ [c]) = StrChars.Road.wideBytes cs ++ [.int (StrChars.lo8 c)] ++ [.int (StrChars.hi8 c)]
  | [], _ => rfl
  | d :: r, c => by simp only [List.cons_append, StrChars.Road.wideBytes, wide_snoc r c]
theorem oj_take1 (cs : List Int32) {i : Nat} (h : i < cs.length) : cs.take i ++ [cs.getD i 0] = cs.take (i + 1) := by
  rw [List.take_add_one, List.getD_eq_getElem?_getD, List.getElem?_eq_getElem h]; rfl
theorem oj_cod0 {n : Nat} (h : n ≤ 4000) : nar .byte ((((Int32.ofNat n - Int32.ofNat n).toUInt32 >>> ((31 : Int32) &&& 31).toUInt32).toInt32).toInt8.toInt32) = 0 := by
  rw [Int32.sub_self]; decide
theorem oj_cod1 {n : Nat} (h0 : 0 < n) (h : n ≤ 4000) : nar .byte ((((Int32.ofNat n - Int32.ofNat (2 * n)).toUInt32 >>> ((31 : Int32) &&& 31).toUInt32).toInt32).toInt8.toInt32) = 1 := by
  have q := c_iushr (Int32.ofNat n - Int32.ofNat (2 * n)) 31 31 (by decide) (by decide)
  have e := c_isub (Int32.ofNat n) (Int32.ofNat (2 * n))
  have r := rng32 (Int32.ofNat n - Int32.ofNat (2 * n))
  rw [Int32.toInt_ofNat_of_lt (by omega), Int32.toInt_ofNat_of_lt (by omega)] at e
  have v : ((((Int32.ofNat n - Int32.ofNat (2 * n)).toUInt32 >>> ((31 : Int32) &&& 31).toUInt32).toInt32)) = 1 := by
    apply Int32.toInt_inj.mp
    rw [q]
    have : ((1 : Int32).toInt) = 1 := rfl
    omega
  rw [v]; decide
theorem oj_c16 {c : Int32} (h : ¬ c < 0 ∧ ¬ (65535 : Int32) < c) : nar .char c = c := by
  show c.toUInt32.toUInt16.toUInt32.toInt32 = c
  have q := c_i2c c
  have r := rng32 c
  obtain ⟨h0, h1⟩ := h
  rw [Int32.lt_iff_toInt_lt] at h0 h1
  have e0 : (0 : Int32).toInt = 0 := rfl
  have e1 : (65535 : Int32).toInt = 65535 := rfl
  apply Int32.toInt_inj.mp
  omega
theorem own_three (x : Int32) : (x &&& (2147483647 : Int32)) % (3 : Int32) = 0 ∨ (x &&& (2147483647 : Int32)) % (3 : Int32) = 1 ∨ (x &&& (2147483647 : Int32)) % (3 : Int32) = 2 := by
  have h := c_mask x 2147483647 31 (by decide) (by decide)
  have r := (c_irem (x &&& 2147483647) 3 3 rfl).1 (by omega)
  have e0 : (0 : Int32).toInt = 0 := rfl
  have e1 : (1 : Int32).toInt = 1 := rfl
  have e2 : (2 : Int32).toInt = 2 := rfl
  simp only [← Int32.toInt_inj, e0, e1, e2]
  omega

theorem d5_0 : decode jdk_52_method_21_code 0 = .ok (.iconst 0, 1) := by decide +kernel
theorem d5_1 : decode jdk_52_method_21_code 1 = .ok (.istore 5, 2) := by decide +kernel
theorem d5_3 : decode jdk_52_method_21_code 3 = .ok (.iload 5, 2) := by decide +kernel
theorem d5_5 : decode jdk_52_method_21_code 5 = .ok (.iload 4, 2) := by decide +kernel
theorem d5_7 : decode jdk_52_method_21_code 7 = .ok (.if_icmp .ge 37, 3) := by decide +kernel
theorem d5_44 : decode jdk_52_method_21_code 44 = .ok (.iload 4, 2) := by decide +kernel
theorem d5_46 : decode jdk_52_method_21_code 46 = .ok (.ireturn, 1) := by decide +kernel
theorem d5_10 : decode jdk_52_method_21_code 10 = .ok (.aload_n 0, 1) := by decide +kernel
theorem d5_11 : decode jdk_52_method_21_code 11 = .ok (.iload_n 1, 1) := by decide +kernel
theorem d5_12 : decode jdk_52_method_21_code 12 = .ok (.caload, 1) := by decide +kernel
theorem d5_13 : decode jdk_52_method_21_code 13 = .ok (.istore 6, 2) := by decide +kernel
theorem d5_15 : decode jdk_52_method_21_code 15 = .ok (.iload 6, 2) := by decide +kernel
theorem d5_17 : decode jdk_52_method_21_code 17 = .ok (.sipush 255, 3) := by decide +kernel
theorem d5_20 : decode jdk_52_method_21_code 20 = .ok (.if_icmp .le 6, 3) := by decide +kernel
theorem d5_23 : decode jdk_52_method_21_code 23 = .ok (.iload 5, 2) := by decide +kernel
theorem d5_25 : decode jdk_52_method_21_code 25 = .ok (.ireturn, 1) := by decide +kernel
theorem d5_26 : decode jdk_52_method_21_code 26 = .ok (.aload_n 2, 1) := by decide +kernel
theorem d5_27 : decode jdk_52_method_21_code 27 = .ok (.iload_n 3, 1) := by decide +kernel
theorem d5_28 : decode jdk_52_method_21_code 28 = .ok (.iload 6, 2) := by decide +kernel
theorem d5_30 : decode jdk_52_method_21_code 30 = .ok (.i2b, 1) := by decide +kernel
theorem d5_31 : decode jdk_52_method_21_code 31 = .ok (.bastore, 1) := by decide +kernel
theorem d5_32 : decode jdk_52_method_21_code 32 = .ok (.iinc 1 1, 3) := by decide +kernel
theorem d5_35 : decode jdk_52_method_21_code 35 = .ok (.iinc 3 1, 3) := by decide +kernel
theorem d5_38 : decode jdk_52_method_21_code 38 = .ok (.iinc 5 1, 3) := by decide +kernel
theorem d5_41 : decode jdk_52_method_21_code 41 = .ok (.goto (-38), 3) := by decide +kernel
abbrev y_0 : MethodName := ⟨"java/lang/StringUTF16", "compress", "([CI[BII)I"⟩
theorem pn_0 : plainFor y_0 = true := by first | exact plainFor_of_name (by first | (simp [plainName, overriddenIn]; done) | decide +kernel) | decide +kernel
theorem ef_rmCmp5 (m : MethodId) (a1 : Addr) (a3 : Addr) (pn : Int32) : entryFrame m #[(.ref a1), (.int 0), (.ref a3), (.int 0), (.int pn)] 7 = mkF m 0 #[sr a1, si 0, sr a3, si 0, si pn, .unset, .unset] [] := by first | (simp [entryFrame, mkF, argsToLocals, Value.category]; done) | rfl
def Q_rmCmp5 (Z : State) (a1 : Addr) (a3 : Addr) (pn : Int32) (kC : ClassId) (kB : ClassId) (cs : List Int32) (dC : Value) (h0 : Heap) (n0 : Nat) (v : Option Value) (h : Heap) (L : List Loc) : Prop := v = some (.int (Int32.ofNat (own_k cs))) ∧ Fr n0 L ∧ Keep h0 h [a3] ∧ (Arv Z h a3 kB .byte pn ((cs.take (own_k cs)).map fun c => Value.int (StrChars.lo8 c)) (.int 0))
set_option maxRecDepth 65536 in
set_option maxHeartbeats 40000000 in
theorem rmCmp5 (l : Launch) (Z : State) (a0 : Array Value) (hw : ∀ d ∈ tables_1, d.before a0 Z = true) (ws : List Jvm.Cond) (a1 : Addr) (a3 : Addr) (pn : Int32) (kC : ClassId) (kB : ClassId) (cs : List Int32) (dC : Value) (h0 : Heap) (n0 : Nat) (Z0 : n0 ≤ h0.size) (hn : pn = Int32.ofNat cs.length) (hl : cs.length ≤ 5) (hp2 : Arv Z h0 a1 kC .char pn (cs.map Value.int) dC) (hp3 : Arv Z h0 a3 kB .byte pn [] (.int 0)) (hp4 : n0 ≤ a3) (hp5 : a1 ≠ a3) :
    MetFree l y_0 (head1 (Jvm.Cond.code y_0 jdk_52_method_21_code 7 (some .int) :: ws) ({ frames := 0, cells := 0, slots := 0, locals := 0 } : Room)) (fun a U => a = #[(.ref a1), (.int 0), (.ref a3), (.int 0), (.int pn)] ∧ Z.Warmed39 U.vm ∧ U.heap = h0) (fun _ _ _ _ _ => True) (fun _ U o U' => ∃ v L, o = .returned v ∧ Q_rmCmp5 Z a1 a3 pn kC kB cs dC h0 n0 v U'.heap L ∧ FrameEnd U o U' L ({ frames := 0, cells := 0, slots := 0, locals := 0 } : Room).cells ({ frames := 0, cells := 0, slots := 0, locals := 0 } : Room).slots) := by
 refine bodyOf pn_0 (fun m => ef_rmCmp5 m a1 a3 pn) ?_
 intro p e s m below meth c T0 X0 hx hby hml hown hnm hret hk hZ e0
 have N0 := Fr.nil n0
 have K0 : Keep h0 h0 [a3] := Keep.refl _ _
 have ne_a1_a3 := hp5
 refine go (S' := T0.setTop (mkF m 3 #[sr a1, si 0, sr a3, si 0, si pn, si 0, .unset] [])) (fun t k => XS.iconst X0.here hx rfl (hb hby d5_0) (XS.istore X0.here hx rfl (hb hby d5_1) rfl (l' := #[sr a1, si 0, sr a3, si 0, si pn, si 0, .unset]) rfl k)) ?_
 have loop5 : ∀ (r : Nat) (i : Nat) (s6 : Slot) (T : State) (locs : List Loc) (h : Heap), (i + r = cs.length) → (∀ j, j < i → ¬ (255 : Int32) < cs.getD j 0) → (One s6) → Stand p l e ({ frames := 0, cells := 0, slots := 0, locals := 0 } : Room) s m #[(.ref a1), (.int 0), (.ref a3), (.int 0), (.int pn)] below meth c T locs 0 0 → T.heap = h → Fr n0 locs → Keep h0 h [a3] → Arv Z h a1 kC .char pn (cs.map Value.int) dC → Arv Z h a3 kB .byte pn ((cs.take i).map fun c => Value.int (StrChars.lo8 c)) (.int 0) → Goes p.tables e below (EndP s below (Q_rmCmp5 Z a1 a3 pn kC kB cs dC h0 n0) ({ frames := 0, cells := 0, slots := 0, locals := 0 } : Room).cells ({ frames := 0, cells := 0, slots := 0, locals := 0 } : Room).slots) (T.setTop (mkF m 3 #[sr a1, si (Int32.ofNat i), sr a3, si (Int32.ofNat i), si pn, si (Int32.ofNat i), s6] [])) := by
  intro r
  induction r with
  | zero =>
   intro i s6 T locs h hi hbd hs6 X eT N K lf1_0 lf1_1
   refine go (S' := T.setTop (mkF m 7 #[sr a1, si (Int32.ofNat i), sr a3, si (Int32.ofNat i), si pn, si (Int32.ofNat i), s6] [(.int pn), (.int (Int32.ofNat i))])) (fun t k => XS.iload X.here hx rfl (hb hby d5_3) rfl (XS.iload X.here hx rfl (hb hby d5_5) rfl k)) ?_
   have hc2 : ¬ ((Int32.ofNat i) < pn) := by rw [hn]; exact oj_nlt (by omega) (by omega) (by omega)
   refine go (S' := T.setTop (mkF m 46 #[sr a1, si (Int32.ofNat i), sr a3, si (Int32.ofNat i), si pn, si (Int32.ofNat i), s6] [(.int pn)])) (fun t k => XS.icmpYes X.here hx rfl (pc0 := 7) (pc' := 44) rfl (hb hby d5_7) rfl (flt hc2).2.1 (by decide) (by decide) (XS.iload X.here hx rfl (hb hby d5_44) rfl k)) ?_
   refine finI X hx hk hret (hb hby d5_46) (by decide) (by decide) ?_
   have hk5 : own_k cs = i := (own_k_all cs (fun j hj => hbd j (by omega))).trans (by omega)
   rw [eT]
   refine ⟨?_, N, K, ?_⟩
   · rw [hk5, hn, ← (by omega : i = cs.length)]
   · rw [hk5]; exact lf1_1
  | succ r ih =>
   intro i s6 T locs h hi hbd hs6 X eT N K lf1_0 lf1_1
   refine go (S' := T.setTop (mkF m 7 #[sr a1, si (Int32.ofNat i), sr a3, si (Int32.ofNat i), si pn, si (Int32.ofNat i), s6] [(.int pn), (.int (Int32.ofNat i))])) (fun t k => XS.iload X.here hx rfl (hb hby d5_3) rfl (XS.iload X.here hx rfl (hb hby d5_5) rfl k)) ?_
   have hc3 : (Int32.ofNat i) < pn := by rw [hn]; exact oj_lt (by omega) (by omega)
   refine go (S' := T.setTop (mkF m 12 #[sr a1, si (Int32.ofNat i), sr a3, si (Int32.ofNat i), si pn, si (Int32.ofNat i), s6] [(.int (Int32.ofNat i)), (.ref a1)])) (fun t k => XS.icmpNo X.here hx rfl (hb hby d5_7) rfl (tlt hc3).2.1 (XS.aloadN X.here hx rfl (hb hby d5_10) rfl rfl (XS.iloadN X.here hx rfl (hb hby d5_11) rfl k))) ?_
   obtain ⟨cl4, Ar4, q4, S4, M4, H4, G4⟩ := id lf1_0
   have hin4 : ¬ ((Int32.ofNat i) < 0 ∨ cl4.slots.size ≤ ((Int32.ofNat i)).toNatClampNeg) := oj_in S4 hn (by omega) (by omega)
   have hat4 : cl4.slots[((Int32.ofNat i)).toNatClampNeg]? = some (.int (cs.getD i 0)) := Has.at H4 hin4 (by rw [oj_n (by omega)]; exact oj_get cs (by omega) _)
   refine go (S' := T.setTop (mkF m 20 #[sr a1, si (Int32.ofNat i), sr a3, si (Int32.ofNat i), si pn, si (Int32.ofNat i), si (cs.getD i 0)] [(.int 255), (.int (cs.getD i 0))])) (fun t k => X.caload hx (j := (Int32.ofNat i)) (v := (.int (cs.getD i 0))) (by rw [eT]; exact Ar4.1) (State.isArrayOf_alike hZ.alike Ar4.2.1) Ar4.2.2 hin4 hat4 (g := (mkF m 12 #[sr a1, si (Int32.ofNat i), sr a3, si (Int32.ofNat i), si pn, si (Int32.ofNat i), s6] [(.int (Int32.ofNat i)), (.ref a1)])) rfl rfl (hb hby d5_12) _ (XS.istore X.here hx rfl (hb hby d5_13) rfl (l' := #[sr a1, si (Int32.ofNat i), sr a3, si (Int32.ofNat i), si pn, si (Int32.ofNat i), si (cs.getD i 0)]) (XS.store1 rfl hs6 rfl) (XS.iload X.here hx rfl (hb hby d5_15) rfl (XS.sipush X.here hx rfl (hb hby d5_17) k)))) ?_
   by_cases hc5 : (255 : Int32) < (cs.getD i 0)
   ·
    refine go (S' := T.setTop (mkF m 25 #[sr a1, si (Int32.ofNat i), sr a3, si (Int32.ofNat i), si pn, si (Int32.ofNat i), si (cs.getD i 0)] [(.int (Int32.ofNat i))])) (fun t k => XS.icmpNo X.here hx rfl (hb hby d5_20) rfl (tlt hc5).2.2.2 (XS.iload X.here hx rfl (hb hby d5_23) rfl k)) ?_
    refine finI X hx hk hret (hb hby d5_25) (by decide) (by decide) ?_
    have hk5 : own_k cs = i := own_k_at cs i hbd (by omega) hc5
    rw [eT]
    refine ⟨?_, N, K, ?_⟩
    · rw [hk5]
    · rw [hk5]; exact lf1_1
   ·
    refine go (S' := T.setTop (mkF m 31 #[sr a1, si (Int32.ofNat i), sr a3, si (Int32.ofNat i), si pn, si (Int32.ofNat i), si (cs.getD i 0)] [(.int ((cs.getD i 0).toInt8.toInt32)), (.int (Int32.ofNat i)), (.ref a3)])) (fun t k => XS.icmpYes X.here hx rfl (pc0 := 20) (pc' := 26) rfl (hb hby d5_20) rfl (flt hc5).2.2.2 (by decide) (by decide) (XS.aloadN X.here hx rfl (hb hby d5_26) rfl rfl (XS.iloadN X.here hx rfl (hb hby d5_27) rfl (XS.iload X.here hx rfl (hb hby d5_28) rfl (XS.i2b X.here hx rfl (hb hby d5_30) rfl k))))) ?_
    obtain ⟨cl6, Ar6, q6, S6, M6, H6, G6⟩ := id lf1_1
    have hin6 : ¬ ((Int32.ofNat i) < 0 ∨ cl6.slots.size ≤ ((Int32.ofNat i)).toNatClampNeg) := oj_in S6 hn (by omega) (by omega)
    obtain ⟨T6, h6, X6, e6, W6, st6⟩ := stB X hx hZ eT Ar6 (j := (Int32.ofNat i)) hin6 (g := (mkF m 31 #[sr a1, si (Int32.ofNat i), sr a3, si (Int32.ofNat i), si pn, si (Int32.ofNat i), si (cs.getD i 0)] [(.int ((cs.getD i 0).toInt8.toInt32)), (.int (Int32.ofNat i)), (.ref a3)])) rfl rfl (hb hby d5_31)
    have V6 : Arv Z h6 a3 kB .byte pn ((cs.take (i + 1)).map fun c => Value.int (StrChars.lo8 c)) (.int 0) := by
     have q := arvSnoc Ar6 q6 S6 M6 H6 G6 (fits_nar_byte _) W6 (by rw [oj_n (by omega)]; simp; omega)
     (first | rw [oj_narb] at q | rw [oj_bb] at q); rw [← StrChars.lo8] at q; rw [← oj_take cs (by omega)]; exact q
    have K7 : Keep h0 h6 [a3] := K.wr W6 (Or.inl (List.mem_of_getElem? (i := 0) rfl))
    have N8 := Fr.snoc X6 N hp4
    refine go (S' := T6.setTop (mkF m 3 #[sr a1, si ((Int32.ofNat i) + (1 : Int32)), sr a3, si ((Int32.ofNat i) + (1 : Int32)), si pn, si ((Int32.ofNat i) + (1 : Int32)), si (cs.getD i 0)] [])) (fun t k => st6 _ (XS.iinc X6.here hx rfl (hb hby d5_32) rfl (l' := #[sr a1, si ((Int32.ofNat i) + (1 : Int32)), sr a3, si (Int32.ofNat i), si pn, si (Int32.ofNat i), si (cs.getD i 0)]) rfl (XS.iinc X6.here hx rfl (hb hby d5_35) rfl (l' := #[sr a1, si ((Int32.ofNat i) + (1 : Int32)), sr a3, si ((Int32.ofNat i) + (1 : Int32)), si pn, si (Int32.ofNat i), si (cs.getD i 0)]) rfl (XS.iinc X6.here hx rfl (hb hby d5_38) rfl (l' := #[sr a1, si ((Int32.ofNat i) + (1 : Int32)), sr a3, si ((Int32.ofNat i) + (1 : Int32)), si pn, si ((Int32.ofNat i) + (1 : Int32)), si (cs.getD i 0)]) rfl (XS.goto X6.here hx rfl (pc0 := 41) (pc' := 3) rfl (hb hby d5_41) (by decide) (by decide) k))))) ?_
    rw [oj_one i]
    have f9 : Arv Z h6 a1 kC .char pn (cs.map Value.int) dC := (lf1_0.other W6 ne_a1_a3)
    exact ih (i + 1) _ _ _ _ (by omega) (fun j hj => by by_cases qj : j < i; exact hbd j qj; rw [(by omega : j = i)]; exact hc5) (One.val rfl) X6 e6 N8 K7 f9 V6
 exact loop5 cs.length 0 _ _ _ _ (Nat.zero_add _) (fun j hj => absurd hj (Nat.not_lt_zero _)) One.u X0 e0 N0 K0 hp2 hp3
theorem d4_0 : decode jdk_52_method_16_code 0 = .ok (.iload_n 2, 1) := by decide +kernel
theorem d4_1 : decode jdk_52_method_16_code 1 = .ok (.newarray .byte, 2) := by decide +kernel
theorem d4_3 : decode jdk_52_method_16_code 3 = .ok (.astore_n 3, 1) := by decide +kernel
theorem d4_4 : decode jdk_52_method_16_code 4 = .ok (.aload_n 0, 1) := by decide +kernel
theorem d4_5 : decode jdk_52_method_16_code 5 = .ok (.iload_n 1, 1) := by decide +kernel
theorem d4_6 : decode jdk_52_method_16_code 6 = .ok (.aload_n 3, 1) := by decide +kernel
theorem d4_7 : decode jdk_52_method_16_code 7 = .ok (.iconst 0, 1) := by decide +kernel
theorem d4_8 : decode jdk_52_method_16_code 8 = .ok (.iload_n 2, 1) := by decide +kernel
theorem d4_9 : decode jdk_52_method_16_code 9 = .ok (.invokestatic 115, 3) := by decide +kernel
theorem pd_0 : parseMethodDescriptor "([CI[BII)I" = some ⟨[(.array .char), .int, (.array .byte), .int, .int], some .int⟩ := by decide +kernel
theorem d4_12 : decode jdk_52_method_16_code 12 = .ok (.istore 4, 2) := by decide +kernel
theorem d4_14 : decode jdk_52_method_16_code 14 = .ok (.iload 4, 2) := by decide +kernel
theorem d4_16 : decode jdk_52_method_16_code 16 = .ok (.iload_n 2, 1) := by decide +kernel
theorem d4_17 : decode jdk_52_method_16_code 17 = .ok (.if_icmp .eq 40, 3) := by decide +kernel
theorem d4_57 : decode jdk_52_method_16_code 57 = .ok (.aload_n 3, 1) := by decide +kernel
theorem d4_58 : decode jdk_52_method_16_code 58 = .ok (.areturn, 1) := by decide +kernel
abbrev y_1 : MethodName := ⟨"java/lang/StringUTF16", "compress", "([CII)[B"⟩
theorem pn_1 : plainFor y_1 = true := by first | exact plainFor_of_name (by first | (simp [plainName, overriddenIn]; done) | decide +kernel) | decide +kernel
theorem ef_rmCmp3 (m : MethodId) (a1 : Addr) (pn : Int32) : entryFrame m #[(.ref a1), (.int 0), (.int pn)] 6 = mkF m 0 #[sr a1, si 0, si pn, .unset, .unset, .unset] [] := by first | (simp [entryFrame, mkF, argsToLocals, Value.category]; done) | rfl
def Q_rmCmp3 (Z : State) (a1 : Addr) (pn : Int32) (kC : ClassId) (cs : List Int32) (dC : Value) (h0 : Heap) (n0 : Nat) (v : Option Value) (h : Heap) (L : List Loc) : Prop := ∃ (t : Addr), ∃ (kb : ClassId), ∃ (cd : Int32), ∃ (N2 : Int32), ∃ (vs : List Value), v = some (.ref t) ∧ Fr n0 L ∧ Keep h0 h [] ∧ (h0.size ≤ t) ∧ (Arv Z h t kb .byte N2 vs (.int 0)) ∧ (StrChars.Road.CodA cs cd N2 vs) ∧ (Exa Z h t "[B")
set_option maxRecDepth 65536 in
set_option maxHeartbeats 40000000 in
theorem rmCmp3 (l : Launch) (Z : State) (a0 : Array Value) (hw : ∀ d ∈ tables_1, d.before a0 Z = true) (ws : List Jvm.Cond) (a1 : Addr) (pn : Int32) (kC : ClassId) (cs : List Int32) (dC : Value) (h0 : Heap) (n0 : Nat) (Z0 : n0 ≤ h0.size) (hn : pn = Int32.ofNat cs.length) (hl : cs.length ≤ 5) (hpc : ∀ c ∈ cs, ¬ c < 0 ∧ ¬ (65535 : Int32) < c) (hlat : ∀ c ∈ cs, ¬ (255 : Int32) < c) (hp4 : Arv Z h0 a1 kC .char pn (cs.map Value.int) dC) :
    MetFree l y_1 (head1 (Jvm.Cond.code y_1 jdk_52_method_16_code 6 (some (.array .byte)) :: ws) ({ frames := 1, cells := 1, slots := 5, locals := 18 } : Room)) (fun a U => a = #[(.ref a1), (.int 0), (.int pn)] ∧ Z.Warmed39 U.vm ∧ U.heap = h0) (fun _ _ _ _ _ => True) (fun _ U o U' => ∃ v L, o = .returned v ∧ Q_rmCmp3 Z a1 pn kC cs dC h0 n0 v U'.heap L ∧ FrameEnd U o U' L ({ frames := 1, cells := 1, slots := 5, locals := 18 } : Room).cells ({ frames := 1, cells := 1, slots := 5, locals := 18 } : Room).slots) := by
 refine bodyOf pn_1 (fun m => ef_rmCmp3 m a1 pn) ?_
 intro p e s m below meth c T0 X0 hx hby hml hown hnm hret hk hZ e0
 have N0 := Fr.nil n0
 have K0 : Keep h0 h0 [] := Keep.refl _ _
 refine go (S' := T0.setTop (mkF m 1 #[sr a1, si 0, si pn, .unset, .unset, .unset] [(.int pn)])) (fun t k => XS.iloadN X0.here hx rfl (hb hby d4_0) rfl k) ?_
 obtain ⟨T10, h10, k10, X10, e10, E10, A10, AE10, st10⟩ := newPE X0 hx hZ (ww hw 20 rfl) e0 (g := (mkF m 1 #[sr a1, si 0, si pn, .unset, .unset, .unset] [(.int pn)])) rfl (hb hby d4_1) rfl (by rw [hn]; exact oj_nn (by omega)) (cap := 5) (by rw [hn, oj_n (by omega)]; omega) (by decide) (by decide) (by decide) (ad := "[B") (by decide)
 obtain ⟨b10, g10⟩ : ∃ z, z = h0.size := ⟨_, rfl⟩
 rw [← g10] at A10 AE10 st10
 have lt_a1_b10 : a1 < b10 := by rw [g10]; exact hp4.lt
 have ge_b10 : n0 ≤ b10 := by rw [g10]; exact (Nat.le_trans Z0 K0.1)
 have sz_b10 : h0.size ≤ b10 := by rw [g10]; exact K0.1
 have K11 : Keep h0 h10 [] := K0.ext E10
 have V10 : Arv Z h10 b10 k10 .byte pn [] (.int 0) := Arv.new A10 (by rw [hn]; exact oj_nn (by omega))
 refine go (S' := T10.setTop (mkF m 9 #[sr a1, si 0, si pn, sr b10, .unset, .unset] [(.int pn), (.int 0), (.ref b10), (.int 0), (.ref a1)])) (fun t k => st10 _ (XS.astoreN X10.here hx rfl (hb hby d4_3) rfl rfl (l' := #[sr a1, si 0, si pn, sr b10, .unset, .unset]) rfl (XS.aloadN X10.here hx rfl (hb hby d4_4) rfl rfl (XS.iloadN X10.here hx rfl (hb hby d4_5) rfl (XS.aloadN X10.here hx rfl (hb hby d4_6) rfl rfl (XS.iconst X10.here hx rfl (hb hby d4_7) (XS.iloadN X10.here hx rfl (hb hby d4_8) rfl k))))))) ?_
 obtain ⟨v12, T12, L12, X12, hQ12, st12⟩ := callSt X10 hx hZ (y := y_0) hown (ww hw 21 rfl) (ww hw 22 rfl) (ww hw 18 rfl) (ww hw 23 rfl) (by decide) (backOf (W := 0) (rmCmp5 l Z a0 hw [] a1 b10 pn kC k10 cs dC h10 n0 (Nat.le_trans Z0 K11.1) hn hl (hp4.keep K11 nin0) V10 ge_b10 (Nat.ne_of_lt lt_a1_b10)) hZ (ww hw 23 rfl) (ww hw 18 rfl) (by decide) (by decide)) (g := (mkF m 9 #[sr a1, si 0, si pn, sr b10, .unset, .unset] [(.int pn), (.int 0), (.ref b10), (.int 0), (.ref a1)])) rfl (by rw [hml]; rfl) (kc := 0) (ks := 0) (argsL := [(.ref a1), (.int 0), (.ref b10), (.int 0), (.int pn)]) (rest := []) (lenOf pd_0 rfl) rfl (mr0 rfl) (hb hby d4_9) e10 (by decide) (by decide)
 obtain ⟨rfl, N12q, Kq12, q12_0⟩ := hQ12
 have N12 := Fr.app N0 N12q
 have K13 : Keep h0 T12.heap [] := K11.trans Kq12 (allS (P := fun x => x ∈ [] ∨ h0.size ≤ x) (Or.inr sz_b10) all0)
 refine go (S' := T12.setTop (mkF m 17 #[sr a1, si 0, si pn, sr b10, si (Int32.ofNat (own_k cs)), .unset] [(.int pn), (.int (Int32.ofNat (own_k cs)))])) (fun t k => st12 _ (XS.istore X12.here hx rfl (hb hby d4_12) rfl (l' := #[sr a1, si 0, si pn, sr b10, si (Int32.ofNat (own_k cs)), .unset]) rfl (XS.iload X12.here hx rfl (hb hby d4_14) rfl (XS.iloadN X12.here hx rfl (hb hby d4_16) rfl k)))) ?_
 by_cases hq : own_k cs = cs.length
 ·
  have hqq : (Int32.ofNat (own_k cs)) = pn := by rw [hn, hq]
  refine go (S' := T12.setTop (mkF m 58 #[sr a1, si 0, si pn, sr b10, si (Int32.ofNat (own_k cs)), .unset] [(.ref b10)])) (fun t k => XS.icmpYes X12.here hx rfl (pc0 := 17) (pc' := 57) rfl (hb hby d4_17) rfl (teq hqq).1 (by decide) (by decide) (XS.aloadN X12.here hx rfl (hb hby d4_57) rfl rfl k)) ?_
  refine finR X12 hx hk hret rfl rfl (hb hby d4_58) (by decide) (by decide) ?_
  have hV : (cs.take (own_k cs)) = cs := List.take_of_length_le (by omega)
  have f14 : Exa Z T12.heap b10 "[B" := (AE10.keep Kq12)
  exact ⟨b10, k10, 0, pn, _, rfl, N12, K13, sz_b10, q12_0, Or.inl ⟨rfl, hn, by rw [hV], own_k_lo cs hq⟩, f14⟩
 ·
  exact absurd (own_k_all cs fun j hj => hlat _ (oj_mem hj)) hq
theorem d6_0 : decode jdk_52_method_15_code 0 = .ok (.iload_n 1, 1) := by decide +kernel
theorem d6_1 : decode jdk_52_method_15_code 1 = .ok (.aload_n 0, 1) := by decide +kernel
theorem d6_2 : decode jdk_52_method_15_code 2 = .ok (.arraylength, 1) := by decide +kernel
theorem d6_3 : decode jdk_52_method_15_code 3 = .ok (.isub, 1) := by decide +kernel
theorem d6_4 : decode jdk_52_method_15_code 4 = .ok (.bipush 31, 2) := by decide +kernel
theorem d6_6 : decode jdk_52_method_15_code 6 = .ok (.iushr, 1) := by decide +kernel
theorem d6_7 : decode jdk_52_method_15_code 7 = .ok (.i2b, 1) := by decide +kernel
theorem d6_8 : decode jdk_52_method_15_code 8 = .ok (.ireturn, 1) := by decide +kernel
abbrev y_2 : MethodName := ⟨"java/lang/StringUTF16", "coderFromArrayLen", "([BI)B"⟩
theorem pn_2 : plainFor y_2 = true := by first | exact plainFor_of_name (by first | (simp [plainName, overriddenIn]; done) | decide +kernel) | decide +kernel
theorem ef_rmCfl (m : MethodId) (a1 : Addr) (pn : Int32) : entryFrame m #[(.ref a1), (.int pn)] 2 = mkF m 0 #[sr a1, si pn] [] := by first | (simp [entryFrame, mkF, argsToLocals, Value.category]; done) | rfl
def Q_rmCfl (Z : State) (a1 : Addr) (pn : Int32) (kb : ClassId) (cd : Int32) (N2 : Int32) (vs : List Value) (cs : List Int32) (h0 : Heap) (n0 : Nat) (v : Option Value) (h : Heap) (L : List Loc) : Prop := v = some (.int cd) ∧ Fr n0 L ∧ h = h0
set_option maxRecDepth 65536 in
set_option maxHeartbeats 40000000 in
theorem rmCfl (l : Launch) (Z : State) (a0 : Array Value) (hw : ∀ d ∈ tables_1, d.before a0 Z = true) (ws : List Jvm.Cond) (a1 : Addr) (pn : Int32) (kb : ClassId) (cd : Int32) (N2 : Int32) (vs : List Value) (cs : List Int32) (h0 : Heap) (n0 : Nat) (Z0 : n0 ≤ h0.size) (hp0 : Arv Z h0 a1 kb .byte N2 vs (.int 0)) (hcod : StrChars.Road.CodA cs cd N2 vs) (hn : pn = Int32.ofNat cs.length) (hl : cs.length ≤ 4000) (hl0 : 0 < cs.length) :
    MetFree l y_2 (head1 (Jvm.Cond.code y_2 jdk_52_method_15_code 2 (some .byte) :: ws) ({ frames := 0, cells := 0, slots := 0, locals := 0 } : Room)) (fun a U => a = #[(.ref a1), (.int pn)] ∧ Z.Warmed39 U.vm ∧ U.heap = h0) (fun _ _ _ _ _ => True) (fun _ U o U' => ∃ v L, o = .returned v ∧ Q_rmCfl Z a1 pn kb cd N2 vs cs h0 n0 v U'.heap L ∧ FrameEnd U o U' L ({ frames := 0, cells := 0, slots := 0, locals := 0 } : Room).cells ({ frames := 0, cells := 0, slots := 0, locals := 0 } : Room).slots) := by
 refine bodyOf pn_2 (fun m => ef_rmCfl m a1 pn) ?_
 intro p e s m below meth c T0 X0 hx hby hml hown hnm hret hk hZ e0
 have N0 := Fr.nil n0
 have K0 : Keep h0 h0 [] := Keep.refl _ _
 refine go (S' := T0.setTop (mkF m 2 #[sr a1, si pn] [(.ref a1), (.int pn)])) (fun t k => XS.iloadN X0.here hx rfl (hb hby d6_0) rfl (XS.aloadN X0.here hx rfl (hb hby d6_1) rfl rfl k)) ?_
 obtain ⟨cl15, Ar15, -, S15, M15, -, -⟩ := id hp0
 refine go (S' := T0.setTop (mkF m 8 #[sr a1, si pn] [(.int ((((pn - N2).toUInt32 >>> ((31 : Int32) &&& 31).toUInt32).toInt32).toInt8.toInt32))])) (fun t k => X0.arraylength hx (by rw [e0]; exact Ar15.1) (State.isArrayOf_alike hZ.alike Ar15.2.1) (g := (mkF m 2 #[sr a1, si pn] [(.ref a1), (.int pn)])) rfl rfl (hb hby d6_2) _ (by rw [len_of S15 M15]; exact (XS.isub X0.here hx rfl (hb hby d6_3) rfl (XS.bipush X0.here hx rfl (hb hby d6_4) (XS.iushr X0.here hx rfl (hb hby d6_6) rfl (XS.i2b X0.here hx rfl (hb hby d6_7) rfl k)))))) ?_
 refine finN X0 hx hk (t := .byte) hret (by simp) (hb hby d6_8) (by decide) (by decide) ?_
 rw [e0]
 exact ⟨(congrArg (fun z => some (Value.int z)) (by rcases hcod with ⟨q1, q2, -⟩ | ⟨q1, q2, -⟩; rw [hn, q1, q2]; exact oj_cod0 hl; rw [hn, q1, q2]; exact oj_cod1 hl0 hl)), N0, rfl⟩
theorem d2_0 : decode jdk_42_method_149_code 0 = .ok (.aload_n 0, 1) := by decide +kernel
theorem d2_1 : decode jdk_42_method_149_code 1 = .ok (.invokespecial 1, 3) := by decide +kernel
theorem d2_4 : decode jdk_42_method_149_code 4 = .ok (.iload_n 3, 1) := by decide +kernel
theorem d2_5 : decode jdk_42_method_149_code 5 = .ok (.ifCond .ne 22, 3) := by decide +kernel
theorem d2_27 : decode jdk_42_method_149_code 27 = .ok (.getstatic 38, 3) := by decide +kernel
theorem d2_30 : decode jdk_42_method_149_code 30 = .ok (.ifCond .eq 28, 3) := by decide +kernel
theorem d2_33 : decode jdk_42_method_149_code 33 = .ok (.aload_n 1, 1) := by decide +kernel
theorem d2_34 : decode jdk_42_method_149_code 34 = .ok (.iload_n 2, 1) := by decide +kernel
theorem d2_35 : decode jdk_42_method_149_code 35 = .ok (.iload_n 3, 1) := by decide +kernel
theorem d2_36 : decode jdk_42_method_149_code 36 = .ok (.invokestatic 177, 3) := by decide +kernel
theorem pd_1 : parseMethodDescriptor "([CII)[B" = some ⟨[(.array .char), .int, .int], some (.array .byte)⟩ := by decide +kernel
theorem d2_39 : decode jdk_42_method_149_code 39 = .ok (.astore 5, 2) := by decide +kernel
theorem d2_41 : decode jdk_42_method_149_code 41 = .ok (.aload_n 0, 1) := by decide +kernel
theorem d2_42 : decode jdk_42_method_149_code 42 = .ok (.aload 5, 2) := by decide +kernel
theorem d2_44 : decode jdk_42_method_149_code 44 = .ok (.iload_n 3, 1) := by decide +kernel
theorem d2_45 : decode jdk_42_method_149_code 45 = .ok (.invokestatic 47, 3) := by decide +kernel
theorem pd_2 : parseMethodDescriptor "([BI)B" = some ⟨[(.array .byte), .int], some .byte⟩ := by decide +kernel
theorem d2_48 : decode jdk_42_method_149_code 48 = .ok (.putfield 15, 3) := by decide +kernel
theorem d2_51 : decode jdk_42_method_149_code 51 = .ok (.aload_n 0, 1) := by decide +kernel
theorem d2_52 : decode jdk_42_method_149_code 52 = .ok (.aload 5, 2) := by decide +kernel
theorem d2_54 : decode jdk_42_method_149_code 54 = .ok (.putfield 9, 3) := by decide +kernel
theorem d2_57 : decode jdk_42_method_149_code 57 = .ok (.return_, 1) := by decide +kernel
abbrev y_3 : MethodName := ⟨"java/lang/String", "<init>", "([CIILjava/lang/Void;)V"⟩
theorem pn_3 : plainFor y_3 = true := by first | exact plainFor_of_name (by first | (simp [plainName, overriddenIn]; done) | decide +kernel) | decide +kernel
theorem ef_rmInit4 (m : MethodId) (x1 : Addr) (b1 : Addr) (pn : Int32) : entryFrame m #[(.ref x1), (.ref b1), (.int 0), (.int pn), .null] 6 = mkF m 0 #[sr x1, sr b1, si 0, si pn, .val .null, .unset] [] := by first | (simp [entryFrame, mkF, argsToLocals, Value.category]; done) | rfl
def Q_rmInit4 (Z : State) (x1 : Addr) (b1 : Addr) (pn : Int32) (kC : ClassId) (cs : List Int32) (dC : Value) (G1 : Int32) (h0 : Heap) (n0 : Nat) (v : Option Value) (h : Heap) (L : List Loc) : Prop := ∃ (t : Addr), ∃ (cd : Int32), v = none ∧ Fr n0 L ∧ Keep h0 h [x1] ∧ (h0.size ≤ t) ∧ (t ≠ x1) ∧ (Str Z h x1 t cd cs) ∧ (Fld Z h x1 "java/lang/String" "hash" "I" (.int 0)) ∧ (Fld Z h x1 "java/lang/String" "hashIsZero" "Z" (.int 0)) ∧ (Exa Z h t "[B")
set_option maxRecDepth 65536 in
set_option maxHeartbeats 40000000 in
theorem rmInit4 (l : Launch) (Z : State) (a0 : Array Value) (hw : ∀ d ∈ tables_1, d.before a0 Z = true) (ws : List Jvm.Cond) (x1 : Addr) (b1 : Addr) (pn : Int32) (kC : ClassId) (cs : List Int32) (dC : Value) (G1 : Int32) (h0 : Heap) (n0 : Nat) (Z0 : n0 ≤ h0.size) (hn : pn = Int32.ofNat cs.length) (hl : cs.length ≤ 5) (hl0 : 0 < cs.length) (hpc : ∀ c ∈ cs, ¬ c < 0 ∧ ¬ (65535 : Int32) < c) (hlat : ∀ c ∈ cs, ¬ (255 : Int32) < c) (hp5 : Arv Z h0 b1 kC .char pn (cs.map Value.int) dC) (hp6 : Exa Z h0 x1 "java/lang/String") (hp7 : Fld Z h0 x1 "java/lang/String" "value" "[B" .null) (hp8 : Fld Z h0 x1 "java/lang/String" "coder" "B" (.int 0)) (hp9 : n0 ≤ x1) (hp10 : x1 ≠ b1) (hp11 : Fld Z h0 x1 "java/lang/String" "hash" "I" (.int 0)) (hp12 : Fld Z h0 x1 "java/lang/String" "hashIsZero" "Z" (.int 0)) (hp13 : Sta Z Z.heap "java/lang/String" "COMPACT_STRINGS" "Z" (.int G1)) (hG1 : ¬ (G1 = (0 : Int32))) (hp15 : Old Z n0 h0) :
    MetFree l y_3 (head1 (Jvm.Cond.code y_3 jdk_42_method_149_code 6 none :: ws) ({ frames := 2, cells := 1, slots := 5, locals := 35 } : Room)) (fun a U => a = #[(.ref x1), (.ref b1), (.int 0), (.int pn), .null] ∧ Z.Warmed39 U.vm ∧ U.heap = h0) (fun _ _ _ _ _ => True) (fun _ U o U' => ∃ v L, o = .returned v ∧ Q_rmInit4 Z x1 b1 pn kC cs dC G1 h0 n0 v U'.heap L ∧ FrameEnd U o U' L ({ frames := 2, cells := 1, slots := 5, locals := 35 } : Room).cells ({ frames := 2, cells := 1, slots := 5, locals := 35 } : Room).slots) := by
 refine bodyOf pn_3 (fun m => ef_rmInit4 m x1 b1 pn) ?_
 intro p e s m below meth c T0 X0 hx hby hml hown hnm hret hk hZ e0
 have N0 := Fr.nil n0
 have K0 : Keep h0 h0 [x1] := Keep.refl _ _
 have ne_x1_b1 := hp10
 have O0 := hp15
 have hne0 : ¬ (pn = (0 : Int32)) := fun q => absurd (oj_inj (i := cs.length) (n := 0) (by omega) (by omega) (hn.symm.trans (q.trans (rfl : (0 : Int32) = Int32.ofNat 0)))) (by omega)
 refine go (S' := T0.setTop (mkF m 1 #[sr x1, sr b1, si 0, si pn, .val .null, .unset] [(.ref x1)])) (fun t k => XS.aloadN X0.here hx rfl (hb hby d2_0) rfl rfl k) ?_
 obtain ⟨T16, X16, e16, st16⟩ := initO X0 hx hZ hown (ww hw 12 rfl) (ww hw 13 rfl) (ww hw 14 rfl) e0 (g := (mkF m 1 #[sr x1, sr b1, si 0, si pn, .val .null, .unset] [(.ref x1)])) rfl (by rw [hml]; rfl) rfl (hb hby d2_1) (by decide) (W := 0) (mr0 rfl) (by decide)
 refine go (S' := T16.setTop (mkF m 27 #[sr x1, sr b1, si 0, si pn, .val .null, .unset] [])) (fun t k => st16 _ (XS.iloadN X16.here hx rfl (hb hby d2_4) rfl (XS.ifYes X16.here hx rfl (pc0 := 5) (pc' := 27) rfl (hb hby d2_5) rfl ((if0 _ _).trans (feq hne0).2) (by decide) (by decide) k))) ?_
 have O18 : Old Z n0 h0 := O0.keep K0 (allS hp9 all0)
 obtain ⟨T17, X17, e17, st17⟩ := getS2 X16 hx hZ hown (host := "") (Or.inl (ww hw 15 rfl)) Via.refl e16 (hp13.ext O18.2) (g := (mkF m 27 #[sr x1, sr b1, si 0, si pn, .val .null, .unset] [])) rfl (hb hby d2_27)
 refine go (S' := T17.setTop (mkF m 36 #[sr x1, sr b1, si 0, si pn, .val .null, .unset] [(.int pn), (.int 0), (.ref b1)])) (fun t k => st17 _ (XS.ifNo X17.here hx rfl (hb hby d2_30) rfl ((if0 _ _).trans (feq hG1).1) (XS.aloadN X17.here hx rfl (hb hby d2_33) rfl rfl (XS.iloadN X17.here hx rfl (hb hby d2_34) rfl (XS.iloadN X17.here hx rfl (hb hby d2_35) rfl k))))) ?_
 obtain ⟨v19, T19, L19, X19, hQ19, st19⟩ := callSt X17 hx hZ (y := y_1) hown (ww hw 16 rfl) (ww hw 17 rfl) (ww hw 18 rfl) (ww hw 19 rfl) (by decide) (backOf (W := 0) (rmCmp3 l Z a0 hw [] b1 pn kC cs dC h0 n0 (Nat.le_trans Z0 K0.1) hn hl hpc hlat hp5) hZ (ww hw 19 rfl) (ww hw 18 rfl) (by decide) (by decide)) (g := (mkF m 36 #[sr x1, sr b1, si 0, si pn, .val .null, .unset] [(.int pn), (.int 0), (.ref b1)])) rfl (by rw [hml]; rfl) (kc := 1) (ks := 5) (argsL := [(.ref b1), (.int 0), (.int pn)]) (rest := []) (lenOf pd_1 rfl) rfl (mr0 rfl) (hb hby d2_36) e17 (by decide) (by decide)
 obtain ⟨t_19, kb_19, cd_19, N2_19, vs_19, rfl, N19q, Kq19, q19_0, q19_1, q19_2, q19_3⟩ := hQ19
 have N19 := Fr.app N0 N19q
 have K20 : Keep h0 T19.heap [x1] := K0.trans Kq19 all0
 have lt_b1_t_19 : b1 < t_19 := Nat.lt_of_lt_of_le hp5.lt q19_0
 have lt_x1_t_19 : x1 < t_19 := Nat.lt_of_lt_of_le hp6.lt q19_0
 have sz_t_19 : h0.size ≤ t_19 := Nat.le_trans K0.1 q19_0
 have ge_t_19 : n0 ≤ t_19 := Nat.le_trans Z0 sz_t_19
 refine go (S' := T19.setTop (mkF m 45 #[sr x1, sr b1, si 0, si pn, .val .null, sr t_19] [(.int pn), (.ref t_19), (.ref x1)])) (fun t k => st19 _ (XS.astore X19.here hx rfl (hb hby d2_39) rfl rfl (l' := #[sr x1, sr b1, si 0, si pn, .val .null, sr t_19]) rfl (XS.aloadN X19.here hx rfl (hb hby d2_41) rfl rfl (XS.aload X19.here hx rfl (hb hby d2_42) rfl rfl (XS.iloadN X19.here hx rfl (hb hby d2_44) rfl k))))) ?_
 obtain ⟨v21, T21, L21, X21, hQ21, st21⟩ := callSt X19 hx hZ (y := y_2) hown (ww hw 24 rfl) (ww hw 25 rfl) (ww hw 18 rfl) (ww hw 26 rfl) (by decide) (backOf (W := 1) (rmCfl l Z a0 hw [] t_19 pn kb_19 cd_19 N2_19 vs_19 cs T19.heap n0 (Nat.le_trans Z0 K20.1) q19_1 q19_2 hn (by omega) hl0) hZ (ww hw 26 rfl) (ww hw 18 rfl) (by decide) (by decide)) (g := (mkF m 45 #[sr x1, sr b1, si 0, si pn, .val .null, sr t_19] [(.int pn), (.ref t_19), (.ref x1)])) rfl (by rw [hml]; rfl) (kc := 0) (ks := 0) (argsL := [(.ref t_19), (.int pn)]) (rest := [(.ref x1)]) (lenOf pd_2 rfl) rfl (mr0 rfl) (hb hby d2_45) rfl (by decide) (by decide)
 obtain ⟨rfl, N21q, e21⟩ := hQ21
 have N21 := Fr.app N19 N21q
 refine go (S' := T21.setTop (mkF m 48 #[sr x1, sr b1, si 0, si pn, .val .null, sr t_19] [(.int cd_19), (.ref x1)])) st21 ?_
 have hcd : cd_19 = 0 ∨ cd_19 = 1 := q19_2.imp (·.1) (·.1)
 have f22 : Fld Z T19.heap x1 "java/lang/String" "coder" "B" (.int 0) := (hp8.keep Kq19 nin0)
 obtain ⟨T23, h23, X23, e23, W23, st23⟩ := putF X21 hx hZ hown (host := "") (Or.inl (ww hw 27 rfl)) Via.refl e21 f22 (hp6.keep K20) (Or.inr ⟨(ww hw 28 rfl), rfl, hnm⟩) (ww hw 3 rfl) (ty := .byte) (by decide) (by rcases hcd with q | q <;> rw [q] <;> rfl) (by rcases hcd with q | q <;> rw [q] <;> rfl) (g := (mkF m 48 #[sr x1, sr b1, si 0, si pn, .val .null, sr t_19] [(.int cd_19), (.ref x1)])) rfl rfl (hb hby d2_48)
 have K24 : Keep h0 h23 [x1] := K20.wr W23 (Or.inl (List.mem_of_getElem? (i := 0) rfl))
 have N25 := Fr.snoc X23 N21 hp9
 have f26 : Fld Z h23 x1 "java/lang/String" "coder" "B" (.int cd_19) := (Fld.same W23 f22)
 refine go (S' := T23.setTop (mkF m 54 #[sr x1, sr b1, si 0, si pn, .val .null, sr t_19] [(.ref t_19), (.ref x1)])) (fun t k => st23 _ (XS.aloadN X23.here hx rfl (hb hby d2_51) rfl rfl (XS.aload X23.here hx rfl (hb hby d2_52) rfl rfl k))) ?_
 have f27 : Fld Z h23 x1 "java/lang/String" "value" "[B" .null := (Fld.other W23 (hp7.keep Kq19 nin0) (Or.inr (slot_ne (Or.inr (ww hw 30 rfl)) (Or.inr (ww hw 28 rfl)) (by decide) (t := (.array .byte)) (t' := .byte) (by decide) (by decide))))
 obtain ⟨T28, h28, X28, e28, W28, st28⟩ := putF X23 hx hZ hown (host := "") (Or.inl (ww hw 29 rfl)) Via.refl e23 f27 (hp6.keep K24) (Or.inr ⟨(ww hw 30 rfl), rfl, hnm⟩) (ww hw 3 rfl) (ty := (.array .byte)) (by decide) rfl rfl (g := (mkF m 54 #[sr x1, sr b1, si 0, si pn, .val .null, sr t_19] [(.ref t_19), (.ref x1)])) rfl rfl (hb hby d2_54)
 have K29 : Keep h0 h28 [x1] := K24.wr W28 (Or.inl (List.mem_of_getElem? (i := 0) rfl))
 have N30 := Fr.snoc X28 N25 hp9
 have f31 : Fld Z h28 x1 "java/lang/String" "value" "[B" (.ref t_19) := (Fld.same W28 f27)
 refine go (S' := T28.setTop (mkF m 57 #[sr x1, sr b1, si 0, si pn, .val .null, sr t_19] [])) st28 ?_
 refine finV X28 hx hk hret (hb hby d2_57) (by decide) (by decide) ?_
 have f32 : Fld Z h28 x1 "java/lang/String" "coder" "B" (.int cd_19) := (Fld.other W28 f26 (Or.inr (slot_ne (Or.inr (ww hw 28 rfl)) (Or.inr (ww hw 30 rfl)) (by decide) (t := .byte) (t' := (.array .byte)) (by decide) (by decide))))
 have f33 : Arv Z h28 t_19 kb_19 .byte N2_19 vs_19 (.int 0) := ((q19_1.other W23 (Nat.ne_of_gt lt_x1_t_19)).other W28 (Nat.ne_of_gt lt_x1_t_19))
 rw [e28]
 have f34 : Fld Z h28 x1 "java/lang/String" "hash" "I" (.int 0) := (Fld.other W28 (Fld.other W23 (hp11.keep Kq19 nin0) (Or.inr (slot_ne (Or.inl (ww hw 41 rfl)) (Or.inr (ww hw 28 rfl)) (by decide) (t := .int) (t' := .byte) (by decide) (by decide)))) (Or.inr (slot_ne (Or.inl (ww hw 41 rfl)) (Or.inr (ww hw 30 rfl)) (by decide) (t := .int) (t' := (.array .byte)) (by decide) (by decide))))
 have f35 : Fld Z h28 x1 "java/lang/String" "hashIsZero" "Z" (.int 0) := (Fld.other W28 (Fld.other W23 (hp12.keep Kq19 nin0) (Or.inr (slot_ne (Or.inl (ww hw 43 rfl)) (Or.inr (ww hw 28 rfl)) (by decide) (t := .boolean) (t' := .byte) (by decide) (by decide)))) (Or.inr (slot_ne (Or.inl (ww hw 43 rfl)) (Or.inr (ww hw 30 rfl)) (by decide) (t := .boolean) (t' := (.array .byte)) (by decide) (by decide))))
 have f36 : Exa Z h28 t_19 "[B" := ((q19_3.wr W23).wr W28)
 exact ⟨t_19, cd_19, rfl, N30, K29, sz_t_19, (Nat.ne_of_gt lt_x1_t_19), ⟨_, _, _, (hp6.keep K29), f31, f32, f33, q19_2, hpc, by omega⟩, f34, f35, f36⟩
theorem d1_0 : decode jdk_42_method_3_code 0 = .ok (.aload_n 0, 1) := by decide +kernel
theorem d1_1 : decode jdk_42_method_3_code 1 = .ok (.aload_n 1, 1) := by decide +kernel
theorem d1_2 : decode jdk_42_method_3_code 2 = .ok (.iconst 0, 1) := by decide +kernel
theorem d1_3 : decode jdk_42_method_3_code 3 = .ok (.aload_n 1, 1) := by decide +kernel
theorem d1_4 : decode jdk_42_method_3_code 4 = .ok (.arraylength, 1) := by decide +kernel
theorem d1_5 : decode jdk_42_method_3_code 5 = .ok (.aconst_null, 1) := by decide +kernel
theorem d1_6 : decode jdk_42_method_3_code 6 = .ok (.invokespecial 27, 3) := by decide +kernel
theorem pd_3 : parseMethodDescriptor "([CIILjava/lang/Void;)V" = some ⟨[(.array .char), .int, .int, (.object "java/lang/Void")], none⟩ := by decide +kernel
theorem d1_9 : decode jdk_42_method_3_code 9 = .ok (.return_, 1) := by decide +kernel
abbrev y_4 : MethodName := ⟨"java/lang/String", "<init>", "([C)V"⟩
theorem pn_4 : plainFor y_4 = true := by first | exact plainFor_of_name (by first | (simp [plainName, overriddenIn]; done) | decide +kernel) | decide +kernel
theorem ef_rmInit1 (m : MethodId) (x1 : Addr) (b1 : Addr) : entryFrame m #[(.ref x1), (.ref b1)] 2 = mkF m 0 #[sr x1, sr b1] [] := by first | (simp [entryFrame, mkF, argsToLocals, Value.category]; done) | rfl
def Q_rmInit1 (Z : State) (x1 : Addr) (b1 : Addr) (pn : Int32) (kC : ClassId) (cs : List Int32) (dC : Value) (G1 : Int32) (h0 : Heap) (n0 : Nat) (v : Option Value) (h : Heap) (L : List Loc) : Prop := ∃ (t : Addr), ∃ (cd : Int32), v = none ∧ Fr n0 L ∧ Keep h0 h [x1] ∧ (h0.size ≤ t) ∧ (t ≠ x1) ∧ (Str Z h x1 t cd cs) ∧ (Fld Z h x1 "java/lang/String" "hash" "I" (.int 0)) ∧ (Fld Z h x1 "java/lang/String" "hashIsZero" "Z" (.int 0)) ∧ (Exa Z h t "[B")
set_option maxRecDepth 65536 in
set_option maxHeartbeats 40000000 in
theorem rmInit1 (l : Launch) (Z : State) (a0 : Array Value) (hw : ∀ d ∈ tables_1, d.before a0 Z = true) (ws : List Jvm.Cond) (x1 : Addr) (b1 : Addr) (pn : Int32) (kC : ClassId) (cs : List Int32) (dC : Value) (G1 : Int32) (h0 : Heap) (n0 : Nat) (Z0 : n0 ≤ h0.size) (hp0 : Arv Z h0 b1 kC .char pn (cs.map Value.int) dC) (hn : pn = Int32.ofNat cs.length) (hl : cs.length ≤ 5) (hl0 : 0 < cs.length) (hpc : ∀ c ∈ cs, ¬ c < 0 ∧ ¬ (65535 : Int32) < c) (hlat : ∀ c ∈ cs, ¬ (255 : Int32) < c) (hp6 : Exa Z h0 x1 "java/lang/String") (hp7 : Fld Z h0 x1 "java/lang/String" "value" "[B" .null) (hp8 : Fld Z h0 x1 "java/lang/String" "coder" "B" (.int 0)) (hp9 : n0 ≤ x1) (hp10 : x1 ≠ b1) (hp11 : Fld Z h0 x1 "java/lang/String" "hash" "I" (.int 0)) (hp12 : Fld Z h0 x1 "java/lang/String" "hashIsZero" "Z" (.int 0)) (hp13 : Sta Z Z.heap "java/lang/String" "COMPACT_STRINGS" "Z" (.int G1)) (hG1 : ¬ (G1 = (0 : Int32))) (hp15 : Old Z n0 h0) :
    MetFree l y_4 (head1 (Jvm.Cond.code y_4 jdk_42_method_3_code 2 none :: ws) ({ frames := 3, cells := 1, slots := 5, locals := 52 } : Room)) (fun a U => a = #[(.ref x1), (.ref b1)] ∧ Z.Warmed39 U.vm ∧ U.heap = h0) (fun _ _ _ _ _ => True) (fun _ U o U' => ∃ v L, o = .returned v ∧ Q_rmInit1 Z x1 b1 pn kC cs dC G1 h0 n0 v U'.heap L ∧ FrameEnd U o U' L ({ frames := 3, cells := 1, slots := 5, locals := 52 } : Room).cells ({ frames := 3, cells := 1, slots := 5, locals := 52 } : Room).slots) := by
 refine bodyOf pn_4 (fun m => ef_rmInit1 m x1 b1) ?_
 intro p e s m below meth c T0 X0 hx hby hml hown hnm hret hk hZ e0
 have N0 := Fr.nil n0
 have K0 : Keep h0 h0 [x1] := Keep.refl _ _
 have ne_x1_b1 := hp10
 have O0 := hp15
 refine go (S' := T0.setTop (mkF m 4 #[sr x1, sr b1] [(.ref b1), (.int 0), (.ref b1), (.ref x1)])) (fun t k => XS.aloadN X0.here hx rfl (hb hby d1_0) rfl rfl (XS.aloadN X0.here hx rfl (hb hby d1_1) rfl rfl (XS.iconst X0.here hx rfl (hb hby d1_2) (XS.aloadN X0.here hx rfl (hb hby d1_3) rfl rfl k)))) ?_
 obtain ⟨cl37, Ar37, -, S37, M37, -, -⟩ := id hp0
 refine go (S' := T0.setTop (mkF m 6 #[sr x1, sr b1] [.null, (.int pn), (.int 0), (.ref b1), (.ref x1)])) (fun t k => X0.arraylength hx (by rw [e0]; exact Ar37.1) (State.isArrayOf_alike hZ.alike Ar37.2.1) (g := (mkF m 4 #[sr x1, sr b1] [(.ref b1), (.int 0), (.ref b1), (.ref x1)])) rfl rfl (hb hby d1_4) _ (by rw [len_of S37 M37]; exact (XS.aconstNull X0.here hx rfl (hb hby d1_5) k))) ?_
 have O38 : Old Z n0 h0 := O0.keep K0 (allS hp9 all0)
 obtain ⟨v39, T39, L39, X39, hQ39, st39⟩ := callSp X0 hx hZ (y := y_3) rfl hown (ww hw 8 rfl) (ww hw 9 rfl) (ww hw 11 rfl) (by decide) (backOf (W := 0) (rmInit4 l Z a0 hw [] x1 b1 pn kC cs dC G1 h0 n0 (Nat.le_trans Z0 K0.1) hn hl hl0 hpc hlat hp0 hp6 hp7 hp8 hp9 ne_x1_b1 hp11 hp12 hp13 hG1 O38) hZ (ww hw 11 rfl) (ww hw 4 rfl) (by decide) (by decide)) (g := (mkF m 6 #[sr x1, sr b1] [.null, (.int pn), (.int 0), (.ref b1), (.ref x1)])) rfl (by rw [hml]; rfl) (a := x1) (kc := 1) (ks := 5) (argsL := [(.ref b1), (.int 0), (.int pn), .null]) (rest := []) (lenOf pd_3 rfl) rfl (mr0 rfl) (hb hby d1_6) e0 (by decide) (by decide)
 obtain ⟨t_39, cd_39, rfl, N39q, Kq39, q39_0, q39_1, q39_2, q39_3, q39_4, q39_5⟩ := hQ39
 have N39 := Fr.app N0 N39q
 have K40 : Keep h0 T39.heap [x1] := K0.trans Kq39 (allS (P := fun x => x ∈ [x1] ∨ h0.size ≤ x) (Or.inl (List.mem_of_getElem? (i := 0) rfl)) all0)
 have lt_b1_t_39 : b1 < t_39 := Nat.lt_of_lt_of_le hp0.lt q39_0
 have lt_x1_t_39 : x1 < t_39 := Nat.lt_of_lt_of_le hp6.lt q39_0
 have sz_t_39 : h0.size ≤ t_39 := Nat.le_trans K0.1 q39_0
 have ge_t_39 : n0 ≤ t_39 := Nat.le_trans Z0 sz_t_39
 have ne_t_39_x1 := q39_1
 refine go (S' := T39.setTop (mkF m 9 #[sr x1, sr b1] [])) st39 ?_
 refine finV X39 hx hk hret (hb hby d1_9) (by decide) (by decide) ?_
 exact ⟨t_39, cd_39, rfl, N39, K40, sz_t_39, ne_t_39_x1, q39_2, q39_3, q39_4, q39_5⟩
theorem d9_0 : decode jdk_42_method_154_code 0 = .ok (.getstatic 38, 3) := by decide +kernel
theorem d9_3 : decode jdk_42_method_154_code 3 = .ok (.ifCond .eq 14, 3) := by decide +kernel
theorem d9_6 : decode jdk_42_method_154_code 6 = .ok (.aload_n 0, 1) := by decide +kernel
theorem d9_7 : decode jdk_42_method_154_code 7 = .ok (.getfield 15, 3) := by decide +kernel
theorem d9_10 : decode jdk_42_method_154_code 10 = .ok (.ifCond .ne 7, 3) := by decide +kernel
theorem d9_13 : decode jdk_42_method_154_code 13 = .ok (.iconst 1, 1) := by decide +kernel
theorem d9_14 : decode jdk_42_method_154_code 14 = .ok (.goto 4, 3) := by decide +kernel
theorem d9_18 : decode jdk_42_method_154_code 18 = .ok (.ireturn, 1) := by decide +kernel
abbrev y_5 : MethodName := ⟨"java/lang/String", "isLatin1", "()Z"⟩
theorem pn_5 : plainFor y_5 = true := by first | exact plainFor_of_name (by first | (simp [plainName, overriddenIn]; done) | decide +kernel) | decide +kernel
theorem ef_rmIsl (m : MethodId) (x1 : Addr) : entryFrame m #[(.ref x1)] 1 = mkF m 0 #[sr x1] [] := by first | (simp [entryFrame, mkF, argsToLocals, Value.category]; done) | rfl
def Q_rmIsl (Z : State) (x1 : Addr) (G1 : Int32) (h0 : Heap) (n0 : Nat) (v : Option Value) (h : Heap) (L : List Loc) : Prop := v = some (.int 1) ∧ Fr n0 L ∧ h = h0
set_option maxRecDepth 65536 in
set_option maxHeartbeats 40000000 in
theorem rmIsl (l : Launch) (Z : State) (a0 : Array Value) (hw : ∀ d ∈ tables_1, d.before a0 Z = true) (ws : List Jvm.Cond) (x1 : Addr) (G1 : Int32) (h0 : Heap) (n0 : Nat) (Z0 : n0 ≤ h0.size) (hp0 : Fld Z h0 x1 "java/lang/String" "coder" "B" (.int 0)) (hp1 : Sta Z Z.heap "java/lang/String" "COMPACT_STRINGS" "Z" (.int G1)) (hG1 : ¬ (G1 = (0 : Int32))) (hp3 : Old Z n0 h0) :
    MetFree l y_5 (head1 (Jvm.Cond.code y_5 jdk_42_method_154_code 1 (some .boolean) :: ws) ({ frames := 0, cells := 0, slots := 0, locals := 0 } : Room)) (fun a U => a = #[(.ref x1)] ∧ Z.Warmed39 U.vm ∧ U.heap = h0) (fun _ _ _ _ _ => True) (fun _ U o U' => ∃ v L, o = .returned v ∧ Q_rmIsl Z x1 G1 h0 n0 v U'.heap L ∧ FrameEnd U o U' L ({ frames := 0, cells := 0, slots := 0, locals := 0 } : Room).cells ({ frames := 0, cells := 0, slots := 0, locals := 0 } : Room).slots) := by
 refine bodyOf pn_5 (fun m => ef_rmIsl m x1) ?_
 intro p e s m below meth c T0 X0 hx hby hml hown hnm hret hk hZ e0
 have N0 := Fr.nil n0
 have K0 : Keep h0 h0 [] := Keep.refl _ _
 have O0 := hp3
 have O42 : Old Z n0 h0 := O0.keep K0 all0
 obtain ⟨T41, X41, e41, st41⟩ := getS2 X0 hx hZ hown (host := "") (Or.inl (ww hw 15 rfl)) Via.refl e0 (hp1.ext O42.2) (g := (mkF m 0 #[sr x1] [])) rfl (hb hby d9_0)
 refine go (S' := T41.setTop (mkF m 7 #[sr x1] [(.ref x1)])) (fun t k => st41 _ (XS.ifNo X41.here hx rfl (hb hby d9_3) rfl ((if0 _ _).trans (feq hG1).1) (XS.aloadN X41.here hx rfl (hb hby d9_6) rfl rfl k))) ?_
 obtain ⟨T43, X43, e43, st43⟩ := getF X41 hx hZ hown (host := "") (Or.inl (ww hw 27 rfl)) Via.refl e41 hp0 (g := (mkF m 7 #[sr x1] [(.ref x1)])) rfl rfl (hb hby d9_7)
 refine go (S' := T43.setTop (mkF m 10 #[sr x1] [(.int 0)])) st43 ?_
 have hc44 : (0 : Int32) = (0 : Int32) := by decide
 refine go (S' := T43.setTop (mkF m 18 #[sr x1] [(.int 1)])) (fun t k => XS.ifNo X43.here hx rfl (hb hby d9_10) rfl ((if0 _ _).trans (teq hc44).2) (XS.iconst X43.here hx rfl (hb hby d9_13) (XS.goto X43.here hx rfl (pc0 := 14) (pc' := 18) rfl (hb hby d9_14) (by decide) (by decide) k))) ?_
 refine finN X43 hx hk (t := .boolean) hret (by simp) (hb hby d9_18) (by decide) (by decide) ?_
 rw [e43]
 exact ⟨rfl, N0, rfl⟩
theorem d12_0 : decode jdk_48_method_5_code 0 = .ok (.iload_n 2, 1) := by decide +kernel
theorem d12_1 : decode jdk_48_method_5_code 1 = .ok (.iload_n 3, 1) := by decide +kernel
theorem d12_2 : decode jdk_48_method_5_code 2 = .ok (.iadd, 1) := by decide +kernel
theorem d12_3 : decode jdk_48_method_5_code 3 = .ok (.istore 4, 2) := by decide +kernel
theorem d12_5 : decode jdk_48_method_5_code 5 = .ok (.iload_n 2, 1) := by decide +kernel
theorem d12_6 : decode jdk_48_method_5_code 6 = .ok (.istore 5, 2) := by decide +kernel
theorem d12_8 : decode jdk_48_method_5_code 8 = .ok (.iload 5, 2) := by decide +kernel
theorem d12_10 : decode jdk_48_method_5_code 10 = .ok (.iload 4, 2) := by decide +kernel
theorem d12_12 : decode jdk_48_method_5_code 12 = .ok (.if_icmp .ge 23, 3) := by decide +kernel
theorem d12_15 : decode jdk_48_method_5_code 15 = .ok (.bipush 31, 2) := by decide +kernel
theorem d12_17 : decode jdk_48_method_5_code 17 = .ok (.iload_n 0, 1) := by decide +kernel
theorem d12_18 : decode jdk_48_method_5_code 18 = .ok (.imul, 1) := by decide +kernel
theorem d12_19 : decode jdk_48_method_5_code 19 = .ok (.aload_n 1, 1) := by decide +kernel
theorem d12_20 : decode jdk_48_method_5_code 20 = .ok (.iload 5, 2) := by decide +kernel
theorem d12_22 : decode jdk_48_method_5_code 22 = .ok (.baload, 1) := by decide +kernel
theorem d12_23 : decode jdk_48_method_5_code 23 = .ok (.sipush 255, 3) := by decide +kernel
theorem d12_26 : decode jdk_48_method_5_code 26 = .ok (.iand, 1) := by decide +kernel
theorem d12_27 : decode jdk_48_method_5_code 27 = .ok (.iadd, 1) := by decide +kernel
theorem d12_28 : decode jdk_48_method_5_code 28 = .ok (.istore_n 0, 1) := by decide +kernel
theorem d12_29 : decode jdk_48_method_5_code 29 = .ok (.iinc 5 1, 3) := by decide +kernel
theorem d12_32 : decode jdk_48_method_5_code 32 = .ok (.goto (-24), 3) := by decide +kernel
theorem d12_35 : decode jdk_48_method_5_code 35 = .ok (.iload_n 0, 1) := by decide +kernel
theorem d12_36 : decode jdk_48_method_5_code 36 = .ok (.ireturn, 1) := by decide +kernel
abbrev y_6 : MethodName := ⟨"jdk/internal/util/ArraysSupport", "signedHashCode", "(I[BII)I"⟩
theorem pn_6 : plainFor y_6 = true := by first | exact plainFor_of_name (by first | (simp [plainName, overriddenIn]; done) | decide +kernel) | decide +kernel
theorem ef_rmShDark (m : MethodId) (a1 : Addr) : entryFrame m #[(.int 0), (.ref a1), (.int 0), (.int 4)] 6 = mkF m 0 #[si 0, sr a1, si 0, si 4, .unset, .unset] [] := by first | (simp [entryFrame, mkF, argsToLocals, Value.category]; done) | rfl
def Q_rmShDark (Z : State) (a1 : Addr) (kb : ClassId) (h0 : Heap) (n0 : Nat) (v : Option Value) (h : Heap) (L : List Loc) : Prop := v = some (.int 3075958) ∧ Fr n0 L ∧ h = h0
set_option maxRecDepth 65536 in
set_option maxHeartbeats 40000000 in
theorem rmShDark (l : Launch) (Z : State) (a0 : Array Value) (hw : ∀ d ∈ tables_1, d.before a0 Z = true) (ws : List Jvm.Cond) (a1 : Addr) (kb : ClassId) (h0 : Heap) (n0 : Nat) (Z0 : n0 ≤ h0.size) (hp0 : Arv Z h0 a1 kb .byte (4 : Int32) [(.int 100), (.int 97), (.int 114), (.int 107)] (.int 0)) :
    MetFree l y_6 (head1 (Jvm.Cond.code y_6 jdk_48_method_5_code 6 (some .int) :: ws) ({ frames := 0, cells := 0, slots := 0, locals := 0 } : Room)) (fun a U => a = #[(.int 0), (.ref a1), (.int 0), (.int 4)] ∧ Z.Warmed39 U.vm ∧ U.heap = h0) (fun _ _ _ _ _ => True) (fun _ U o U' => ∃ v L, o = .returned v ∧ Q_rmShDark Z a1 kb h0 n0 v U'.heap L ∧ FrameEnd U o U' L ({ frames := 0, cells := 0, slots := 0, locals := 0 } : Room).cells ({ frames := 0, cells := 0, slots := 0, locals := 0 } : Room).slots) := by
 refine bodyOf pn_6 (fun m => ef_rmShDark m a1) ?_
 intro p e s m below meth c T0 X0 hx hby hml hown hnm hret hk hZ e0
 have N0 := Fr.nil n0
 have K0 : Keep h0 h0 [] := Keep.refl _ _
 refine go (S' := T0.setTop (mkF m 12 #[si 0, sr a1, si 0, si 4, si 4, si 0] [(.int 4), (.int 0)])) (fun t k => XS.iloadN X0.here hx rfl (hb hby d12_0) rfl (XS.iloadN X0.here hx rfl (hb hby d12_1) rfl (XS.iadd X0.here hx rfl (hb hby d12_2) rfl (XS.istore X0.here hx rfl (hb hby d12_3) rfl (l' := #[si 0, sr a1, si 0, si 4, si 4, .unset]) rfl (XS.iloadN X0.here hx rfl (hb hby d12_5) rfl (XS.istore X0.here hx rfl (hb hby d12_6) rfl (l' := #[si 0, sr a1, si 0, si 4, si 4, si 0]) rfl (XS.iload X0.here hx rfl (hb hby d12_8) rfl (XS.iload X0.here hx rfl (hb hby d12_10) rfl k)))))))) ?_
 have hc45 : (0 : Int32) < (4 : Int32) := by decide
 refine go (S' := T0.setTop (mkF m 22 #[si 0, sr a1, si 0, si 4, si 4, si 0] [(.int 0), (.ref a1), (.int 0)])) (fun t k => XS.icmpNo X0.here hx rfl (hb hby d12_12) rfl (tlt hc45).2.1 (XS.bipush X0.here hx rfl (hb hby d12_15) (XS.iloadN X0.here hx rfl (hb hby d12_17) rfl (XS.imul X0.here hx rfl (hb hby d12_18) rfl (XS.aloadN X0.here hx rfl (hb hby d12_19) rfl rfl (XS.iload X0.here hx rfl (hb hby d12_20) rfl k)))))) ?_
 obtain ⟨cl46, Ar46, q46, S46, M46, H46, G46⟩ := id hp0
 have hin46 : ¬ ((0 : Int32) < 0 ∨ cl46.slots.size ≤ ((0 : Int32)).toNatClampNeg) := inb_of S46 ⟨by decide, by decide⟩
 have hat46 : cl46.slots[((0 : Int32)).toNatClampNeg]? = some (.int 100) := Has.at H46 hin46 rfl
 refine go (S' := T0.setTop (mkF m 10 #[si 100, sr a1, si 0, si 4, si 4, si 1] [(.int 1)])) (fun t k => X0.baloadBytes hx (j := (0 : Int32)) (v := (.int 100)) (by rw [e0]; exact Ar46.1) (State.isArrayOf_alike hZ.alike Ar46.2.1) Ar46.2.2 hin46 hat46 (g := (mkF m 22 #[si 0, sr a1, si 0, si 4, si 4, si 0] [(.int 0), (.ref a1), (.int 0)])) rfl rfl (hb hby d12_22) _ (XS.sipush X0.here hx rfl (hb hby d12_23) (XS.iand X0.here hx rfl (hb hby d12_26) rfl (XS.iadd X0.here hx rfl (hb hby d12_27) rfl (XS.istoreN X0.here hx rfl (hb hby d12_28) rfl (l' := #[si 100, sr a1, si 0, si 4, si 4, si 0]) rfl (XS.iinc X0.here hx rfl (hb hby d12_29) rfl (l' := #[si 100, sr a1, si 0, si 4, si 4, si 1]) rfl (XS.goto X0.here hx rfl (pc0 := 32) (pc' := 8) rfl (hb hby d12_32) (by decide) (by decide) (XS.iload X0.here hx rfl (hb hby d12_8) rfl k)))))))) ?_
 refine go (S' := T0.setTop (mkF m 12 #[si 100, sr a1, si 0, si 4, si 4, si 1] [(.int 4), (.int 1)])) (fun t k => XS.iload X0.here hx rfl (hb hby d12_10) rfl k) ?_
 have hc47 : (1 : Int32) < (4 : Int32) := by decide
 refine go (S' := T0.setTop (mkF m 22 #[si 100, sr a1, si 0, si 4, si 4, si 1] [(.int 1), (.ref a1), (.int 3100)])) (fun t k => XS.icmpNo X0.here hx rfl (hb hby d12_12) rfl (tlt hc47).2.1 (XS.bipush X0.here hx rfl (hb hby d12_15) (XS.iloadN X0.here hx rfl (hb hby d12_17) rfl (XS.imul X0.here hx rfl (hb hby d12_18) rfl (XS.aloadN X0.here hx rfl (hb hby d12_19) rfl rfl (XS.iload X0.here hx rfl (hb hby d12_20) rfl k)))))) ?_
 obtain ⟨cl48, Ar48, q48, S48, M48, H48, G48⟩ := id hp0
 have hin48 : ¬ ((1 : Int32) < 0 ∨ cl48.slots.size ≤ ((1 : Int32)).toNatClampNeg) := inb_of S48 ⟨by decide, by decide⟩
 have hat48 : cl48.slots[((1 : Int32)).toNatClampNeg]? = some (.int 97) := Has.at H48 hin48 rfl
 refine go (S' := T0.setTop (mkF m 10 #[si 3197, sr a1, si 0, si 4, si 4, si 2] [(.int 2)])) (fun t k => X0.baloadBytes hx (j := (1 : Int32)) (v := (.int 97)) (by rw [e0]; exact Ar48.1) (State.isArrayOf_alike hZ.alike Ar48.2.1) Ar48.2.2 hin48 hat48 (g := (mkF m 22 #[si 100, sr a1, si 0, si 4, si 4, si 1] [(.int 1), (.ref a1), (.int 3100)])) rfl rfl (hb hby d12_22) _ (XS.sipush X0.here hx rfl (hb hby d12_23) (XS.iand X0.here hx rfl (hb hby d12_26) rfl (XS.iadd X0.here hx rfl (hb hby d12_27) rfl (XS.istoreN X0.here hx rfl (hb hby d12_28) rfl (l' := #[si 3197, sr a1, si 0, si 4, si 4, si 1]) rfl (XS.iinc X0.here hx rfl (hb hby d12_29) rfl (l' := #[si 3197, sr a1, si 0, si 4, si 4, si 2]) rfl (XS.goto X0.here hx rfl (pc0 := 32) (pc' := 8) rfl (hb hby d12_32) (by decide) (by decide) (XS.iload X0.here hx rfl (hb hby d12_8) rfl k)))))))) ?_
 refine go (S' := T0.setTop (mkF m 12 #[si 3197, sr a1, si 0, si 4, si 4, si 2] [(.int 4), (.int 2)])) (fun t k => XS.iload X0.here hx rfl (hb hby d12_10) rfl k) ?_
 have hc49 : (2 : Int32) < (4 : Int32) := by decide
 refine go (S' := T0.setTop (mkF m 22 #[si 3197, sr a1, si 0, si 4, si 4, si 2] [(.int 2), (.ref a1), (.int 99107)])) (fun t k => XS.icmpNo X0.here hx rfl (hb hby d12_12) rfl (tlt hc49).2.1 (XS.bipush X0.here hx rfl (hb hby d12_15) (XS.iloadN X0.here hx rfl (hb hby d12_17) rfl (XS.imul X0.here hx rfl (hb hby d12_18) rfl (XS.aloadN X0.here hx rfl (hb hby d12_19) rfl rfl (XS.iload X0.here hx rfl (hb hby d12_20) rfl k)))))) ?_
 obtain ⟨cl50, Ar50, q50, S50, M50, H50, G50⟩ := id hp0
 have hin50 : ¬ ((2 : Int32) < 0 ∨ cl50.slots.size ≤ ((2 : Int32)).toNatClampNeg) := inb_of S50 ⟨by decide, by decide⟩
 have hat50 : cl50.slots[((2 : Int32)).toNatClampNeg]? = some (.int 114) := Has.at H50 hin50 rfl
 refine go (S' := T0.setTop (mkF m 10 #[si 99221, sr a1, si 0, si 4, si 4, si 3] [(.int 3)])) (fun t k => X0.baloadBytes hx (j := (2 : Int32)) (v := (.int 114)) (by rw [e0]; exact Ar50.1) (State.isArrayOf_alike hZ.alike Ar50.2.1) Ar50.2.2 hin50 hat50 (g := (mkF m 22 #[si 3197, sr a1, si 0, si 4, si 4, si 2] [(.int 2), (.ref a1), (.int 99107)])) rfl rfl (hb hby d12_22) _ (XS.sipush X0.here hx rfl (hb hby d12_23) (XS.iand X0.here hx rfl (hb hby d12_26) rfl (XS.iadd X0.here hx rfl (hb hby d12_27) rfl (XS.istoreN X0.here hx rfl (hb hby d12_28) rfl (l' := #[si 99221, sr a1, si 0, si 4, si 4, si 2]) rfl (XS.iinc X0.here hx rfl (hb hby d12_29) rfl (l' := #[si 99221, sr a1, si 0, si 4, si 4, si 3]) rfl (XS.goto X0.here hx rfl (pc0 := 32) (pc' := 8) rfl (hb hby d12_32) (by decide) (by decide) (XS.iload X0.here hx rfl (hb hby d12_8) rfl k)))))))) ?_
 refine go (S' := T0.setTop (mkF m 12 #[si 99221, sr a1, si 0, si 4, si 4, si 3] [(.int 4), (.int 3)])) (fun t k => XS.iload X0.here hx rfl (hb hby d12_10) rfl k) ?_
 have hc51 : (3 : Int32) < (4 : Int32) := by decide
 refine go (S' := T0.setTop (mkF m 22 #[si 99221, sr a1, si 0, si 4, si 4, si 3] [(.int 3), (.ref a1), (.int 3075851)])) (fun t k => XS.icmpNo X0.here hx rfl (hb hby d12_12) rfl (tlt hc51).2.1 (XS.bipush X0.here hx rfl (hb hby d12_15) (XS.iloadN X0.here hx rfl (hb hby d12_17) rfl (XS.imul X0.here hx rfl (hb hby d12_18) rfl (XS.aloadN X0.here hx rfl (hb hby d12_19) rfl rfl (XS.iload X0.here hx rfl (hb hby d12_20) rfl k)))))) ?_
 obtain ⟨cl52, Ar52, q52, S52, M52, H52, G52⟩ := id hp0
 have hin52 : ¬ ((3 : Int32) < 0 ∨ cl52.slots.size ≤ ((3 : Int32)).toNatClampNeg) := inb_of S52 ⟨by decide, by decide⟩
 have hat52 : cl52.slots[((3 : Int32)).toNatClampNeg]? = some (.int 107) := Has.at H52 hin52 rfl
 refine go (S' := T0.setTop (mkF m 10 #[si 3075958, sr a1, si 0, si 4, si 4, si 4] [(.int 4)])) (fun t k => X0.baloadBytes hx (j := (3 : Int32)) (v := (.int 107)) (by rw [e0]; exact Ar52.1) (State.isArrayOf_alike hZ.alike Ar52.2.1) Ar52.2.2 hin52 hat52 (g := (mkF m 22 #[si 99221, sr a1, si 0, si 4, si 4, si 3] [(.int 3), (.ref a1), (.int 3075851)])) rfl rfl (hb hby d12_22) _ (XS.sipush X0.here hx rfl (hb hby d12_23) (XS.iand X0.here hx rfl (hb hby d12_26) rfl (XS.iadd X0.here hx rfl (hb hby d12_27) rfl (XS.istoreN X0.here hx rfl (hb hby d12_28) rfl (l' := #[si 3075958, sr a1, si 0, si 4, si 4, si 3]) rfl (XS.iinc X0.here hx rfl (hb hby d12_29) rfl (l' := #[si 3075958, sr a1, si 0, si 4, si 4, si 4]) rfl (XS.goto X0.here hx rfl (pc0 := 32) (pc' := 8) rfl (hb hby d12_32) (by decide) (by decide) (XS.iload X0.here hx rfl (hb hby d12_8) rfl k)))))))) ?_
 refine go (S' := T0.setTop (mkF m 12 #[si 3075958, sr a1, si 0, si 4, si 4, si 4] [(.int 4), (.int 4)])) (fun t k => XS.iload X0.here hx rfl (hb hby d12_10) rfl k) ?_
 have hc53 : ¬ ((4 : Int32) < (4 : Int32)) := by decide
 refine go (S' := T0.setTop (mkF m 36 #[si 3075958, sr a1, si 0, si 4, si 4, si 4] [(.int 3075958)])) (fun t k => XS.icmpYes X0.here hx rfl (pc0 := 12) (pc' := 35) rfl (hb hby d12_12) rfl (flt hc53).2.1 (by decide) (by decide) (XS.iloadN X0.here hx rfl (hb hby d12_35) rfl k)) ?_
 refine finI X0 hx hk hret (hb hby d12_36) (by decide) (by decide) ?_
 rw [e0]
 exact ⟨rfl, N0, rfl⟩
theorem d11_0 : decode jdk_48_method_4_code 0 = .ok (.iload 4, 2) := by decide +kernel
theorem d11_2 : decode jdk_48_method_4_code 2 = .ok (.tableswitch 127 4 10 #[42, 55, 127, 127, 88, 101, 114], 42) := by decide +kernel
theorem d11_44 : decode jdk_48_method_4_code 44 = .ok (.iload_n 3, 1) := by decide +kernel
theorem d11_45 : decode jdk_48_method_4_code 45 = .ok (.aload_n 0, 1) := by decide +kernel
theorem d11_46 : decode jdk_48_method_4_code 46 = .ok (.checkcast 60, 3) := by decide +kernel
theorem d11_49 : decode jdk_48_method_4_code 49 = .ok (.iload_n 1, 1) := by decide +kernel
theorem d11_50 : decode jdk_48_method_4_code 50 = .ok (.iload_n 2, 1) := by decide +kernel
theorem d11_51 : decode jdk_48_method_4_code 51 = .ok (.invokestatic 62, 3) := by decide +kernel
theorem pd_4 : parseMethodDescriptor "(I[BII)I" = some ⟨[.int, (.array .byte), .int, .int], some .int⟩ := by decide +kernel
theorem d11_54 : decode jdk_48_method_4_code 54 = .ok (.goto 103, 3) := by decide +kernel
theorem d11_157 : decode jdk_48_method_4_code 157 = .ok (.ireturn, 1) := by decide +kernel
abbrev y_7 : MethodName := ⟨"jdk/internal/util/ArraysSupport", "vectorizedHashCode", "(Ljava/lang/Object;IIII)I"⟩
theorem pn_7 : plainFor y_7 = true := by first | exact plainFor_of_name (by first | (simp [plainName, overriddenIn]; done) | decide +kernel) | decide +kernel
theorem ef_rmVhDark (m : MethodId) (a1 : Addr) : entryFrame m #[(.ref a1), (.int 0), (.int 4), (.int 0), (.int 4)] 5 = mkF m 0 #[sr a1, si 0, si 4, si 0, si 4] [] := by first | (simp [entryFrame, mkF, argsToLocals, Value.category]; done) | rfl
def Q_rmVhDark (Z : State) (a1 : Addr) (kb : ClassId) (h0 : Heap) (n0 : Nat) (v : Option Value) (h : Heap) (L : List Loc) : Prop := v = some (.int 3075958) ∧ Fr n0 L ∧ h = h0
set_option maxRecDepth 65536 in
set_option maxHeartbeats 40000000 in
theorem rmVhDark (l : Launch) (Z : State) (a0 : Array Value) (hw : ∀ d ∈ tables_1, d.before a0 Z = true) (ws : List Jvm.Cond) (a1 : Addr) (kb : ClassId) (h0 : Heap) (n0 : Nat) (Z0 : n0 ≤ h0.size) (hp0 : Arv Z h0 a1 kb .byte (4 : Int32) [(.int 100), (.int 97), (.int 114), (.int 107)] (.int 0)) (hp1 : Exa Z h0 a1 "[B") :
    MetFree l y_7 (head1 (Jvm.Cond.code y_7 jdk_48_method_4_code 5 (some .int) :: ws) ({ frames := 1, cells := 0, slots := 0, locals := 17 } : Room)) (fun a U => a = #[(.ref a1), (.int 0), (.int 4), (.int 0), (.int 4)] ∧ Z.Warmed39 U.vm ∧ U.heap = h0) (fun _ _ _ _ _ => True) (fun _ U o U' => ∃ v L, o = .returned v ∧ Q_rmVhDark Z a1 kb h0 n0 v U'.heap L ∧ FrameEnd U o U' L ({ frames := 1, cells := 0, slots := 0, locals := 17 } : Room).cells ({ frames := 1, cells := 0, slots := 0, locals := 17 } : Room).slots) := by
 refine bodyOf pn_7 (fun m => ef_rmVhDark m a1) ?_
 intro p e s m below meth c T0 X0 hx hby hml hown hnm hret hk hZ e0
 have N0 := Fr.nil n0
 have K0 : Keep h0 h0 [] := Keep.refl _ _
 refine go (S' := T0.setTop (mkF m 46 #[sr a1, si 0, si 4, si 0, si 4] [(.ref a1), (.int 0)])) (fun t k => XS.iload X0.here hx rfl (hb hby d11_0) rfl (XS.tswIn X0.here hx rfl (pc0 := 2) (pc' := 44) rfl (hb hby d11_2) rfl (by decide) rfl (by decide) (by decide) (XS.iloadN X0.here hx rfl (hb hby d11_44) rfl (XS.aloadN X0.here hx rfl (hb hby d11_45) rfl rfl k)))) ?_
 obtain ⟨T54, X54, e54, st54⟩ := castY X0 hx hZ hown (ww hw 57 rfl) e0 (Ins.self hp1) (g := (mkF m 46 #[sr a1, si 0, si 4, si 0, si 4] [(.ref a1), (.int 0)])) rfl rfl (hb hby d11_46)
 refine go (S' := T54.setTop (mkF m 51 #[sr a1, si 0, si 4, si 0, si 4] [(.int 4), (.int 0), (.ref a1), (.int 0)])) (fun t k => st54 _ (XS.iloadN X54.here hx rfl (hb hby d11_49) rfl (XS.iloadN X54.here hx rfl (hb hby d11_50) rfl k))) ?_
 obtain ⟨v55, T55, L55, X55, hQ55, st55⟩ := callSt X54 hx hZ (y := y_6) hown (ww hw 59 rfl) (ww hw 60 rfl) (ww hw 55 rfl) (ww hw 61 rfl) (by decide) (backOf (W := 0) (rmShDark l Z a0 hw [] a1 kb h0 n0 (Nat.le_trans Z0 K0.1) hp0) hZ (ww hw 61 rfl) (ww hw 55 rfl) (by decide) (by decide)) (g := (mkF m 51 #[sr a1, si 0, si 4, si 0, si 4] [(.int 4), (.int 0), (.ref a1), (.int 0)])) rfl (by rw [hml]; rfl) (kc := 0) (ks := 0) (argsL := [(.int 0), (.ref a1), (.int 0), (.int 4)]) (rest := []) (lenOf pd_4 rfl) rfl (mr0 rfl) (hb hby d11_51) e54 (by decide) (by decide)
 obtain ⟨rfl, N55q, e55⟩ := hQ55
 have N55 := Fr.app N0 N55q
 refine go (S' := T55.setTop (mkF m 157 #[sr a1, si 0, si 4, si 0, si 4] [(.int 3075958)])) (fun t k => st55 _ (XS.goto X55.here hx rfl (pc0 := 54) (pc' := 157) rfl (hb hby d11_54) (by decide) (by decide) k)) ?_
 refine finI X55 hx hk hret (hb hby d11_157) (by decide) (by decide) ?_
 rw [e55]
 exact ⟨rfl, N55, rfl⟩
theorem d10_0 : decode jdk_43_method_21_code 0 = .ok (.aload_n 0, 1) := by decide +kernel
theorem d10_1 : decode jdk_43_method_21_code 1 = .ok (.arraylength, 1) := by decide +kernel
theorem d10_2 : decode jdk_43_method_21_code 2 = .ok (.lookupswitch 40 #[(0, 26), (1, 30)], 26) := by decide +kernel
theorem d10_42 : decode jdk_43_method_21_code 42 = .ok (.aload_n 0, 1) := by decide +kernel
theorem d10_43 : decode jdk_43_method_21_code 43 = .ok (.iconst 0, 1) := by decide +kernel
theorem d10_44 : decode jdk_43_method_21_code 44 = .ok (.aload_n 0, 1) := by decide +kernel
theorem d10_45 : decode jdk_43_method_21_code 45 = .ok (.arraylength, 1) := by decide +kernel
theorem d10_46 : decode jdk_43_method_21_code 46 = .ok (.iconst 0, 1) := by decide +kernel
theorem d10_47 : decode jdk_43_method_21_code 47 = .ok (.iconst 4, 1) := by decide +kernel
theorem d10_48 : decode jdk_43_method_21_code 48 = .ok (.invokestatic 84, 3) := by decide +kernel
theorem pd_5 : parseMethodDescriptor "(Ljava/lang/Object;IIII)I" = some ⟨[(.object "java/lang/Object"), .int, .int, .int, .int], some .int⟩ := by decide +kernel
theorem d10_51 : decode jdk_43_method_21_code 51 = .ok (.ireturn, 1) := by decide +kernel
abbrev y_8 : MethodName := ⟨"java/lang/StringLatin1", "hashCode", "([B)I"⟩
theorem pn_8 : plainFor y_8 = true := by first | exact plainFor_of_name (by first | (simp [plainName, overriddenIn]; done) | decide +kernel) | decide +kernel
theorem ef_rmLhDark (m : MethodId) (a1 : Addr) : entryFrame m #[(.ref a1)] 1 = mkF m 0 #[sr a1] [] := by first | (simp [entryFrame, mkF, argsToLocals, Value.category]; done) | rfl
def Q_rmLhDark (Z : State) (a1 : Addr) (kb : ClassId) (h0 : Heap) (n0 : Nat) (v : Option Value) (h : Heap) (L : List Loc) : Prop := v = some (.int 3075958) ∧ Fr n0 L ∧ h = h0
set_option maxRecDepth 65536 in
set_option maxHeartbeats 40000000 in
theorem rmLhDark (l : Launch) (Z : State) (a0 : Array Value) (hw : ∀ d ∈ tables_1, d.before a0 Z = true) (ws : List Jvm.Cond) (a1 : Addr) (kb : ClassId) (h0 : Heap) (n0 : Nat) (Z0 : n0 ≤ h0.size) (hp0 : Arv Z h0 a1 kb .byte (4 : Int32) [(.int 100), (.int 97), (.int 114), (.int 107)] (.int 0)) (hp1 : Exa Z h0 a1 "[B") :
    MetFree l y_8 (head1 (Jvm.Cond.code y_8 jdk_43_method_21_code 1 (some .int) :: ws) ({ frames := 2, cells := 0, slots := 0, locals := 33 } : Room)) (fun a U => a = #[(.ref a1)] ∧ Z.Warmed39 U.vm ∧ U.heap = h0) (fun _ _ _ _ _ => True) (fun _ U o U' => ∃ v L, o = .returned v ∧ Q_rmLhDark Z a1 kb h0 n0 v U'.heap L ∧ FrameEnd U o U' L ({ frames := 2, cells := 0, slots := 0, locals := 33 } : Room).cells ({ frames := 2, cells := 0, slots := 0, locals := 33 } : Room).slots) := by
 refine bodyOf pn_8 (fun m => ef_rmLhDark m a1) ?_
 intro p e s m below meth c T0 X0 hx hby hml hown hnm hret hk hZ e0
 have N0 := Fr.nil n0
 have K0 : Keep h0 h0 [] := Keep.refl _ _
 refine go (S' := T0.setTop (mkF m 1 #[sr a1] [(.ref a1)])) (fun t k => XS.aloadN X0.here hx rfl (hb hby d10_0) rfl rfl k) ?_
 obtain ⟨cl56, Ar56, -, S56, M56, -, -⟩ := id hp0
 refine go (S' := T0.setTop (mkF m 45 #[sr a1] [(.ref a1), (.int 0), (.ref a1)])) (fun t k => X0.arraylength hx (by rw [e0]; exact Ar56.1) (State.isArrayOf_alike hZ.alike Ar56.2.1) (g := (mkF m 1 #[sr a1] [(.ref a1)])) rfl rfl (hb hby d10_1) _ (by rw [len_of S56 M56]; exact (lsw X0.here hx rfl (pc0 := 2) (pc' := 42) rfl (hb hby d10_2) rfl (by decide) (by decide) (by decide) (XS.aloadN X0.here hx rfl (hb hby d10_42) rfl rfl (XS.iconst X0.here hx rfl (hb hby d10_43) (XS.aloadN X0.here hx rfl (hb hby d10_44) rfl rfl k)))))) ?_
 obtain ⟨cl57, Ar57, -, S57, M57, -, -⟩ := id hp0
 refine go (S' := T0.setTop (mkF m 48 #[sr a1] [(.int 4), (.int 0), (.int 4), (.int 0), (.ref a1)])) (fun t k => X0.arraylength hx (by rw [e0]; exact Ar57.1) (State.isArrayOf_alike hZ.alike Ar57.2.1) (g := (mkF m 45 #[sr a1] [(.ref a1), (.int 0), (.ref a1)])) rfl rfl (hb hby d10_45) _ (by rw [len_of S57 M57]; exact (XS.iconst X0.here hx rfl (hb hby d10_46) (XS.iconst X0.here hx rfl (hb hby d10_47) k)))) ?_
 obtain ⟨v58, T58, L58, X58, hQ58, st58⟩ := callSt X0 hx hZ (y := y_7) hown (ww hw 53 rfl) (ww hw 54 rfl) (ww hw 55 rfl) (ww hw 56 rfl) (by decide) (backOf (W := 0) (rmVhDark l Z a0 hw [] a1 kb h0 n0 (Nat.le_trans Z0 K0.1) hp0 hp1) hZ (ww hw 56 rfl) (ww hw 55 rfl) (by decide) (by decide)) (g := (mkF m 48 #[sr a1] [(.int 4), (.int 0), (.int 4), (.int 0), (.ref a1)])) rfl (by rw [hml]; rfl) (kc := 0) (ks := 0) (argsL := [(.ref a1), (.int 0), (.int 4), (.int 0), (.int 4)]) (rest := []) (lenOf pd_5 rfl) rfl (mr0 rfl) (hb hby d10_48) e0 (by decide) (by decide)
 obtain ⟨rfl, N58q, e58⟩ := hQ58
 have N58 := Fr.app N0 N58q
 refine go (S' := T58.setTop (mkF m 51 #[sr a1] [(.int 3075958)])) st58 ?_
 refine finI X58 hx hk hret (hb hby d10_51) (by decide) (by decide) ?_
 rw [e58]
 exact ⟨rfl, N58, rfl⟩
theorem d8_0 : decode jdk_42_method_78_code 0 = .ok (.aload_n 0, 1) := by decide +kernel
theorem d8_1 : decode jdk_42_method_78_code 1 = .ok (.getfield 19, 3) := by decide +kernel
theorem d8_4 : decode jdk_42_method_78_code 4 = .ok (.istore_n 1, 1) := by decide +kernel
theorem d8_5 : decode jdk_42_method_78_code 5 = .ok (.iload_n 1, 1) := by decide +kernel
theorem d8_6 : decode jdk_42_method_78_code 6 = .ok (.ifCond .ne 52, 3) := by decide +kernel
theorem d8_9 : decode jdk_42_method_78_code 9 = .ok (.aload_n 0, 1) := by decide +kernel
theorem d8_10 : decode jdk_42_method_78_code 10 = .ok (.getfield 23, 3) := by decide +kernel
theorem d8_13 : decode jdk_42_method_78_code 13 = .ok (.ifCond .ne 45, 3) := by decide +kernel
theorem d8_16 : decode jdk_42_method_78_code 16 = .ok (.aload_n 0, 1) := by decide +kernel
theorem d8_17 : decode jdk_42_method_78_code 17 = .ok (.invokevirtual 492, 3) := by decide +kernel
theorem pd_6 : parseMethodDescriptor "()Z" = some ⟨[], some .boolean⟩ := by decide +kernel
theorem d8_20 : decode jdk_42_method_78_code 20 = .ok (.ifCond .eq 13, 3) := by decide +kernel
theorem d8_23 : decode jdk_42_method_78_code 23 = .ok (.aload_n 0, 1) := by decide +kernel
theorem d8_24 : decode jdk_42_method_78_code 24 = .ok (.getfield 9, 3) := by decide +kernel
theorem d8_27 : decode jdk_42_method_78_code 27 = .ok (.invokestatic 628, 3) := by decide +kernel
theorem pd_7 : parseMethodDescriptor "([B)I" = some ⟨[(.array .byte)], some .int⟩ := by decide +kernel
theorem d8_30 : decode jdk_42_method_78_code 30 = .ok (.goto 10, 3) := by decide +kernel
theorem d8_40 : decode jdk_42_method_78_code 40 = .ok (.istore_n 1, 1) := by decide +kernel
theorem d8_41 : decode jdk_42_method_78_code 41 = .ok (.iload_n 1, 1) := by decide +kernel
theorem d8_42 : decode jdk_42_method_78_code 42 = .ok (.ifCond .ne 11, 3) := by decide +kernel
theorem d8_53 : decode jdk_42_method_78_code 53 = .ok (.aload_n 0, 1) := by decide +kernel
theorem d8_54 : decode jdk_42_method_78_code 54 = .ok (.iload_n 1, 1) := by decide +kernel
theorem d8_55 : decode jdk_42_method_78_code 55 = .ok (.putfield 19, 3) := by decide +kernel
theorem d8_58 : decode jdk_42_method_78_code 58 = .ok (.iload_n 1, 1) := by decide +kernel
theorem d8_59 : decode jdk_42_method_78_code 59 = .ok (.ireturn, 1) := by decide +kernel
abbrev y_9 : MethodName := ⟨"java/lang/String", "hashCode", "()I"⟩
theorem pn_9 : plainFor y_9 = true := by first | exact plainFor_of_name (by first | (simp [plainName, overriddenIn]; done) | decide +kernel) | decide +kernel
theorem ef_rmHcDark (m : MethodId) (x1 : Addr) : entryFrame m #[(.ref x1)] 2 = mkF m 0 #[sr x1, .unset] [] := by first | (simp [entryFrame, mkF, argsToLocals, Value.category]; done) | rfl
def Q_rmHcDark (Z : State) (x1 : Addr) (t1 : Addr) (kb : ClassId) (G1 : Int32) (h0 : Heap) (n0 : Nat) (v : Option Value) (h : Heap) (L : List Loc) : Prop := v = some (.int 3075958) ∧ Fr n0 L ∧ Keep h0 h [x1] ∧ (Fld Z h x1 "java/lang/String" "value" "[B" (.ref t1)) ∧ (Fld Z h x1 "java/lang/String" "coder" "B" (.int 0))
set_option maxRecDepth 65536 in
set_option maxHeartbeats 40000000 in
theorem rmHcDark (l : Launch) (Z : State) (a0 : Array Value) (hw : ∀ d ∈ tables_1, d.before a0 Z = true) (ws : List Jvm.Cond) (x1 : Addr) (t1 : Addr) (kb : ClassId) (G1 : Int32) (h0 : Heap) (n0 : Nat) (Z0 : n0 ≤ h0.size) (hp0 : Exa Z h0 x1 "java/lang/String") (hp1 : Fld Z h0 x1 "java/lang/String" "value" "[B" (.ref t1)) (hp2 : Fld Z h0 x1 "java/lang/String" "coder" "B" (.int 0)) (hp3 : Fld Z h0 x1 "java/lang/String" "hash" "I" (.int 0)) (hp4 : Fld Z h0 x1 "java/lang/String" "hashIsZero" "Z" (.int 0)) (hp5 : Arv Z h0 t1 kb .byte (4 : Int32) [(.int 100), (.int 97), (.int 114), (.int 107)] (.int 0)) (hp6 : Exa Z h0 t1 "[B") (hp7 : n0 ≤ x1) (hp8 : Sta Z Z.heap "java/lang/String" "COMPACT_STRINGS" "Z" (.int G1)) (hG1 : ¬ (G1 = (0 : Int32))) (hp10 : Old Z n0 h0) :
    MetFree l y_9 (head1 (Jvm.Cond.code y_9 jdk_42_method_78_code 2 (some .int) :: ws) ({ frames := 3, cells := 0, slots := 0, locals := 45 } : Room)) (fun a U => a = #[(.ref x1)] ∧ Z.Warmed39 U.vm ∧ U.heap = h0) (fun _ _ _ _ _ => True) (fun _ U o U' => ∃ v L, o = .returned v ∧ Q_rmHcDark Z x1 t1 kb G1 h0 n0 v U'.heap L ∧ FrameEnd U o U' L ({ frames := 3, cells := 0, slots := 0, locals := 45 } : Room).cells ({ frames := 3, cells := 0, slots := 0, locals := 45 } : Room).slots) := by
 refine bodyOf pn_9 (fun m => ef_rmHcDark m x1) ?_
 intro p e s m below meth c T0 X0 hx hby hml hown hnm hret hk hZ e0
 have N0 := Fr.nil n0
 have K0 : Keep h0 h0 [x1] := Keep.refl _ _
 have O0 := hp10
 refine go (S' := T0.setTop (mkF m 1 #[sr x1, .unset] [(.ref x1)])) (fun t k => XS.aloadN X0.here hx rfl (hb hby d8_0) rfl rfl k) ?_
 obtain ⟨T59, X59, e59, st59⟩ := getF X0 hx hZ hown (host := "") (Or.inl (ww hw 40 rfl)) Via.refl e0 hp3 (g := (mkF m 1 #[sr x1, .unset] [(.ref x1)])) rfl rfl (hb hby d8_1)
 refine go (S' := T59.setTop (mkF m 6 #[sr x1, si 0] [(.int 0)])) (fun t k => st59 _ (XS.istoreN X59.here hx rfl (hb hby d8_4) rfl (l' := #[sr x1, si 0]) rfl (XS.iloadN X59.here hx rfl (hb hby d8_5) rfl k))) ?_
 have hc60 : (0 : Int32) = (0 : Int32) := by decide
 refine go (S' := T59.setTop (mkF m 10 #[sr x1, si 0] [(.ref x1)])) (fun t k => XS.ifNo X59.here hx rfl (hb hby d8_6) rfl ((if0 _ _).trans (teq hc60).2) (XS.aloadN X59.here hx rfl (hb hby d8_9) rfl rfl k)) ?_
 obtain ⟨T61, X61, e61, st61⟩ := getF X59 hx hZ hown (host := "") (Or.inl (ww hw 42 rfl)) Via.refl e59 hp4 (g := (mkF m 10 #[sr x1, si 0] [(.ref x1)])) rfl rfl (hb hby d8_10)
 refine go (S' := T61.setTop (mkF m 13 #[sr x1, si 0] [(.int 0)])) st61 ?_
 have hc62 : (0 : Int32) = (0 : Int32) := by decide
 refine go (S' := T61.setTop (mkF m 17 #[sr x1, si 0] [(.ref x1)])) (fun t k => XS.ifNo X61.here hx rfl (hb hby d8_13) rfl ((if0 _ _).trans (teq hc62).2) (XS.aloadN X61.here hx rfl (hb hby d8_16) rfl rfl k)) ?_
 have O63 : Old Z n0 h0 := O0.keep K0 (allS hp7 all0)
 obtain ⟨v64, T64, L64, X64, hQ64, st64⟩ := callV X61 hx hZ (y := y_5) (z := y_5) hown (ww hw 44 rfl) (ww hw 45 rfl) (notFace_of_selects (args := #[]) (mvT hZ (ww hw 47 rfl))) (ww hw 47 rfl) (ww hw 46 rfl) (by decide) (backOf (W := 0) (rmIsl l Z a0 hw [] x1 G1 h0 n0 (Nat.le_trans Z0 K0.1) hp2 hp8 hG1 O63) hZ (ww hw 48 rfl) (ww hw 4 rfl) (by decide) (by decide)) hp0 (g := (mkF m 17 #[sr x1, si 0] [(.ref x1)])) rfl (by rw [hml]; rfl) (kc := 0) (ks := 0) (argsL := []) (rest := []) (lenOf pd_6 rfl) rfl (mr0 rfl) (hb hby d8_17) e61 (by decide) (by decide)
 obtain ⟨rfl, N64q, e64⟩ := hQ64
 have N64 := Fr.app N0 N64q
 refine go (S' := T64.setTop (mkF m 20 #[sr x1, si 0] [(.int 1)])) st64 ?_
 have hc65 : ¬ ((1 : Int32) = (0 : Int32)) := by decide
 refine go (S' := T64.setTop (mkF m 24 #[sr x1, si 0] [(.ref x1)])) (fun t k => XS.ifNo X64.here hx rfl (hb hby d8_20) rfl ((if0 _ _).trans (feq hc65).1) (XS.aloadN X64.here hx rfl (hb hby d8_23) rfl rfl k)) ?_
 obtain ⟨T66, X66, e66, st66⟩ := getF X64 hx hZ hown (host := "") (Or.inl (ww hw 29 rfl)) Via.refl e64 hp1 (g := (mkF m 24 #[sr x1, si 0] [(.ref x1)])) rfl rfl (hb hby d8_24)
 refine go (S' := T66.setTop (mkF m 27 #[sr x1, si 0] [(.ref t1)])) st66 ?_
 obtain ⟨v67, T67, L67, X67, hQ67, st67⟩ := callSt X66 hx hZ (y := y_8) hown (ww hw 49 rfl) (ww hw 50 rfl) (ww hw 51 rfl) (ww hw 52 rfl) (by decide) (backOf (W := 0) (rmLhDark l Z a0 hw [] t1 kb h0 n0 (Nat.le_trans Z0 K0.1) hp5 hp6) hZ (ww hw 52 rfl) (ww hw 51 rfl) (by decide) (by decide)) (g := (mkF m 27 #[sr x1, si 0] [(.ref t1)])) rfl (by rw [hml]; rfl) (kc := 0) (ks := 0) (argsL := [(.ref t1)]) (rest := []) (lenOf pd_7 rfl) rfl (mr0 rfl) (hb hby d8_27) e66 (by decide) (by decide)
 obtain ⟨rfl, N67q, e67⟩ := hQ67
 have N67 := Fr.app N64 N67q
 refine go (S' := T67.setTop (mkF m 42 #[sr x1, si 3075958] [(.int 3075958)])) (fun t k => st67 _ (XS.goto X67.here hx rfl (pc0 := 30) (pc' := 40) rfl (hb hby d8_30) (by decide) (by decide) (XS.istoreN X67.here hx rfl (hb hby d8_40) rfl (l' := #[sr x1, si 3075958]) rfl (XS.iloadN X67.here hx rfl (hb hby d8_41) rfl k)))) ?_
 have hc68 : ¬ ((3075958 : Int32) = (0 : Int32)) := by decide
 refine go (S' := T67.setTop (mkF m 55 #[sr x1, si 3075958] [(.int 3075958), (.ref x1)])) (fun t k => XS.ifYes X67.here hx rfl (pc0 := 42) (pc' := 53) rfl (hb hby d8_42) rfl ((if0 _ _).trans (feq hc68).2) (by decide) (by decide) (XS.aloadN X67.here hx rfl (hb hby d8_53) rfl rfl (XS.iloadN X67.here hx rfl (hb hby d8_54) rfl k))) ?_
 obtain ⟨T69, h69, X69, e69, W69, st69⟩ := putF X67 hx hZ hown (host := "") (Or.inl (ww hw 40 rfl)) Via.refl e67 hp3 hp0 (Or.inl (ww hw 41 rfl)) (ww hw 3 rfl) (ty := .int) (by decide) rfl rfl (g := (mkF m 55 #[sr x1, si 3075958] [(.int 3075958), (.ref x1)])) rfl rfl (hb hby d8_55)
 have K70 : Keep h0 h69 [x1] := K0.wr W69 (Or.inl (List.mem_of_getElem? (i := 0) rfl))
 have N71 := Fr.snoc X69 N67 hp7
 have f72 : Fld Z h69 x1 "java/lang/String" "hash" "I" (.int 3075958) := (Fld.same W69 hp3)
 refine go (S' := T69.setTop (mkF m 59 #[sr x1, si 3075958] [(.int 3075958)])) (fun t k => st69 _ (XS.iloadN X69.here hx rfl (hb hby d8_58) rfl k)) ?_
 refine finI X69 hx hk hret (hb hby d8_59) (by decide) (by decide) ?_
 have f73 : Fld Z h69 x1 "java/lang/String" "value" "[B" (.ref t1) := (Fld.other W69 hp1 (Or.inr (slot_ne (Or.inr (ww hw 30 rfl)) (Or.inl (ww hw 41 rfl)) (by decide) (t := (.array .byte)) (t' := .int) (by decide) (by decide))))
 have f74 : Fld Z h69 x1 "java/lang/String" "coder" "B" (.int 0) := (Fld.other W69 hp2 (Or.inr (slot_ne (Or.inr (ww hw 28 rfl)) (Or.inl (ww hw 41 rfl)) (by decide) (t := .byte) (t' := .int) (by decide) (by decide))))
 rw [e69]
 exact ⟨rfl, N71, K70, f73, f74⟩
theorem d15_0 : decode prog_43_method_1_code 0 = .ok (.aload_n 0, 1) := by decide +kernel
theorem d15_1 : decode prog_43_method_1_code 1 = .ok (.invokespecial 1, 3) := by decide +kernel
theorem d15_4 : decode prog_43_method_1_code 4 = .ok (.return_, 1) := by decide +kernel
abbrev y_10 : MethodName := ⟨"castworks/bench/WidgetFactory$Dark", "<init>", "()V"⟩
theorem pn_10 : plainFor y_10 = true := by first | exact plainFor_of_name (by first | (simp [plainName, overriddenIn]; done) | decide +kernel) | decide +kernel
theorem ef_rmCiDark (m : MethodId) (a1 : Addr) : entryFrame m #[(.ref a1)] 1 = mkF m 0 #[sr a1] [] := by first | (simp [entryFrame, mkF, argsToLocals, Value.category]; done) | rfl
def Q_rmCiDark (Z : State) (a1 : Addr) (h0 : Heap) (n0 : Nat) (v : Option Value) (h : Heap) (L : List Loc) : Prop := v = none ∧ Fr n0 L ∧ h = h0
set_option maxRecDepth 65536 in
set_option maxHeartbeats 40000000 in
theorem rmCiDark (l : Launch) (Z : State) (a0 : Array Value) (hw : ∀ d ∈ tables_1, d.before a0 Z = true) (ws : List Jvm.Cond) (a1 : Addr) (h0 : Heap) (n0 : Nat) (Z0 : n0 ≤ h0.size)  :
    MetFree l y_10 (head1 (Jvm.Cond.code y_10 prog_43_method_1_code 1 none :: ws) ({ frames := 1, cells := 0, slots := 0, locals := 12 } : Room)) (fun a U => a = #[(.ref a1)] ∧ Z.Warmed39 U.vm ∧ U.heap = h0) (fun _ _ _ _ _ => True) (fun _ U o U' => ∃ v L, o = .returned v ∧ Q_rmCiDark Z a1 h0 n0 v U'.heap L ∧ FrameEnd U o U' L ({ frames := 1, cells := 0, slots := 0, locals := 12 } : Room).cells ({ frames := 1, cells := 0, slots := 0, locals := 12 } : Room).slots) := by
 refine bodyOf pn_10 (fun m => ef_rmCiDark m a1) ?_
 intro p e s m below meth c T0 X0 hx hby hml hown hnm hret hk hZ e0
 have N0 := Fr.nil n0
 have K0 : Keep h0 h0 [] := Keep.refl _ _
 refine go (S' := T0.setTop (mkF m 1 #[sr a1] [(.ref a1)])) (fun t k => XS.aloadN X0.here hx rfl (hb hby d15_0) rfl rfl k) ?_
 obtain ⟨T75, X75, e75, st75⟩ := initO X0 hx hZ hown (ww hw 80 rfl) (ww hw 13 rfl) (ww hw 14 rfl) e0 (g := (mkF m 1 #[sr a1] [(.ref a1)])) rfl (by rw [hml]; rfl) rfl (hb hby d15_1) (by decide) (W := 0) (mr0 rfl) (by decide)
 refine go (S' := T75.setTop (mkF m 4 #[sr a1] [])) st75 ?_
 refine finV X75 hx hk hret (hb hby d15_4) (by decide) (by decide) ?_
 rw [e75]
 exact ⟨rfl, N0, rfl⟩
theorem d7_0 : decode prog_42_method_4_code 0 = .ok (.aload_n 0, 1) := by decide +kernel
theorem d7_1 : decode prog_42_method_4_code 1 = .ok (.astore_n 1, 1) := by decide +kernel
theorem d7_2 : decode prog_42_method_4_code 2 = .ok (.iconst (-1), 1) := by decide +kernel
theorem d7_3 : decode prog_42_method_4_code 3 = .ok (.istore_n 2, 1) := by decide +kernel
theorem d7_4 : decode prog_42_method_4_code 4 = .ok (.aload_n 1, 1) := by decide +kernel
theorem d7_5 : decode prog_42_method_4_code 5 = .ok (.invokevirtual 1, 3) := by decide +kernel
theorem pd_8 : parseMethodDescriptor "()I" = some ⟨[], some .int⟩ := by decide +kernel
theorem d7_8 : decode prog_42_method_4_code 8 = .ok (.lookupswitch 75 #[(3075958, 36), (102970646, 50), (104817688, 64)], 36) := by decide +kernel
theorem d7_44 : decode prog_42_method_4_code 44 = .ok (.aload_n 1, 1) := by decide +kernel
theorem d7_45 : decode prog_42_method_4_code 45 = .ok (.ldc 7, 2) := by decide +kernel
theorem d7_47 : decode prog_42_method_4_code 47 = .ok (.invokevirtual 9, 3) := by decide +kernel
theorem pd_9 : parseMethodDescriptor "(Ljava/lang/Object;)Z" = some ⟨[(.object "java/lang/Object")], some .boolean⟩ := by decide +kernel
abbrev y_11 : MethodName := ⟨"java/lang/String", "equals", "(Ljava/lang/Object;)Z"⟩
theorem d7_50 : decode prog_42_method_4_code 50 = .ok (.ifCond .eq 33, 3) := by decide +kernel
theorem d7_53 : decode prog_42_method_4_code 53 = .ok (.iconst 0, 1) := by decide +kernel
theorem d7_54 : decode prog_42_method_4_code 54 = .ok (.istore_n 2, 1) := by decide +kernel
theorem d7_55 : decode prog_42_method_4_code 55 = .ok (.goto 28, 3) := by decide +kernel
theorem d7_83 : decode prog_42_method_4_code 83 = .ok (.iload_n 2, 1) := by decide +kernel
theorem d7_84 : decode prog_42_method_4_code 84 = .ok (.tableswitch 58 0 2 #[28, 38, 48], 28) := by decide +kernel
theorem d7_112 : decode prog_42_method_4_code 112 = .ok (.new 17, 3) := by decide +kernel
theorem d7_115 : decode prog_42_method_4_code 115 = .ok (.dup, 1) := by decide +kernel
theorem d7_116 : decode prog_42_method_4_code 116 = .ok (.invokespecial 19, 3) := by decide +kernel
theorem pd_10 : parseMethodDescriptor "()V" = some ⟨[], none⟩ := by decide +kernel
theorem d7_119 : decode prog_42_method_4_code 119 = .ok (.goto 37, 3) := by decide +kernel
theorem d7_156 : decode prog_42_method_4_code 156 = .ok (.areturn, 1) := by decide +kernel
abbrev y_12 : MethodName := ⟨"castworks/bench/WidgetFactory", "of", "(Ljava/lang/String;)Lcastworks/bench/WidgetFactory;"⟩
theorem pn_11 : plainFor y_12 = true := by first | exact plainFor_of_name (by first | (simp [plainName, overriddenIn]; done) | decide +kernel) | decide +kernel
theorem ef_rmOfDark (m : MethodId) (x1 : Addr) : entryFrame m #[(.ref x1)] 3 = mkF m 0 #[sr x1, .unset, .unset] [] := by first | (simp [entryFrame, mkF, argsToLocals, Value.category]; done) | rfl
def Q_rmOfDark (Z : State) (x1 : Addr) (t1 : Addr) (kb : ClassId) (G1 : Int32) (h0 : Heap) (n0 : Nat) (v : Option Value) (h : Heap) (L : List Loc) : Prop := ∃ (r : Addr), v = some (.ref r) ∧ Fr n0 L ∧ Keep h0 h [x1] ∧ (Exa Z h r "castworks/bench/WidgetFactory$Dark")
set_option maxRecDepth 65536 in
set_option maxHeartbeats 40000000 in
theorem rmOfDark (l : Launch) (Z : State) (a0 : Array Value) (hw : ∀ d ∈ tables_1, d.before a0 Z = true) (ws : List Jvm.Cond) (x1 : Addr) (t1 : Addr) (kb : ClassId) (G1 : Int32) (h0 : Heap) (n0 : Nat) (Z0 : n0 ≤ h0.size) (hp0 : Exa Z h0 x1 "java/lang/String") (hp1 : Fld Z h0 x1 "java/lang/String" "value" "[B" (.ref t1)) (hp2 : Fld Z h0 x1 "java/lang/String" "coder" "B" (.int 0)) (hp3 : Fld Z h0 x1 "java/lang/String" "hash" "I" (.int 0)) (hp4 : Fld Z h0 x1 "java/lang/String" "hashIsZero" "Z" (.int 0)) (hp5 : Arv Z h0 t1 kb .byte (4 : Int32) [(.int 100), (.int 97), (.int 114), (.int 107)] (.int 0)) (hp6 : Exa Z h0 t1 "[B") (hp7 : n0 ≤ x1) (hp8 : t1 ≠ x1) (hp9 : Sta Z Z.heap "java/lang/String" "COMPACT_STRINGS" "Z" (.int G1)) (hG1 : ¬ (G1 = (0 : Int32))) (hp11 : Old Z n0 h0) :
    MetFree l y_12 (head1 (Jvm.Cond.code y_12 prog_42_method_4_code 3 (some (.object "castworks/bench/WidgetFactory")) :: ws) ({ frames := 4, cells := 3, slots := 20, locals := 58 } : Room)) (fun a U => a = #[(.ref x1)] ∧ Z.Warmed39 U.vm ∧ U.heap = h0 ∧ CHv Z consts_1 U.vm h0 ∧ ∀ x ∈ ([x1] : List Addr), Safe Z consts_1 U.vm h0 x) (fun _ _ _ _ _ => True) (fun _ U o U' => ∃ v L, o = .returned v ∧ Q_rmOfDark Z x1 t1 kb G1 h0 n0 v U'.heap L ∧ CHr Z consts_1 U.vm U.heap U'.vm U'.heap ∧ ReturnedEndW U o U' L ({ frames := 4, cells := 3, slots := 20, locals := 58 } : Room).cells ({ frames := 4, cells := 3, slots := 20, locals := 58 } : Room).slots) := by
 refine bodyOfW pn_11 (fun m => ef_rmOfDark m x1) ?_
 intro p e s m below meth c T0 X0 hx hby hml hown hnm hret hk hZ e0 hS C0 hsf
 have hkS := Nat.le_refl h0.size
 have sfp0 := hsf _ (List.mem_of_getElem? (i := 0) rfl)
 have N0 := Fr.nil n0
 have K0 : Keep h0 h0 [x1] := Keep.refl _ _
 have ne_t1_x1 := hp8
 have O0 := hp11
 refine go (S' := T0.setTop (mkF m 5 #[sr x1, sr x1, si (-1 : Int32)] [(.ref x1)])) (fun t k => XS.aloadN X0.here hx rfl (hb hby d7_0) rfl rfl (XS.astoreN X0.here hx rfl (hb hby d7_1) rfl rfl (l' := #[sr x1, sr x1, .unset]) rfl (XS.iconst X0.here hx rfl (hb hby d7_2) (XS.istoreN X0.here hx rfl (hb hby d7_3) rfl (l' := #[sr x1, sr x1, si (-1 : Int32)]) rfl (XS.aloadN X0.here hx rfl (hb hby d7_4) rfl rfl k))))) ?_
 have O76 : Old Z n0 h0 := O0.keep K0 (allS hp7 all0)
 obtain ⟨v77, T77, L77, X77, hQ77, st77⟩ := callV X0 hx hZ (y := y_9) (z := y_9) hown (ww hw 35 rfl) (ww hw 36 rfl) (notFace_of_selects (args := #[]) (mvT hZ (ww hw 38 rfl))) (ww hw 38 rfl) (ww hw 37 rfl) (by decide) (backOf (W := 0) (rmHcDark l Z a0 hw [] x1 t1 kb G1 h0 n0 (Nat.le_trans Z0 K0.1) hp0 hp1 hp2 hp3 hp4 hp5 hp6 hp7 hp9 hG1 O76) hZ (ww hw 39 rfl) (ww hw 4 rfl) (by decide) (by decide)) hp0 (g := (mkF m 5 #[sr x1, sr x1, si (-1 : Int32)] [(.ref x1)])) rfl (by rw [hml]; rfl) (kc := 0) (ks := 0) (argsL := []) (rest := []) (lenOf pd_8 rfl) rfl (mr0 rfl) (hb hby d7_5) e0 (by decide) (by decide)
 obtain ⟨rfl, N77q, Kq77, q77_0, q77_1⟩ := hQ77
 have N77 := Fr.app N0 N77q
 have hkS := Nat.le_trans hkS Kq77.1
 have C78 := C0.trans (CHr.keep Kq77 (allS sfp0 all0) C0.1)
 have sf79 := Safe.keep Kq77 (allS sfp0 all0) C0.1 sfp0
 have K80 : Keep h0 T77.heap [x1] := K0.trans Kq77 (allS (P := fun x => x ∈ [x1] ∨ h0.size ≤ x) (Or.inl (List.mem_of_getElem? (i := 0) rfl)) all0)
 refine go (S' := T77.setTop (mkF m 45 #[sr x1, sr x1, si (-1 : Int32)] [(.ref x1)])) (fun t k => st77 _ (lsw X77.here hx rfl (pc0 := 8) (pc' := 44) rfl (hb hby d7_8) rfl (by decide) (by decide) (by decide) (XS.aloadN X77.here hx rfl (hb hby d7_44) rfl rfl k))) ?_
 obtain ⟨la81, T81, h81, k81, lb81, lk81, X81, e81, E81, hS, hkS, hZ, hown, lE81, lC81, lV81, lA81, la81_lt, lb81_lt, Cq81, lit81, lne81, st81⟩ := ldcCH X77 hx hZ hown (ww hw 62 rfl) (own_sub own_strAtoms hw) rfl hS hkS (own_EW hw) (by decide) C78.1 (vs := [(.int 100), (.int 97), (.int 114), (.int 107)]) (z := (4 : Int32)) ⟨by decide, by decide⟩ (by decide) (by decide) (g := (mkF m 45 #[sr x1, sr x1, si (-1 : Int32)] [(.ref x1)])) rfl (hb hby d7_45) (n := 16) (by decide) (by decide) (by decide) (by decide)
 have K82 : Keep h0 h81 [x1] := K80.ext E81
 have C83 := C78.trans Cq81
 have sf84 := CHr.safe Cq81 (hp0.keep K80).lt sf79
 have ne_x1_la81 := (lne81 x1 sf84).1
 have ne_x1_lb81 := (lne81 x1 sf84).2
 have lstr81 : Str Z h81 la81 lb81 (0 : Int32) ([100, 97, 114, 107] : List Int32) := ⟨_, _, _, lE81, lV81, lC81, lA81, own_codOf rfl (by decide), by decide, Nat.le_of_ble_eq_true rfl⟩
 refine go (S' := T81.setTop (mkF m 47 #[sr x1, sr x1, si (-1 : Int32)] [(.ref la81), (.ref x1)])) st81 ?_
 have f86 : Fld Z h81 x1 "java/lang/String" "value" "[B" (.ref t1) := (q77_0.ext E81)
 have f87 : Fld Z h81 x1 "java/lang/String" "coder" "B" (.int 0) := (q77_1.ext E81)
 have str85 : Str Z h81 x1 t1 (0 : Int32) ([100, 97, 114, 107] : List Int32) := ⟨_, _, _, (hp0.keep K82), f86, f87, (hp5.keep K82 (ninS ne_t1_x1 nin0)), own_codOf rfl (by decide), by decide, Nat.le_of_ble_eq_true rfl⟩
 have O88 : Old Z n0 h81 := O0.keep K82 (allS hp7 all0)
 obtain ⟨kb89, N289, vs89, qE89, qV89, qC89, qA89, qcd89, qbd89, ql89⟩ := id str85
 obtain ⟨kb90, N290, vs90, qE90, qV90, qC90, qA90, qcd90, qbd90, ql90⟩ := id lstr81
 obtain ⟨v91, T91, L91, X91, hQ91, st91⟩ := callV X81 hx hZ (y := y_11) (z := y_11) hown (ww hw 65 rfl) (ww hw 66 rfl) (notFace_of_selects (args := #[]) (mvT hZ (ww hw 68 rfl))) (ww hw 68 rfl) (ww hw 67 rfl) (by decide) (StrChars.Road.eqW (W := 0) hZ (own_sub StrChars_wordsEq hw) (kI := 4) (ww hw 3 rfl) qE89 qV89 qC89 qA89 qcd89 qbd89 ql89 qE90 qV90 qC90 qA90 qcd90 qbd90 ql90 (hp9.ext O88.2) hG1 (by decide) (by decide)) (hp0.keep K82) (g := (mkF m 47 #[sr x1, sr x1, si (-1 : Int32)] [(.ref la81), (.ref x1)])) rfl (by rw [hml]; rfl) (Q := (fun v h' L => ((v = some (.int 1) ∧ ([100, 97, 114, 107] : List Int32) = ([100, 97, 114, 107] : List Int32)) ∨ (v = some (.int 0) ∧ ¬ ([100, 97, 114, 107] : List Int32) = ([100, 97, 114, 107] : List Int32))) ∧ L = [] ∧ h' = h81)) (kc := 0) (ks := 0) (argsL := [(.ref la81)]) (rest := []) (lenOf pd_9 rfl) rfl (mr0 rfl) (hb hby d7_47) e81 (by decide) (by decide)
 obtain ⟨hv91, rfl, e91⟩ := hQ91
 have hw91 : v91 = some (.int (if ([100, 97, 114, 107] : List Int32) = ([100, 97, 114, 107] : List Int32) then (1 : Int32) else (0 : Int32))) := by rcases hv91 with ⟨a, b⟩ | ⟨a, b⟩; rw [a, if_pos b]; rw [a, if_neg b]
 subst hw91
 have N91 := Fr.app N77 (Fr.nil n0)
 refine go (S' := T91.setTop (mkF m 50 #[sr x1, sr x1, si (-1 : Int32)] [(.int (if ([100, 97, 114, 107] : List Int32) = ([100, 97, 114, 107] : List Int32) then (1 : Int32) else (0 : Int32)))])) st91 ?_
 rw [show (if ([100, 97, 114, 107] : List Int32) = ([100, 97, 114, 107] : List Int32) then (1 : Int32) else (0 : Int32)) = (1 : Int32) from if_pos rfl]
 have hc92 : ¬ ((1 : Int32) = (0 : Int32)) := by decide
 refine go (S' := T91.setTop (mkF m 112 #[sr x1, sr x1, si 0] [])) (fun t k => XS.ifNo X91.here hx rfl (hb hby d7_50) rfl ((if0 _ _).trans (feq hc92).1) (XS.iconst X91.here hx rfl (hb hby d7_53) (XS.istoreN X91.here hx rfl (hb hby d7_54) rfl (l' := #[sr x1, sr x1, si 0]) rfl (XS.goto X91.here hx rfl (pc0 := 55) (pc' := 83) rfl (hb hby d7_55) (by decide) (by decide) (XS.iloadN X91.here hx rfl (hb hby d7_83) rfl (XS.tswIn X91.here hx rfl (pc0 := 84) (pc' := 112) rfl (hb hby d7_84) rfl (by decide) rfl (by decide) (by decide) k)))))) ?_
 obtain ⟨T93, h93, X93, e93, E93, A93, D93, -, st93⟩ := newO X91 hx hZ hown (ww hw 74 rfl) (ww hw 75 rfl) (ww hw 76 rfl) e91 (g := (mkF m 112 #[sr x1, sr x1, si 0] [])) rfl (hb hby d7_112) (by decide) (by decide)
 obtain ⟨b93, g93⟩ : ∃ z, z = h81.size := ⟨_, rfl⟩
 rw [← g93] at A93 D93 st93
 have lt_x1_b93 : x1 < b93 := by rw [g93]; exact (hp0.keep K82).lt
 have lt_t1_b93 : t1 < b93 := by rw [g93]; exact (hp6.keep K82).lt
 have lt_la81_b93 : la81 < b93 := by rw [g93]; exact lstr81.lt1
 have lt_lb81_b93 : lb81 < b93 := by rw [g93]; exact lstr81.lt2
 have ge_b93 : n0 ≤ b93 := by rw [g93]; exact (Nat.le_trans Z0 K82.1)
 have sz_b93 : h0.size ≤ b93 := by rw [g93]; exact K82.1
 have K94 : Keep h0 h93 [x1] := K82.ext E93
 have hkS := Nat.le_trans hkS E93.1
 have C95 := C83.trans (CHr.ext E93 C83.1)
 have sf96 := Safe.ext E93 C83.1 sf84
 refine go (S' := T93.setTop (mkF m 116 #[sr x1, sr x1, si 0] [(.ref b93), (.ref b93)])) (fun t k => st93 _ (XS.dup X93.here hx rfl (hb hby d7_115) rfl rfl k)) ?_
 obtain ⟨v97, T97, L97, X97, hQ97, st97⟩ := callSp X93 hx hZ (y := y_10) rfl hown (ww hw 77 rfl) (ww hw 78 rfl) (ww hw 79 rfl) (by decide) (backOf (W := 1) (rmCiDark l Z a0 hw [] b93 h93 n0 (Nat.le_trans Z0 K94.1) ) hZ (ww hw 79 rfl) (ww hw 76 rfl) (by decide) (by decide)) (g := (mkF m 116 #[sr x1, sr x1, si 0] [(.ref b93), (.ref b93)])) rfl (by rw [hml]; rfl) (a := b93) (kc := 0) (ks := 0) (argsL := []) (rest := [(.ref b93)]) (lenOf pd_10 rfl) rfl (mr0 rfl) (hb hby d7_116) e93 (by decide) (by decide)
 obtain ⟨rfl, N97q, e97⟩ := hQ97
 have N97 := Fr.app N91 N97q
 refine go (S' := T97.setTop (mkF m 156 #[sr x1, sr x1, si 0] [(.ref b93)])) (fun t k => st97 _ (XS.goto X97.here hx rfl (pc0 := 119) (pc' := 156) rfl (hb hby d7_119) (by decide) (by decide) k)) ?_
 refine finRW X97 hx hk hret rfl rfl hS hkS hZ (own_EW hw) C95 e97 (hb hby d7_156) (by decide) (by decide) ?_
 exact ⟨b93, rfl, N97, K94, A93⟩
theorem ef_rmShLight (m : MethodId) (a1 : Addr) : entryFrame m #[(.int 0), (.ref a1), (.int 0), (.int 5)] 6 = mkF m 0 #[si 0, sr a1, si 0, si 5, .unset, .unset] [] := by first | (simp [entryFrame, mkF, argsToLocals, Value.category]; done) | rfl
def Q_rmShLight (Z : State) (a1 : Addr) (kb : ClassId) (h0 : Heap) (n0 : Nat) (v : Option Value) (h : Heap) (L : List Loc) : Prop := v = some (.int 102970646) ∧ Fr n0 L ∧ h = h0
set_option maxRecDepth 65536 in
set_option maxHeartbeats 40000000 in
theorem rmShLight (l : Launch) (Z : State) (a0 : Array Value) (hw : ∀ d ∈ tables_1, d.before a0 Z = true) (ws : List Jvm.Cond) (a1 : Addr) (kb : ClassId) (h0 : Heap) (n0 : Nat) (Z0 : n0 ≤ h0.size) (hp0 : Arv Z h0 a1 kb .byte (5 : Int32) [(.int 108), (.int 105), (.int 103), (.int 104), (.int 116)] (.int 0)) :
    MetFree l y_6 (head1 (Jvm.Cond.code y_6 jdk_48_method_5_code 6 (some .int) :: ws) ({ frames := 0, cells := 0, slots := 0, locals := 0 } : Room)) (fun a U => a = #[(.int 0), (.ref a1), (.int 0), (.int 5)] ∧ Z.Warmed39 U.vm ∧ U.heap = h0) (fun _ _ _ _ _ => True) (fun _ U o U' => ∃ v L, o = .returned v ∧ Q_rmShLight Z a1 kb h0 n0 v U'.heap L ∧ FrameEnd U o U' L ({ frames := 0, cells := 0, slots := 0, locals := 0 } : Room).cells ({ frames := 0, cells := 0, slots := 0, locals := 0 } : Room).slots) := by
 refine bodyOf pn_6 (fun m => ef_rmShLight m a1) ?_
 intro p e s m below meth c T0 X0 hx hby hml hown hnm hret hk hZ e0
 have N0 := Fr.nil n0
 have K0 : Keep h0 h0 [] := Keep.refl _ _
 refine go (S' := T0.setTop (mkF m 12 #[si 0, sr a1, si 0, si 5, si 5, si 0] [(.int 5), (.int 0)])) (fun t k => XS.iloadN X0.here hx rfl (hb hby d12_0) rfl (XS.iloadN X0.here hx rfl (hb hby d12_1) rfl (XS.iadd X0.here hx rfl (hb hby d12_2) rfl (XS.istore X0.here hx rfl (hb hby d12_3) rfl (l' := #[si 0, sr a1, si 0, si 5, si 5, .unset]) rfl (XS.iloadN X0.here hx rfl (hb hby d12_5) rfl (XS.istore X0.here hx rfl (hb hby d12_6) rfl (l' := #[si 0, sr a1, si 0, si 5, si 5, si 0]) rfl (XS.iload X0.here hx rfl (hb hby d12_8) rfl (XS.iload X0.here hx rfl (hb hby d12_10) rfl k)))))))) ?_
 have hc98 : (0 : Int32) < (5 : Int32) := by decide
 refine go (S' := T0.setTop (mkF m 22 #[si 0, sr a1, si 0, si 5, si 5, si 0] [(.int 0), (.ref a1), (.int 0)])) (fun t k => XS.icmpNo X0.here hx rfl (hb hby d12_12) rfl (tlt hc98).2.1 (XS.bipush X0.here hx rfl (hb hby d12_15) (XS.iloadN X0.here hx rfl (hb hby d12_17) rfl (XS.imul X0.here hx rfl (hb hby d12_18) rfl (XS.aloadN X0.here hx rfl (hb hby d12_19) rfl rfl (XS.iload X0.here hx rfl (hb hby d12_20) rfl k)))))) ?_
 obtain ⟨cl99, Ar99, q99, S99, M99, H99, G99⟩ := id hp0
 have hin99 : ¬ ((0 : Int32) < 0 ∨ cl99.slots.size ≤ ((0 : Int32)).toNatClampNeg) := inb_of S99 ⟨by decide, by decide⟩
 have hat99 : cl99.slots[((0 : Int32)).toNatClampNeg]? = some (.int 108) := Has.at H99 hin99 rfl
 refine go (S' := T0.setTop (mkF m 10 #[si 108, sr a1, si 0, si 5, si 5, si 1] [(.int 1)])) (fun t k => X0.baloadBytes hx (j := (0 : Int32)) (v := (.int 108)) (by rw [e0]; exact Ar99.1) (State.isArrayOf_alike hZ.alike Ar99.2.1) Ar99.2.2 hin99 hat99 (g := (mkF m 22 #[si 0, sr a1, si 0, si 5, si 5, si 0] [(.int 0), (.ref a1), (.int 0)])) rfl rfl (hb hby d12_22) _ (XS.sipush X0.here hx rfl (hb hby d12_23) (XS.iand X0.here hx rfl (hb hby d12_26) rfl (XS.iadd X0.here hx rfl (hb hby d12_27) rfl (XS.istoreN X0.here hx rfl (hb hby d12_28) rfl (l' := #[si 108, sr a1, si 0, si 5, si 5, si 0]) rfl (XS.iinc X0.here hx rfl (hb hby d12_29) rfl (l' := #[si 108, sr a1, si 0, si 5, si 5, si 1]) rfl (XS.goto X0.here hx rfl (pc0 := 32) (pc' := 8) rfl (hb hby d12_32) (by decide) (by decide) (XS.iload X0.here hx rfl (hb hby d12_8) rfl k)))))))) ?_
 refine go (S' := T0.setTop (mkF m 12 #[si 108, sr a1, si 0, si 5, si 5, si 1] [(.int 5), (.int 1)])) (fun t k => XS.iload X0.here hx rfl (hb hby d12_10) rfl k) ?_
 have hc100 : (1 : Int32) < (5 : Int32) := by decide
 refine go (S' := T0.setTop (mkF m 22 #[si 108, sr a1, si 0, si 5, si 5, si 1] [(.int 1), (.ref a1), (.int 3348)])) (fun t k => XS.icmpNo X0.here hx rfl (hb hby d12_12) rfl (tlt hc100).2.1 (XS.bipush X0.here hx rfl (hb hby d12_15) (XS.iloadN X0.here hx rfl (hb hby d12_17) rfl (XS.imul X0.here hx rfl (hb hby d12_18) rfl (XS.aloadN X0.here hx rfl (hb hby d12_19) rfl rfl (XS.iload X0.here hx rfl (hb hby d12_20) rfl k)))))) ?_
 obtain ⟨cl101, Ar101, q101, S101, M101, H101, G101⟩ := id hp0
 have hin101 : ¬ ((1 : Int32) < 0 ∨ cl101.slots.size ≤ ((1 : Int32)).toNatClampNeg) := inb_of S101 ⟨by decide, by decide⟩
 have hat101 : cl101.slots[((1 : Int32)).toNatClampNeg]? = some (.int 105) := Has.at H101 hin101 rfl
 refine go (S' := T0.setTop (mkF m 10 #[si 3453, sr a1, si 0, si 5, si 5, si 2] [(.int 2)])) (fun t k => X0.baloadBytes hx (j := (1 : Int32)) (v := (.int 105)) (by rw [e0]; exact Ar101.1) (State.isArrayOf_alike hZ.alike Ar101.2.1) Ar101.2.2 hin101 hat101 (g := (mkF m 22 #[si 108, sr a1, si 0, si 5, si 5, si 1] [(.int 1), (.ref a1), (.int 3348)])) rfl rfl (hb hby d12_22) _ (XS.sipush X0.here hx rfl (hb hby d12_23) (XS.iand X0.here hx rfl (hb hby d12_26) rfl (XS.iadd X0.here hx rfl (hb hby d12_27) rfl (XS.istoreN X0.here hx rfl (hb hby d12_28) rfl (l' := #[si 3453, sr a1, si 0, si 5, si 5, si 1]) rfl (XS.iinc X0.here hx rfl (hb hby d12_29) rfl (l' := #[si 3453, sr a1, si 0, si 5, si 5, si 2]) rfl (XS.goto X0.here hx rfl (pc0 := 32) (pc' := 8) rfl (hb hby d12_32) (by decide) (by decide) (XS.iload X0.here hx rfl (hb hby d12_8) rfl k)))))))) ?_
 refine go (S' := T0.setTop (mkF m 12 #[si 3453, sr a1, si 0, si 5, si 5, si 2] [(.int 5), (.int 2)])) (fun t k => XS.iload X0.here hx rfl (hb hby d12_10) rfl k) ?_
 have hc102 : (2 : Int32) < (5 : Int32) := by decide
 refine go (S' := T0.setTop (mkF m 22 #[si 3453, sr a1, si 0, si 5, si 5, si 2] [(.int 2), (.ref a1), (.int 107043)])) (fun t k => XS.icmpNo X0.here hx rfl (hb hby d12_12) rfl (tlt hc102).2.1 (XS.bipush X0.here hx rfl (hb hby d12_15) (XS.iloadN X0.here hx rfl (hb hby d12_17) rfl (XS.imul X0.here hx rfl (hb hby d12_18) rfl (XS.aloadN X0.here hx rfl (hb hby d12_19) rfl rfl (XS.iload X0.here hx rfl (hb hby d12_20) rfl k)))))) ?_
 obtain ⟨cl103, Ar103, q103, S103, M103, H103, G103⟩ := id hp0
 have hin103 : ¬ ((2 : Int32) < 0 ∨ cl103.slots.size ≤ ((2 : Int32)).toNatClampNeg) := inb_of S103 ⟨by decide, by decide⟩
 have hat103 : cl103.slots[((2 : Int32)).toNatClampNeg]? = some (.int 103) := Has.at H103 hin103 rfl
 refine go (S' := T0.setTop (mkF m 10 #[si 107146, sr a1, si 0, si 5, si 5, si 3] [(.int 3)])) (fun t k => X0.baloadBytes hx (j := (2 : Int32)) (v := (.int 103)) (by rw [e0]; exact Ar103.1) (State.isArrayOf_alike hZ.alike Ar103.2.1) Ar103.2.2 hin103 hat103 (g := (mkF m 22 #[si 3453, sr a1, si 0, si 5, si 5, si 2] [(.int 2), (.ref a1), (.int 107043)])) rfl rfl (hb hby d12_22) _ (XS.sipush X0.here hx rfl (hb hby d12_23) (XS.iand X0.here hx rfl (hb hby d12_26) rfl (XS.iadd X0.here hx rfl (hb hby d12_27) rfl (XS.istoreN X0.here hx rfl (hb hby d12_28) rfl (l' := #[si 107146, sr a1, si 0, si 5, si 5, si 2]) rfl (XS.iinc X0.here hx rfl (hb hby d12_29) rfl (l' := #[si 107146, sr a1, si 0, si 5, si 5, si 3]) rfl (XS.goto X0.here hx rfl (pc0 := 32) (pc' := 8) rfl (hb hby d12_32) (by decide) (by decide) (XS.iload X0.here hx rfl (hb hby d12_8) rfl k)))))))) ?_
 refine go (S' := T0.setTop (mkF m 12 #[si 107146, sr a1, si 0, si 5, si 5, si 3] [(.int 5), (.int 3)])) (fun t k => XS.iload X0.here hx rfl (hb hby d12_10) rfl k) ?_
 have hc104 : (3 : Int32) < (5 : Int32) := by decide
 refine go (S' := T0.setTop (mkF m 22 #[si 107146, sr a1, si 0, si 5, si 5, si 3] [(.int 3), (.ref a1), (.int 3321526)])) (fun t k => XS.icmpNo X0.here hx rfl (hb hby d12_12) rfl (tlt hc104).2.1 (XS.bipush X0.here hx rfl (hb hby d12_15) (XS.iloadN X0.here hx rfl (hb hby d12_17) rfl (XS.imul X0.here hx rfl (hb hby d12_18) rfl (XS.aloadN X0.here hx rfl (hb hby d12_19) rfl rfl (XS.iload X0.here hx rfl (hb hby d12_20) rfl k)))))) ?_
 obtain ⟨cl105, Ar105, q105, S105, M105, H105, G105⟩ := id hp0
 have hin105 : ¬ ((3 : Int32) < 0 ∨ cl105.slots.size ≤ ((3 : Int32)).toNatClampNeg) := inb_of S105 ⟨by decide, by decide⟩
 have hat105 : cl105.slots[((3 : Int32)).toNatClampNeg]? = some (.int 104) := Has.at H105 hin105 rfl
 refine go (S' := T0.setTop (mkF m 10 #[si 3321630, sr a1, si 0, si 5, si 5, si 4] [(.int 4)])) (fun t k => X0.baloadBytes hx (j := (3 : Int32)) (v := (.int 104)) (by rw [e0]; exact Ar105.1) (State.isArrayOf_alike hZ.alike Ar105.2.1) Ar105.2.2 hin105 hat105 (g := (mkF m 22 #[si 107146, sr a1, si 0, si 5, si 5, si 3] [(.int 3), (.ref a1), (.int 3321526)])) rfl rfl (hb hby d12_22) _ (XS.sipush X0.here hx rfl (hb hby d12_23) (XS.iand X0.here hx rfl (hb hby d12_26) rfl (XS.iadd X0.here hx rfl (hb hby d12_27) rfl (XS.istoreN X0.here hx rfl (hb hby d12_28) rfl (l' := #[si 3321630, sr a1, si 0, si 5, si 5, si 3]) rfl (XS.iinc X0.here hx rfl (hb hby d12_29) rfl (l' := #[si 3321630, sr a1, si 0, si 5, si 5, si 4]) rfl (XS.goto X0.here hx rfl (pc0 := 32) (pc' := 8) rfl (hb hby d12_32) (by decide) (by decide) (XS.iload X0.here hx rfl (hb hby d12_8) rfl k)))))))) ?_
 refine go (S' := T0.setTop (mkF m 12 #[si 3321630, sr a1, si 0, si 5, si 5, si 4] [(.int 5), (.int 4)])) (fun t k => XS.iload X0.here hx rfl (hb hby d12_10) rfl k) ?_
 have hc106 : (4 : Int32) < (5 : Int32) := by decide
 refine go (S' := T0.setTop (mkF m 22 #[si 3321630, sr a1, si 0, si 5, si 5, si 4] [(.int 4), (.ref a1), (.int 102970530)])) (fun t k => XS.icmpNo X0.here hx rfl (hb hby d12_12) rfl (tlt hc106).2.1 (XS.bipush X0.here hx rfl (hb hby d12_15) (XS.iloadN X0.here hx rfl (hb hby d12_17) rfl (XS.imul X0.here hx rfl (hb hby d12_18) rfl (XS.aloadN X0.here hx rfl (hb hby d12_19) rfl rfl (XS.iload X0.here hx rfl (hb hby d12_20) rfl k)))))) ?_
 obtain ⟨cl107, Ar107, q107, S107, M107, H107, G107⟩ := id hp0
 have hin107 : ¬ ((4 : Int32) < 0 ∨ cl107.slots.size ≤ ((4 : Int32)).toNatClampNeg) := inb_of S107 ⟨by decide, by decide⟩
 have hat107 : cl107.slots[((4 : Int32)).toNatClampNeg]? = some (.int 116) := Has.at H107 hin107 rfl
 refine go (S' := T0.setTop (mkF m 10 #[si 102970646, sr a1, si 0, si 5, si 5, si 5] [(.int 5)])) (fun t k => X0.baloadBytes hx (j := (4 : Int32)) (v := (.int 116)) (by rw [e0]; exact Ar107.1) (State.isArrayOf_alike hZ.alike Ar107.2.1) Ar107.2.2 hin107 hat107 (g := (mkF m 22 #[si 3321630, sr a1, si 0, si 5, si 5, si 4] [(.int 4), (.ref a1), (.int 102970530)])) rfl rfl (hb hby d12_22) _ (XS.sipush X0.here hx rfl (hb hby d12_23) (XS.iand X0.here hx rfl (hb hby d12_26) rfl (XS.iadd X0.here hx rfl (hb hby d12_27) rfl (XS.istoreN X0.here hx rfl (hb hby d12_28) rfl (l' := #[si 102970646, sr a1, si 0, si 5, si 5, si 4]) rfl (XS.iinc X0.here hx rfl (hb hby d12_29) rfl (l' := #[si 102970646, sr a1, si 0, si 5, si 5, si 5]) rfl (XS.goto X0.here hx rfl (pc0 := 32) (pc' := 8) rfl (hb hby d12_32) (by decide) (by decide) (XS.iload X0.here hx rfl (hb hby d12_8) rfl k)))))))) ?_
 refine go (S' := T0.setTop (mkF m 12 #[si 102970646, sr a1, si 0, si 5, si 5, si 5] [(.int 5), (.int 5)])) (fun t k => XS.iload X0.here hx rfl (hb hby d12_10) rfl k) ?_
 have hc108 : ¬ ((5 : Int32) < (5 : Int32)) := by decide
 refine go (S' := T0.setTop (mkF m 36 #[si 102970646, sr a1, si 0, si 5, si 5, si 5] [(.int 102970646)])) (fun t k => XS.icmpYes X0.here hx rfl (pc0 := 12) (pc' := 35) rfl (hb hby d12_12) rfl (flt hc108).2.1 (by decide) (by decide) (XS.iloadN X0.here hx rfl (hb hby d12_35) rfl k)) ?_
 refine finI X0 hx hk hret (hb hby d12_36) (by decide) (by decide) ?_
 rw [e0]
 exact ⟨rfl, N0, rfl⟩
theorem ef_rmVhLight (m : MethodId) (a1 : Addr) : entryFrame m #[(.ref a1), (.int 0), (.int 5), (.int 0), (.int 4)] 5 = mkF m 0 #[sr a1, si 0, si 5, si 0, si 4] [] := by first | (simp [entryFrame, mkF, argsToLocals, Value.category]; done) | rfl
def Q_rmVhLight (Z : State) (a1 : Addr) (kb : ClassId) (h0 : Heap) (n0 : Nat) (v : Option Value) (h : Heap) (L : List Loc) : Prop := v = some (.int 102970646) ∧ Fr n0 L ∧ h = h0
set_option maxRecDepth 65536 in
set_option maxHeartbeats 40000000 in
theorem rmVhLight (l : Launch) (Z : State) (a0 : Array Value) (hw : ∀ d ∈ tables_1, d.before a0 Z = true) (ws : List Jvm.Cond) (a1 : Addr) (kb : ClassId) (h0 : Heap) (n0 : Nat) (Z0 : n0 ≤ h0.size) (hp0 : Arv Z h0 a1 kb .byte (5 : Int32) [(.int 108), (.int 105), (.int 103), (.int 104), (.int 116)] (.int 0)) (hp1 : Exa Z h0 a1 "[B") :
    MetFree l y_7 (head1 (Jvm.Cond.code y_7 jdk_48_method_4_code 5 (some .int) :: ws) ({ frames := 1, cells := 0, slots := 0, locals := 17 } : Room)) (fun a U => a = #[(.ref a1), (.int 0), (.int 5), (.int 0), (.int 4)] ∧ Z.Warmed39 U.vm ∧ U.heap = h0) (fun _ _ _ _ _ => True) (fun _ U o U' => ∃ v L, o = .returned v ∧ Q_rmVhLight Z a1 kb h0 n0 v U'.heap L ∧ FrameEnd U o U' L ({ frames := 1, cells := 0, slots := 0, locals := 17 } : Room).cells ({ frames := 1, cells := 0, slots := 0, locals := 17 } : Room).slots) := by
 refine bodyOf pn_7 (fun m => ef_rmVhLight m a1) ?_
 intro p e s m below meth c T0 X0 hx hby hml hown hnm hret hk hZ e0
 have N0 := Fr.nil n0
 have K0 : Keep h0 h0 [] := Keep.refl _ _
 refine go (S' := T0.setTop (mkF m 46 #[sr a1, si 0, si 5, si 0, si 4] [(.ref a1), (.int 0)])) (fun t k => XS.iload X0.here hx rfl (hb hby d11_0) rfl (XS.tswIn X0.here hx rfl (pc0 := 2) (pc' := 44) rfl (hb hby d11_2) rfl (by decide) rfl (by decide) (by decide) (XS.iloadN X0.here hx rfl (hb hby d11_44) rfl (XS.aloadN X0.here hx rfl (hb hby d11_45) rfl rfl k)))) ?_
 obtain ⟨T109, X109, e109, st109⟩ := castY X0 hx hZ hown (ww hw 57 rfl) e0 (Ins.self hp1) (g := (mkF m 46 #[sr a1, si 0, si 5, si 0, si 4] [(.ref a1), (.int 0)])) rfl rfl (hb hby d11_46)
 refine go (S' := T109.setTop (mkF m 51 #[sr a1, si 0, si 5, si 0, si 4] [(.int 5), (.int 0), (.ref a1), (.int 0)])) (fun t k => st109 _ (XS.iloadN X109.here hx rfl (hb hby d11_49) rfl (XS.iloadN X109.here hx rfl (hb hby d11_50) rfl k))) ?_
 obtain ⟨v110, T110, L110, X110, hQ110, st110⟩ := callSt X109 hx hZ (y := y_6) hown (ww hw 59 rfl) (ww hw 60 rfl) (ww hw 55 rfl) (ww hw 61 rfl) (by decide) (backOf (W := 0) (rmShLight l Z a0 hw [] a1 kb h0 n0 (Nat.le_trans Z0 K0.1) hp0) hZ (ww hw 61 rfl) (ww hw 55 rfl) (by decide) (by decide)) (g := (mkF m 51 #[sr a1, si 0, si 5, si 0, si 4] [(.int 5), (.int 0), (.ref a1), (.int 0)])) rfl (by rw [hml]; rfl) (kc := 0) (ks := 0) (argsL := [(.int 0), (.ref a1), (.int 0), (.int 5)]) (rest := []) (lenOf pd_4 rfl) rfl (mr0 rfl) (hb hby d11_51) e109 (by decide) (by decide)
 obtain ⟨rfl, N110q, e110⟩ := hQ110
 have N110 := Fr.app N0 N110q
 refine go (S' := T110.setTop (mkF m 157 #[sr a1, si 0, si 5, si 0, si 4] [(.int 102970646)])) (fun t k => st110 _ (XS.goto X110.here hx rfl (pc0 := 54) (pc' := 157) rfl (hb hby d11_54) (by decide) (by decide) k)) ?_
 refine finI X110 hx hk hret (hb hby d11_157) (by decide) (by decide) ?_
 rw [e110]
 exact ⟨rfl, N110, rfl⟩
theorem ef_rmLhLight (m : MethodId) (a1 : Addr) : entryFrame m #[(.ref a1)] 1 = mkF m 0 #[sr a1] [] := by first | (simp [entryFrame, mkF, argsToLocals, Value.category]; done) | rfl
def Q_rmLhLight (Z : State) (a1 : Addr) (kb : ClassId) (h0 : Heap) (n0 : Nat) (v : Option Value) (h : Heap) (L : List Loc) : Prop := v = some (.int 102970646) ∧ Fr n0 L ∧ h = h0
set_option maxRecDepth 65536 in
set_option maxHeartbeats 40000000 in
theorem rmLhLight (l : Launch) (Z : State) (a0 : Array Value) (hw : ∀ d ∈ tables_1, d.before a0 Z = true) (ws : List Jvm.Cond) (a1 : Addr) (kb : ClassId) (h0 : Heap) (n0 : Nat) (Z0 : n0 ≤ h0.size) (hp0 : Arv Z h0 a1 kb .byte (5 : Int32) [(.int 108), (.int 105), (.int 103), (.int 104), (.int 116)] (.int 0)) (hp1 : Exa Z h0 a1 "[B") :
    MetFree l y_8 (head1 (Jvm.Cond.code y_8 jdk_43_method_21_code 1 (some .int) :: ws) ({ frames := 2, cells := 0, slots := 0, locals := 33 } : Room)) (fun a U => a = #[(.ref a1)] ∧ Z.Warmed39 U.vm ∧ U.heap = h0) (fun _ _ _ _ _ => True) (fun _ U o U' => ∃ v L, o = .returned v ∧ Q_rmLhLight Z a1 kb h0 n0 v U'.heap L ∧ FrameEnd U o U' L ({ frames := 2, cells := 0, slots := 0, locals := 33 } : Room).cells ({ frames := 2, cells := 0, slots := 0, locals := 33 } : Room).slots) := by
 refine bodyOf pn_8 (fun m => ef_rmLhLight m a1) ?_
 intro p e s m below meth c T0 X0 hx hby hml hown hnm hret hk hZ e0
 have N0 := Fr.nil n0
 have K0 : Keep h0 h0 [] := Keep.refl _ _
 refine go (S' := T0.setTop (mkF m 1 #[sr a1] [(.ref a1)])) (fun t k => XS.aloadN X0.here hx rfl (hb hby d10_0) rfl rfl k) ?_
 obtain ⟨cl111, Ar111, -, S111, M111, -, -⟩ := id hp0
 refine go (S' := T0.setTop (mkF m 45 #[sr a1] [(.ref a1), (.int 0), (.ref a1)])) (fun t k => X0.arraylength hx (by rw [e0]; exact Ar111.1) (State.isArrayOf_alike hZ.alike Ar111.2.1) (g := (mkF m 1 #[sr a1] [(.ref a1)])) rfl rfl (hb hby d10_1) _ (by rw [len_of S111 M111]; exact (lsw X0.here hx rfl (pc0 := 2) (pc' := 42) rfl (hb hby d10_2) rfl (by decide) (by decide) (by decide) (XS.aloadN X0.here hx rfl (hb hby d10_42) rfl rfl (XS.iconst X0.here hx rfl (hb hby d10_43) (XS.aloadN X0.here hx rfl (hb hby d10_44) rfl rfl k)))))) ?_
 obtain ⟨cl112, Ar112, -, S112, M112, -, -⟩ := id hp0
 refine go (S' := T0.setTop (mkF m 48 #[sr a1] [(.int 4), (.int 0), (.int 5), (.int 0), (.ref a1)])) (fun t k => X0.arraylength hx (by rw [e0]; exact Ar112.1) (State.isArrayOf_alike hZ.alike Ar112.2.1) (g := (mkF m 45 #[sr a1] [(.ref a1), (.int 0), (.ref a1)])) rfl rfl (hb hby d10_45) _ (by rw [len_of S112 M112]; exact (XS.iconst X0.here hx rfl (hb hby d10_46) (XS.iconst X0.here hx rfl (hb hby d10_47) k)))) ?_
 obtain ⟨v113, T113, L113, X113, hQ113, st113⟩ := callSt X0 hx hZ (y := y_7) hown (ww hw 53 rfl) (ww hw 54 rfl) (ww hw 55 rfl) (ww hw 56 rfl) (by decide) (backOf (W := 0) (rmVhLight l Z a0 hw [] a1 kb h0 n0 (Nat.le_trans Z0 K0.1) hp0 hp1) hZ (ww hw 56 rfl) (ww hw 55 rfl) (by decide) (by decide)) (g := (mkF m 48 #[sr a1] [(.int 4), (.int 0), (.int 5), (.int 0), (.ref a1)])) rfl (by rw [hml]; rfl) (kc := 0) (ks := 0) (argsL := [(.ref a1), (.int 0), (.int 5), (.int 0), (.int 4)]) (rest := []) (lenOf pd_5 rfl) rfl (mr0 rfl) (hb hby d10_48) e0 (by decide) (by decide)
 obtain ⟨rfl, N113q, e113⟩ := hQ113
 have N113 := Fr.app N0 N113q
 refine go (S' := T113.setTop (mkF m 51 #[sr a1] [(.int 102970646)])) st113 ?_
 refine finI X113 hx hk hret (hb hby d10_51) (by decide) (by decide) ?_
 rw [e113]
 exact ⟨rfl, N113, rfl⟩
theorem ef_rmHcLight (m : MethodId) (x1 : Addr) : entryFrame m #[(.ref x1)] 2 = mkF m 0 #[sr x1, .unset] [] := by first | (simp [entryFrame, mkF, argsToLocals, Value.category]; done) | rfl
def Q_rmHcLight (Z : State) (x1 : Addr) (t1 : Addr) (kb : ClassId) (G1 : Int32) (h0 : Heap) (n0 : Nat) (v : Option Value) (h : Heap) (L : List Loc) : Prop := v = some (.int 102970646) ∧ Fr n0 L ∧ Keep h0 h [x1] ∧ (Fld Z h x1 "java/lang/String" "value" "[B" (.ref t1)) ∧ (Fld Z h x1 "java/lang/String" "coder" "B" (.int 0))
set_option maxRecDepth 65536 in
set_option maxHeartbeats 40000000 in
theorem rmHcLight (l : Launch) (Z : State) (a0 : Array Value) (hw : ∀ d ∈ tables_1, d.before a0 Z = true) (ws : List Jvm.Cond) (x1 : Addr) (t1 : Addr) (kb : ClassId) (G1 : Int32) (h0 : Heap) (n0 : Nat) (Z0 : n0 ≤ h0.size) (hp0 : Exa Z h0 x1 "java/lang/String") (hp1 : Fld Z h0 x1 "java/lang/String" "value" "[B" (.ref t1)) (hp2 : Fld Z h0 x1 "java/lang/String" "coder" "B" (.int 0)) (hp3 : Fld Z h0 x1 "java/lang/String" "hash" "I" (.int 0)) (hp4 : Fld Z h0 x1 "java/lang/String" "hashIsZero" "Z" (.int 0)) (hp5 : Arv Z h0 t1 kb .byte (5 : Int32) [(.int 108), (.int 105), (.int 103), (.int 104), (.int 116)] (.int 0)) (hp6 : Exa Z h0 t1 "[B") (hp7 : n0 ≤ x1) (hp8 : Sta Z Z.heap "java/lang/String" "COMPACT_STRINGS" "Z" (.int G1)) (hG1 : ¬ (G1 = (0 : Int32))) (hp10 : Old Z n0 h0) :
    MetFree l y_9 (head1 (Jvm.Cond.code y_9 jdk_42_method_78_code 2 (some .int) :: ws) ({ frames := 3, cells := 0, slots := 0, locals := 45 } : Room)) (fun a U => a = #[(.ref x1)] ∧ Z.Warmed39 U.vm ∧ U.heap = h0) (fun _ _ _ _ _ => True) (fun _ U o U' => ∃ v L, o = .returned v ∧ Q_rmHcLight Z x1 t1 kb G1 h0 n0 v U'.heap L ∧ FrameEnd U o U' L ({ frames := 3, cells := 0, slots := 0, locals := 45 } : Room).cells ({ frames := 3, cells := 0, slots := 0, locals := 45 } : Room).slots) := by
 refine bodyOf pn_9 (fun m => ef_rmHcLight m x1) ?_
 intro p e s m below meth c T0 X0 hx hby hml hown hnm hret hk hZ e0
 have N0 := Fr.nil n0
 have K0 : Keep h0 h0 [x1] := Keep.refl _ _
 have O0 := hp10
 refine go (S' := T0.setTop (mkF m 1 #[sr x1, .unset] [(.ref x1)])) (fun t k => XS.aloadN X0.here hx rfl (hb hby d8_0) rfl rfl k) ?_
 obtain ⟨T114, X114, e114, st114⟩ := getF X0 hx hZ hown (host := "") (Or.inl (ww hw 40 rfl)) Via.refl e0 hp3 (g := (mkF m 1 #[sr x1, .unset] [(.ref x1)])) rfl rfl (hb hby d8_1)
 refine go (S' := T114.setTop (mkF m 6 #[sr x1, si 0] [(.int 0)])) (fun t k => st114 _ (XS.istoreN X114.here hx rfl (hb hby d8_4) rfl (l' := #[sr x1, si 0]) rfl (XS.iloadN X114.here hx rfl (hb hby d8_5) rfl k))) ?_
 have hc115 : (0 : Int32) = (0 : Int32) := by decide
 refine go (S' := T114.setTop (mkF m 10 #[sr x1, si 0] [(.ref x1)])) (fun t k => XS.ifNo X114.here hx rfl (hb hby d8_6) rfl ((if0 _ _).trans (teq hc115).2) (XS.aloadN X114.here hx rfl (hb hby d8_9) rfl rfl k)) ?_
 obtain ⟨T116, X116, e116, st116⟩ := getF X114 hx hZ hown (host := "") (Or.inl (ww hw 42 rfl)) Via.refl e114 hp4 (g := (mkF m 10 #[sr x1, si 0] [(.ref x1)])) rfl rfl (hb hby d8_10)
 refine go (S' := T116.setTop (mkF m 13 #[sr x1, si 0] [(.int 0)])) st116 ?_
 have hc117 : (0 : Int32) = (0 : Int32) := by decide
 refine go (S' := T116.setTop (mkF m 17 #[sr x1, si 0] [(.ref x1)])) (fun t k => XS.ifNo X116.here hx rfl (hb hby d8_13) rfl ((if0 _ _).trans (teq hc117).2) (XS.aloadN X116.here hx rfl (hb hby d8_16) rfl rfl k)) ?_
 have O118 : Old Z n0 h0 := O0.keep K0 (allS hp7 all0)
 obtain ⟨v119, T119, L119, X119, hQ119, st119⟩ := callV X116 hx hZ (y := y_5) (z := y_5) hown (ww hw 44 rfl) (ww hw 45 rfl) (notFace_of_selects (args := #[]) (mvT hZ (ww hw 47 rfl))) (ww hw 47 rfl) (ww hw 46 rfl) (by decide) (backOf (W := 0) (rmIsl l Z a0 hw [] x1 G1 h0 n0 (Nat.le_trans Z0 K0.1) hp2 hp8 hG1 O118) hZ (ww hw 48 rfl) (ww hw 4 rfl) (by decide) (by decide)) hp0 (g := (mkF m 17 #[sr x1, si 0] [(.ref x1)])) rfl (by rw [hml]; rfl) (kc := 0) (ks := 0) (argsL := []) (rest := []) (lenOf pd_6 rfl) rfl (mr0 rfl) (hb hby d8_17) e116 (by decide) (by decide)
 obtain ⟨rfl, N119q, e119⟩ := hQ119
 have N119 := Fr.app N0 N119q
 refine go (S' := T119.setTop (mkF m 20 #[sr x1, si 0] [(.int 1)])) st119 ?_
 have hc120 : ¬ ((1 : Int32) = (0 : Int32)) := by decide
 refine go (S' := T119.setTop (mkF m 24 #[sr x1, si 0] [(.ref x1)])) (fun t k => XS.ifNo X119.here hx rfl (hb hby d8_20) rfl ((if0 _ _).trans (feq hc120).1) (XS.aloadN X119.here hx rfl (hb hby d8_23) rfl rfl k)) ?_
 obtain ⟨T121, X121, e121, st121⟩ := getF X119 hx hZ hown (host := "") (Or.inl (ww hw 29 rfl)) Via.refl e119 hp1 (g := (mkF m 24 #[sr x1, si 0] [(.ref x1)])) rfl rfl (hb hby d8_24)
 refine go (S' := T121.setTop (mkF m 27 #[sr x1, si 0] [(.ref t1)])) st121 ?_
 obtain ⟨v122, T122, L122, X122, hQ122, st122⟩ := callSt X121 hx hZ (y := y_8) hown (ww hw 49 rfl) (ww hw 50 rfl) (ww hw 51 rfl) (ww hw 52 rfl) (by decide) (backOf (W := 0) (rmLhLight l Z a0 hw [] t1 kb h0 n0 (Nat.le_trans Z0 K0.1) hp5 hp6) hZ (ww hw 52 rfl) (ww hw 51 rfl) (by decide) (by decide)) (g := (mkF m 27 #[sr x1, si 0] [(.ref t1)])) rfl (by rw [hml]; rfl) (kc := 0) (ks := 0) (argsL := [(.ref t1)]) (rest := []) (lenOf pd_7 rfl) rfl (mr0 rfl) (hb hby d8_27) e121 (by decide) (by decide)
 obtain ⟨rfl, N122q, e122⟩ := hQ122
 have N122 := Fr.app N119 N122q
 refine go (S' := T122.setTop (mkF m 42 #[sr x1, si 102970646] [(.int 102970646)])) (fun t k => st122 _ (XS.goto X122.here hx rfl (pc0 := 30) (pc' := 40) rfl (hb hby d8_30) (by decide) (by decide) (XS.istoreN X122.here hx rfl (hb hby d8_40) rfl (l' := #[sr x1, si 102970646]) rfl (XS.iloadN X122.here hx rfl (hb hby d8_41) rfl k)))) ?_
 have hc123 : ¬ ((102970646 : Int32) = (0 : Int32)) := by decide
 refine go (S' := T122.setTop (mkF m 55 #[sr x1, si 102970646] [(.int 102970646), (.ref x1)])) (fun t k => XS.ifYes X122.here hx rfl (pc0 := 42) (pc' := 53) rfl (hb hby d8_42) rfl ((if0 _ _).trans (feq hc123).2) (by decide) (by decide) (XS.aloadN X122.here hx rfl (hb hby d8_53) rfl rfl (XS.iloadN X122.here hx rfl (hb hby d8_54) rfl k))) ?_
 obtain ⟨T124, h124, X124, e124, W124, st124⟩ := putF X122 hx hZ hown (host := "") (Or.inl (ww hw 40 rfl)) Via.refl e122 hp3 hp0 (Or.inl (ww hw 41 rfl)) (ww hw 3 rfl) (ty := .int) (by decide) rfl rfl (g := (mkF m 55 #[sr x1, si 102970646] [(.int 102970646), (.ref x1)])) rfl rfl (hb hby d8_55)
 have K125 : Keep h0 h124 [x1] := K0.wr W124 (Or.inl (List.mem_of_getElem? (i := 0) rfl))
 have N126 := Fr.snoc X124 N122 hp7
 have f127 : Fld Z h124 x1 "java/lang/String" "hash" "I" (.int 102970646) := (Fld.same W124 hp3)
 refine go (S' := T124.setTop (mkF m 59 #[sr x1, si 102970646] [(.int 102970646)])) (fun t k => st124 _ (XS.iloadN X124.here hx rfl (hb hby d8_58) rfl k)) ?_
 refine finI X124 hx hk hret (hb hby d8_59) (by decide) (by decide) ?_
 have f128 : Fld Z h124 x1 "java/lang/String" "value" "[B" (.ref t1) := (Fld.other W124 hp1 (Or.inr (slot_ne (Or.inr (ww hw 30 rfl)) (Or.inl (ww hw 41 rfl)) (by decide) (t := (.array .byte)) (t' := .int) (by decide) (by decide))))
 have f129 : Fld Z h124 x1 "java/lang/String" "coder" "B" (.int 0) := (Fld.other W124 hp2 (Or.inr (slot_ne (Or.inr (ww hw 28 rfl)) (Or.inl (ww hw 41 rfl)) (by decide) (t := .byte) (t' := .int) (by decide) (by decide))))
 rw [e124]
 exact ⟨rfl, N126, K125, f128, f129⟩
theorem d17_0 : decode prog_44_method_1_code 0 = .ok (.aload_n 0, 1) := by decide +kernel
theorem d17_1 : decode prog_44_method_1_code 1 = .ok (.invokespecial 1, 3) := by decide +kernel
theorem d17_4 : decode prog_44_method_1_code 4 = .ok (.return_, 1) := by decide +kernel
abbrev y_13 : MethodName := ⟨"castworks/bench/WidgetFactory$Light", "<init>", "()V"⟩
theorem pn_12 : plainFor y_13 = true := by first | exact plainFor_of_name (by first | (simp [plainName, overriddenIn]; done) | decide +kernel) | decide +kernel
theorem ef_rmCiLight (m : MethodId) (a1 : Addr) : entryFrame m #[(.ref a1)] 1 = mkF m 0 #[sr a1] [] := by first | (simp [entryFrame, mkF, argsToLocals, Value.category]; done) | rfl
def Q_rmCiLight (Z : State) (a1 : Addr) (h0 : Heap) (n0 : Nat) (v : Option Value) (h : Heap) (L : List Loc) : Prop := v = none ∧ Fr n0 L ∧ h = h0
set_option maxRecDepth 65536 in
set_option maxHeartbeats 40000000 in
theorem rmCiLight (l : Launch) (Z : State) (a0 : Array Value) (hw : ∀ d ∈ tables_1, d.before a0 Z = true) (ws : List Jvm.Cond) (a1 : Addr) (h0 : Heap) (n0 : Nat) (Z0 : n0 ≤ h0.size)  :
    MetFree l y_13 (head1 (Jvm.Cond.code y_13 prog_44_method_1_code 1 none :: ws) ({ frames := 1, cells := 0, slots := 0, locals := 12 } : Room)) (fun a U => a = #[(.ref a1)] ∧ Z.Warmed39 U.vm ∧ U.heap = h0) (fun _ _ _ _ _ => True) (fun _ U o U' => ∃ v L, o = .returned v ∧ Q_rmCiLight Z a1 h0 n0 v U'.heap L ∧ FrameEnd U o U' L ({ frames := 1, cells := 0, slots := 0, locals := 12 } : Room).cells ({ frames := 1, cells := 0, slots := 0, locals := 12 } : Room).slots) := by
 refine bodyOf pn_12 (fun m => ef_rmCiLight m a1) ?_
 intro p e s m below meth c T0 X0 hx hby hml hown hnm hret hk hZ e0
 have N0 := Fr.nil n0
 have K0 : Keep h0 h0 [] := Keep.refl _ _
 refine go (S' := T0.setTop (mkF m 1 #[sr a1] [(.ref a1)])) (fun t k => XS.aloadN X0.here hx rfl (hb hby d17_0) rfl rfl k) ?_
 obtain ⟨T130, X130, e130, st130⟩ := initO X0 hx hZ hown (ww hw 100 rfl) (ww hw 13 rfl) (ww hw 14 rfl) e0 (g := (mkF m 1 #[sr a1] [(.ref a1)])) rfl (by rw [hml]; rfl) rfl (hb hby d17_1) (by decide) (W := 0) (mr0 rfl) (by decide)
 refine go (S' := T130.setTop (mkF m 4 #[sr a1] [])) st130 ?_
 refine finV X130 hx hk hret (hb hby d17_4) (by decide) (by decide) ?_
 rw [e130]
 exact ⟨rfl, N0, rfl⟩
theorem d7_58 : decode prog_42_method_4_code 58 = .ok (.aload_n 1, 1) := by decide +kernel
theorem d7_59 : decode prog_42_method_4_code 59 = .ok (.ldc 13, 2) := by decide +kernel
theorem d7_61 : decode prog_42_method_4_code 61 = .ok (.invokevirtual 9, 3) := by decide +kernel
theorem d7_64 : decode prog_42_method_4_code 64 = .ok (.ifCond .eq 19, 3) := by decide +kernel
theorem d7_67 : decode prog_42_method_4_code 67 = .ok (.iconst 1, 1) := by decide +kernel
theorem d7_68 : decode prog_42_method_4_code 68 = .ok (.istore_n 2, 1) := by decide +kernel
theorem d7_69 : decode prog_42_method_4_code 69 = .ok (.goto 14, 3) := by decide +kernel
theorem d7_122 : decode prog_42_method_4_code 122 = .ok (.new 23, 3) := by decide +kernel
theorem d7_125 : decode prog_42_method_4_code 125 = .ok (.dup, 1) := by decide +kernel
theorem d7_126 : decode prog_42_method_4_code 126 = .ok (.invokespecial 25, 3) := by decide +kernel
theorem d7_129 : decode prog_42_method_4_code 129 = .ok (.goto 27, 3) := by decide +kernel
theorem ef_rmOfLight (m : MethodId) (x1 : Addr) : entryFrame m #[(.ref x1)] 3 = mkF m 0 #[sr x1, .unset, .unset] [] := by first | (simp [entryFrame, mkF, argsToLocals, Value.category]; done) | rfl
def Q_rmOfLight (Z : State) (x1 : Addr) (t1 : Addr) (kb : ClassId) (G1 : Int32) (h0 : Heap) (n0 : Nat) (v : Option Value) (h : Heap) (L : List Loc) : Prop := ∃ (r : Addr), v = some (.ref r) ∧ Fr n0 L ∧ Keep h0 h [x1] ∧ (Exa Z h r "castworks/bench/WidgetFactory$Light")
set_option maxRecDepth 65536 in
set_option maxHeartbeats 40000000 in
theorem rmOfLight (l : Launch) (Z : State) (a0 : Array Value) (hw : ∀ d ∈ tables_1, d.before a0 Z = true) (ws : List Jvm.Cond) (x1 : Addr) (t1 : Addr) (kb : ClassId) (G1 : Int32) (h0 : Heap) (n0 : Nat) (Z0 : n0 ≤ h0.size) (hp0 : Exa Z h0 x1 "java/lang/String") (hp1 : Fld Z h0 x1 "java/lang/String" "value" "[B" (.ref t1)) (hp2 : Fld Z h0 x1 "java/lang/String" "coder" "B" (.int 0)) (hp3 : Fld Z h0 x1 "java/lang/String" "hash" "I" (.int 0)) (hp4 : Fld Z h0 x1 "java/lang/String" "hashIsZero" "Z" (.int 0)) (hp5 : Arv Z h0 t1 kb .byte (5 : Int32) [(.int 108), (.int 105), (.int 103), (.int 104), (.int 116)] (.int 0)) (hp6 : Exa Z h0 t1 "[B") (hp7 : n0 ≤ x1) (hp8 : t1 ≠ x1) (hp9 : Sta Z Z.heap "java/lang/String" "COMPACT_STRINGS" "Z" (.int G1)) (hG1 : ¬ (G1 = (0 : Int32))) (hp11 : Old Z n0 h0) :
    MetFree l y_12 (head1 (Jvm.Cond.code y_12 prog_42_method_4_code 3 (some (.object "castworks/bench/WidgetFactory")) :: ws) ({ frames := 4, cells := 3, slots := 24, locals := 58 } : Room)) (fun a U => a = #[(.ref x1)] ∧ Z.Warmed39 U.vm ∧ U.heap = h0 ∧ CHv Z consts_1 U.vm h0 ∧ ∀ x ∈ ([x1] : List Addr), Safe Z consts_1 U.vm h0 x) (fun _ _ _ _ _ => True) (fun _ U o U' => ∃ v L, o = .returned v ∧ Q_rmOfLight Z x1 t1 kb G1 h0 n0 v U'.heap L ∧ CHr Z consts_1 U.vm U.heap U'.vm U'.heap ∧ ReturnedEndW U o U' L ({ frames := 4, cells := 3, slots := 24, locals := 58 } : Room).cells ({ frames := 4, cells := 3, slots := 24, locals := 58 } : Room).slots) := by
 refine bodyOfW pn_11 (fun m => ef_rmOfLight m x1) ?_
 intro p e s m below meth c T0 X0 hx hby hml hown hnm hret hk hZ e0 hS C0 hsf
 have hkS := Nat.le_refl h0.size
 have sfp0 := hsf _ (List.mem_of_getElem? (i := 0) rfl)
 have N0 := Fr.nil n0
 have K0 : Keep h0 h0 [x1] := Keep.refl _ _
 have ne_t1_x1 := hp8
 have O0 := hp11
 refine go (S' := T0.setTop (mkF m 5 #[sr x1, sr x1, si (-1 : Int32)] [(.ref x1)])) (fun t k => XS.aloadN X0.here hx rfl (hb hby d7_0) rfl rfl (XS.astoreN X0.here hx rfl (hb hby d7_1) rfl rfl (l' := #[sr x1, sr x1, .unset]) rfl (XS.iconst X0.here hx rfl (hb hby d7_2) (XS.istoreN X0.here hx rfl (hb hby d7_3) rfl (l' := #[sr x1, sr x1, si (-1 : Int32)]) rfl (XS.aloadN X0.here hx rfl (hb hby d7_4) rfl rfl k))))) ?_
 have O131 : Old Z n0 h0 := O0.keep K0 (allS hp7 all0)
 obtain ⟨v132, T132, L132, X132, hQ132, st132⟩ := callV X0 hx hZ (y := y_9) (z := y_9) hown (ww hw 35 rfl) (ww hw 36 rfl) (notFace_of_selects (args := #[]) (mvT hZ (ww hw 38 rfl))) (ww hw 38 rfl) (ww hw 37 rfl) (by decide) (backOf (W := 0) (rmHcLight l Z a0 hw [] x1 t1 kb G1 h0 n0 (Nat.le_trans Z0 K0.1) hp0 hp1 hp2 hp3 hp4 hp5 hp6 hp7 hp9 hG1 O131) hZ (ww hw 39 rfl) (ww hw 4 rfl) (by decide) (by decide)) hp0 (g := (mkF m 5 #[sr x1, sr x1, si (-1 : Int32)] [(.ref x1)])) rfl (by rw [hml]; rfl) (kc := 0) (ks := 0) (argsL := []) (rest := []) (lenOf pd_8 rfl) rfl (mr0 rfl) (hb hby d7_5) e0 (by decide) (by decide)
 obtain ⟨rfl, N132q, Kq132, q132_0, q132_1⟩ := hQ132
 have N132 := Fr.app N0 N132q
 have hkS := Nat.le_trans hkS Kq132.1
 have C133 := C0.trans (CHr.keep Kq132 (allS sfp0 all0) C0.1)
 have sf134 := Safe.keep Kq132 (allS sfp0 all0) C0.1 sfp0
 have K135 : Keep h0 T132.heap [x1] := K0.trans Kq132 (allS (P := fun x => x ∈ [x1] ∨ h0.size ≤ x) (Or.inl (List.mem_of_getElem? (i := 0) rfl)) all0)
 refine go (S' := T132.setTop (mkF m 59 #[sr x1, sr x1, si (-1 : Int32)] [(.ref x1)])) (fun t k => st132 _ (lsw X132.here hx rfl (pc0 := 8) (pc' := 58) rfl (hb hby d7_8) rfl (by decide) (by decide) (by decide) (XS.aloadN X132.here hx rfl (hb hby d7_58) rfl rfl k))) ?_
 obtain ⟨la136, T136, h136, k136, lb136, lk136, X136, e136, E136, hS, hkS, hZ, hown, lE136, lC136, lV136, lA136, la136_lt, lb136_lt, Cq136, lit136, lne136, st136⟩ := ldcCH X132 hx hZ hown (ww hw 93 rfl) (own_sub own_strAtoms hw) rfl hS hkS (own_EW hw) (by decide) C133.1 (vs := [(.int 108), (.int 105), (.int 103), (.int 104), (.int 116)]) (z := (5 : Int32)) ⟨by decide, by decide⟩ (by decide) (by decide) (g := (mkF m 59 #[sr x1, sr x1, si (-1 : Int32)] [(.ref x1)])) rfl (hb hby d7_59) (n := 20) (by decide) (by decide) (by decide) (by decide)
 have K137 : Keep h0 h136 [x1] := K135.ext E136
 have C138 := C133.trans Cq136
 have sf139 := CHr.safe Cq136 (hp0.keep K135).lt sf134
 have ne_x1_la136 := (lne136 x1 sf139).1
 have ne_x1_lb136 := (lne136 x1 sf139).2
 have lstr136 : Str Z h136 la136 lb136 (0 : Int32) ([108, 105, 103, 104, 116] : List Int32) := ⟨_, _, _, lE136, lV136, lC136, lA136, own_codOf rfl (by decide), by decide, Nat.le_of_ble_eq_true rfl⟩
 refine go (S' := T136.setTop (mkF m 61 #[sr x1, sr x1, si (-1 : Int32)] [(.ref la136), (.ref x1)])) st136 ?_
 have f141 : Fld Z h136 x1 "java/lang/String" "value" "[B" (.ref t1) := (q132_0.ext E136)
 have f142 : Fld Z h136 x1 "java/lang/String" "coder" "B" (.int 0) := (q132_1.ext E136)
 have str140 : Str Z h136 x1 t1 (0 : Int32) ([108, 105, 103, 104, 116] : List Int32) := ⟨_, _, _, (hp0.keep K137), f141, f142, (hp5.keep K137 (ninS ne_t1_x1 nin0)), own_codOf rfl (by decide), by decide, Nat.le_of_ble_eq_true rfl⟩
 have O143 : Old Z n0 h136 := O0.keep K137 (allS hp7 all0)
 obtain ⟨kb144, N2144, vs144, qE144, qV144, qC144, qA144, qcd144, qbd144, ql144⟩ := id str140
 obtain ⟨kb145, N2145, vs145, qE145, qV145, qC145, qA145, qcd145, qbd145, ql145⟩ := id lstr136
 obtain ⟨v146, T146, L146, X146, hQ146, st146⟩ := callV X136 hx hZ (y := y_11) (z := y_11) hown (ww hw 65 rfl) (ww hw 66 rfl) (notFace_of_selects (args := #[]) (mvT hZ (ww hw 68 rfl))) (ww hw 68 rfl) (ww hw 67 rfl) (by decide) (StrChars.Road.eqW (W := 0) hZ (own_sub StrChars_wordsEq hw) (kI := 4) (ww hw 3 rfl) qE144 qV144 qC144 qA144 qcd144 qbd144 ql144 qE145 qV145 qC145 qA145 qcd145 qbd145 ql145 (hp9.ext O143.2) hG1 (by decide) (by decide)) (hp0.keep K137) (g := (mkF m 61 #[sr x1, sr x1, si (-1 : Int32)] [(.ref la136), (.ref x1)])) rfl (by rw [hml]; rfl) (Q := (fun v h' L => ((v = some (.int 1) ∧ ([108, 105, 103, 104, 116] : List Int32) = ([108, 105, 103, 104, 116] : List Int32)) ∨ (v = some (.int 0) ∧ ¬ ([108, 105, 103, 104, 116] : List Int32) = ([108, 105, 103, 104, 116] : List Int32))) ∧ L = [] ∧ h' = h136)) (kc := 0) (ks := 0) (argsL := [(.ref la136)]) (rest := []) (lenOf pd_9 rfl) rfl (mr0 rfl) (hb hby d7_61) e136 (by decide) (by decide)
 obtain ⟨hv146, rfl, e146⟩ := hQ146
 have hw146 : v146 = some (.int (if ([108, 105, 103, 104, 116] : List Int32) = ([108, 105, 103, 104, 116] : List Int32) then (1 : Int32) else (0 : Int32))) := by rcases hv146 with ⟨a, b⟩ | ⟨a, b⟩; rw [a, if_pos b]; rw [a, if_neg b]
 subst hw146
 have N146 := Fr.app N132 (Fr.nil n0)
 refine go (S' := T146.setTop (mkF m 64 #[sr x1, sr x1, si (-1 : Int32)] [(.int (if ([108, 105, 103, 104, 116] : List Int32) = ([108, 105, 103, 104, 116] : List Int32) then (1 : Int32) else (0 : Int32)))])) st146 ?_
 rw [show (if ([108, 105, 103, 104, 116] : List Int32) = ([108, 105, 103, 104, 116] : List Int32) then (1 : Int32) else (0 : Int32)) = (1 : Int32) from if_pos rfl]
 have hc147 : ¬ ((1 : Int32) = (0 : Int32)) := by decide
 refine go (S' := T146.setTop (mkF m 122 #[sr x1, sr x1, si 1] [])) (fun t k => XS.ifNo X146.here hx rfl (hb hby d7_64) rfl ((if0 _ _).trans (feq hc147).1) (XS.iconst X146.here hx rfl (hb hby d7_67) (XS.istoreN X146.here hx rfl (hb hby d7_68) rfl (l' := #[sr x1, sr x1, si 1]) rfl (XS.goto X146.here hx rfl (pc0 := 69) (pc' := 83) rfl (hb hby d7_69) (by decide) (by decide) (XS.iloadN X146.here hx rfl (hb hby d7_83) rfl (XS.tswIn X146.here hx rfl (pc0 := 84) (pc' := 122) rfl (hb hby d7_84) rfl (by decide) rfl (by decide) (by decide) k)))))) ?_
 obtain ⟨T148, h148, X148, e148, E148, A148, D148, -, st148⟩ := newO X146 hx hZ hown (ww hw 94 rfl) (ww hw 95 rfl) (ww hw 96 rfl) e146 (g := (mkF m 122 #[sr x1, sr x1, si 1] [])) rfl (hb hby d7_122) (by decide) (by decide)
 obtain ⟨b148, g148⟩ : ∃ z, z = h136.size := ⟨_, rfl⟩
 rw [← g148] at A148 D148 st148
 have lt_x1_b148 : x1 < b148 := by rw [g148]; exact (hp0.keep K137).lt
 have lt_t1_b148 : t1 < b148 := by rw [g148]; exact (hp6.keep K137).lt
 have lt_la136_b148 : la136 < b148 := by rw [g148]; exact lstr136.lt1
 have lt_lb136_b148 : lb136 < b148 := by rw [g148]; exact lstr136.lt2
 have ge_b148 : n0 ≤ b148 := by rw [g148]; exact (Nat.le_trans Z0 K137.1)
 have sz_b148 : h0.size ≤ b148 := by rw [g148]; exact K137.1
 have K149 : Keep h0 h148 [x1] := K137.ext E148
 have hkS := Nat.le_trans hkS E148.1
 have C150 := C138.trans (CHr.ext E148 C138.1)
 have sf151 := Safe.ext E148 C138.1 sf139
 refine go (S' := T148.setTop (mkF m 126 #[sr x1, sr x1, si 1] [(.ref b148), (.ref b148)])) (fun t k => st148 _ (XS.dup X148.here hx rfl (hb hby d7_125) rfl rfl k)) ?_
 obtain ⟨v152, T152, L152, X152, hQ152, st152⟩ := callSp X148 hx hZ (y := y_13) rfl hown (ww hw 97 rfl) (ww hw 98 rfl) (ww hw 99 rfl) (by decide) (backOf (W := 1) (rmCiLight l Z a0 hw [] b148 h148 n0 (Nat.le_trans Z0 K149.1) ) hZ (ww hw 99 rfl) (ww hw 96 rfl) (by decide) (by decide)) (g := (mkF m 126 #[sr x1, sr x1, si 1] [(.ref b148), (.ref b148)])) rfl (by rw [hml]; rfl) (a := b148) (kc := 0) (ks := 0) (argsL := []) (rest := [(.ref b148)]) (lenOf pd_10 rfl) rfl (mr0 rfl) (hb hby d7_126) e148 (by decide) (by decide)
 obtain ⟨rfl, N152q, e152⟩ := hQ152
 have N152 := Fr.app N146 N152q
 refine go (S' := T152.setTop (mkF m 156 #[sr x1, sr x1, si 1] [(.ref b148)])) (fun t k => st152 _ (XS.goto X152.here hx rfl (pc0 := 129) (pc' := 156) rfl (hb hby d7_129) (by decide) (by decide) k)) ?_
 refine finRW X152 hx hk hret rfl rfl hS hkS hZ (own_EW hw) C150 e152 (hb hby d7_156) (by decide) (by decide) ?_
 exact ⟨b148, rfl, N152, K149, A148⟩
theorem ef_rmShNight (m : MethodId) (a1 : Addr) : entryFrame m #[(.int 0), (.ref a1), (.int 0), (.int 5)] 6 = mkF m 0 #[si 0, sr a1, si 0, si 5, .unset, .unset] [] := by first | (simp [entryFrame, mkF, argsToLocals, Value.category]; done) | rfl
def Q_rmShNight (Z : State) (a1 : Addr) (kb : ClassId) (h0 : Heap) (n0 : Nat) (v : Option Value) (h : Heap) (L : List Loc) : Prop := v = some (.int 104817688) ∧ Fr n0 L ∧ h = h0
set_option maxRecDepth 65536 in
set_option maxHeartbeats 40000000 in
theorem rmShNight (l : Launch) (Z : State) (a0 : Array Value) (hw : ∀ d ∈ tables_1, d.before a0 Z = true) (ws : List Jvm.Cond) (a1 : Addr) (kb : ClassId) (h0 : Heap) (n0 : Nat) (Z0 : n0 ≤ h0.size) (hp0 : Arv Z h0 a1 kb .byte (5 : Int32) [(.int 110), (.int 105), (.int 103), (.int 104), (.int 116)] (.int 0)) :
    MetFree l y_6 (head1 (Jvm.Cond.code y_6 jdk_48_method_5_code 6 (some .int) :: ws) ({ frames := 0, cells := 0, slots := 0, locals := 0 } : Room)) (fun a U => a = #[(.int 0), (.ref a1), (.int 0), (.int 5)] ∧ Z.Warmed39 U.vm ∧ U.heap = h0) (fun _ _ _ _ _ => True) (fun _ U o U' => ∃ v L, o = .returned v ∧ Q_rmShNight Z a1 kb h0 n0 v U'.heap L ∧ FrameEnd U o U' L ({ frames := 0, cells := 0, slots := 0, locals := 0 } : Room).cells ({ frames := 0, cells := 0, slots := 0, locals := 0 } : Room).slots) := by
 refine bodyOf pn_6 (fun m => ef_rmShNight m a1) ?_
 intro p e s m below meth c T0 X0 hx hby hml hown hnm hret hk hZ e0
 have N0 := Fr.nil n0
 have K0 : Keep h0 h0 [] := Keep.refl _ _
 refine go (S' := T0.setTop (mkF m 12 #[si 0, sr a1, si 0, si 5, si 5, si 0] [(.int 5), (.int 0)])) (fun t k => XS.iloadN X0.here hx rfl (hb hby d12_0) rfl (XS.iloadN X0.here hx rfl (hb hby d12_1) rfl (XS.iadd X0.here hx rfl (hb hby d12_2) rfl (XS.istore X0.here hx rfl (hb hby d12_3) rfl (l' := #[si 0, sr a1, si 0, si 5, si 5, .unset]) rfl (XS.iloadN X0.here hx rfl (hb hby d12_5) rfl (XS.istore X0.here hx rfl (hb hby d12_6) rfl (l' := #[si 0, sr a1, si 0, si 5, si 5, si 0]) rfl (XS.iload X0.here hx rfl (hb hby d12_8) rfl (XS.iload X0.here hx rfl (hb hby d12_10) rfl k)))))))) ?_
 have hc153 : (0 : Int32) < (5 : Int32) := by decide
 refine go (S' := T0.setTop (mkF m 22 #[si 0, sr a1, si 0, si 5, si 5, si 0] [(.int 0), (.ref a1), (.int 0)])) (fun t k => XS.icmpNo X0.here hx rfl (hb hby d12_12) rfl (tlt hc153).2.1 (XS.bipush X0.here hx rfl (hb hby d12_15) (XS.iloadN X0.here hx rfl (hb hby d12_17) rfl (XS.imul X0.here hx rfl (hb hby d12_18) rfl (XS.aloadN X0.here hx rfl (hb hby d12_19) rfl rfl (XS.iload X0.here hx rfl (hb hby d12_20) rfl k)))))) ?_
 obtain ⟨cl154, Ar154, q154, S154, M154, H154, G154⟩ := id hp0
 have hin154 : ¬ ((0 : Int32) < 0 ∨ cl154.slots.size ≤ ((0 : Int32)).toNatClampNeg) := inb_of S154 ⟨by decide, by decide⟩
 have hat154 : cl154.slots[((0 : Int32)).toNatClampNeg]? = some (.int 110) := Has.at H154 hin154 rfl
 refine go (S' := T0.setTop (mkF m 10 #[si 110, sr a1, si 0, si 5, si 5, si 1] [(.int 1)])) (fun t k => X0.baloadBytes hx (j := (0 : Int32)) (v := (.int 110)) (by rw [e0]; exact Ar154.1) (State.isArrayOf_alike hZ.alike Ar154.2.1) Ar154.2.2 hin154 hat154 (g := (mkF m 22 #[si 0, sr a1, si 0, si 5, si 5, si 0] [(.int 0), (.ref a1), (.int 0)])) rfl rfl (hb hby d12_22) _ (XS.sipush X0.here hx rfl (hb hby d12_23) (XS.iand X0.here hx rfl (hb hby d12_26) rfl (XS.iadd X0.here hx rfl (hb hby d12_27) rfl (XS.istoreN X0.here hx rfl (hb hby d12_28) rfl (l' := #[si 110, sr a1, si 0, si 5, si 5, si 0]) rfl (XS.iinc X0.here hx rfl (hb hby d12_29) rfl (l' := #[si 110, sr a1, si 0, si 5, si 5, si 1]) rfl (XS.goto X0.here hx rfl (pc0 := 32) (pc' := 8) rfl (hb hby d12_32) (by decide) (by decide) (XS.iload X0.here hx rfl (hb hby d12_8) rfl k)))))))) ?_
 refine go (S' := T0.setTop (mkF m 12 #[si 110, sr a1, si 0, si 5, si 5, si 1] [(.int 5), (.int 1)])) (fun t k => XS.iload X0.here hx rfl (hb hby d12_10) rfl k) ?_
 have hc155 : (1 : Int32) < (5 : Int32) := by decide
 refine go (S' := T0.setTop (mkF m 22 #[si 110, sr a1, si 0, si 5, si 5, si 1] [(.int 1), (.ref a1), (.int 3410)])) (fun t k => XS.icmpNo X0.here hx rfl (hb hby d12_12) rfl (tlt hc155).2.1 (XS.bipush X0.here hx rfl (hb hby d12_15) (XS.iloadN X0.here hx rfl (hb hby d12_17) rfl (XS.imul X0.here hx rfl (hb hby d12_18) rfl (XS.aloadN X0.here hx rfl (hb hby d12_19) rfl rfl (XS.iload X0.here hx rfl (hb hby d12_20) rfl k)))))) ?_
 obtain ⟨cl156, Ar156, q156, S156, M156, H156, G156⟩ := id hp0
 have hin156 : ¬ ((1 : Int32) < 0 ∨ cl156.slots.size ≤ ((1 : Int32)).toNatClampNeg) := inb_of S156 ⟨by decide, by decide⟩
 have hat156 : cl156.slots[((1 : Int32)).toNatClampNeg]? = some (.int 105) := Has.at H156 hin156 rfl
 refine go (S' := T0.setTop (mkF m 10 #[si 3515, sr a1, si 0, si 5, si 5, si 2] [(.int 2)])) (fun t k => X0.baloadBytes hx (j := (1 : Int32)) (v := (.int 105)) (by rw [e0]; exact Ar156.1) (State.isArrayOf_alike hZ.alike Ar156.2.1) Ar156.2.2 hin156 hat156 (g := (mkF m 22 #[si 110, sr a1, si 0, si 5, si 5, si 1] [(.int 1), (.ref a1), (.int 3410)])) rfl rfl (hb hby d12_22) _ (XS.sipush X0.here hx rfl (hb hby d12_23) (XS.iand X0.here hx rfl (hb hby d12_26) rfl (XS.iadd X0.here hx rfl (hb hby d12_27) rfl (XS.istoreN X0.here hx rfl (hb hby d12_28) rfl (l' := #[si 3515, sr a1, si 0, si 5, si 5, si 1]) rfl (XS.iinc X0.here hx rfl (hb hby d12_29) rfl (l' := #[si 3515, sr a1, si 0, si 5, si 5, si 2]) rfl (XS.goto X0.here hx rfl (pc0 := 32) (pc' := 8) rfl (hb hby d12_32) (by decide) (by decide) (XS.iload X0.here hx rfl (hb hby d12_8) rfl k)))))))) ?_
 refine go (S' := T0.setTop (mkF m 12 #[si 3515, sr a1, si 0, si 5, si 5, si 2] [(.int 5), (.int 2)])) (fun t k => XS.iload X0.here hx rfl (hb hby d12_10) rfl k) ?_
 have hc157 : (2 : Int32) < (5 : Int32) := by decide
 refine go (S' := T0.setTop (mkF m 22 #[si 3515, sr a1, si 0, si 5, si 5, si 2] [(.int 2), (.ref a1), (.int 108965)])) (fun t k => XS.icmpNo X0.here hx rfl (hb hby d12_12) rfl (tlt hc157).2.1 (XS.bipush X0.here hx rfl (hb hby d12_15) (XS.iloadN X0.here hx rfl (hb hby d12_17) rfl (XS.imul X0.here hx rfl (hb hby d12_18) rfl (XS.aloadN X0.here hx rfl (hb hby d12_19) rfl rfl (XS.iload X0.here hx rfl (hb hby d12_20) rfl k)))))) ?_
 obtain ⟨cl158, Ar158, q158, S158, M158, H158, G158⟩ := id hp0
 have hin158 : ¬ ((2 : Int32) < 0 ∨ cl158.slots.size ≤ ((2 : Int32)).toNatClampNeg) := inb_of S158 ⟨by decide, by decide⟩
 have hat158 : cl158.slots[((2 : Int32)).toNatClampNeg]? = some (.int 103) := Has.at H158 hin158 rfl
 refine go (S' := T0.setTop (mkF m 10 #[si 109068, sr a1, si 0, si 5, si 5, si 3] [(.int 3)])) (fun t k => X0.baloadBytes hx (j := (2 : Int32)) (v := (.int 103)) (by rw [e0]; exact Ar158.1) (State.isArrayOf_alike hZ.alike Ar158.2.1) Ar158.2.2 hin158 hat158 (g := (mkF m 22 #[si 3515, sr a1, si 0, si 5, si 5, si 2] [(.int 2), (.ref a1), (.int 108965)])) rfl rfl (hb hby d12_22) _ (XS.sipush X0.here hx rfl (hb hby d12_23) (XS.iand X0.here hx rfl (hb hby d12_26) rfl (XS.iadd X0.here hx rfl (hb hby d12_27) rfl (XS.istoreN X0.here hx rfl (hb hby d12_28) rfl (l' := #[si 109068, sr a1, si 0, si 5, si 5, si 2]) rfl (XS.iinc X0.here hx rfl (hb hby d12_29) rfl (l' := #[si 109068, sr a1, si 0, si 5, si 5, si 3]) rfl (XS.goto X0.here hx rfl (pc0 := 32) (pc' := 8) rfl (hb hby d12_32) (by decide) (by decide) (XS.iload X0.here hx rfl (hb hby d12_8) rfl k)))))))) ?_
 refine go (S' := T0.setTop (mkF m 12 #[si 109068, sr a1, si 0, si 5, si 5, si 3] [(.int 5), (.int 3)])) (fun t k => XS.iload X0.here hx rfl (hb hby d12_10) rfl k) ?_
 have hc159 : (3 : Int32) < (5 : Int32) := by decide
 refine go (S' := T0.setTop (mkF m 22 #[si 109068, sr a1, si 0, si 5, si 5, si 3] [(.int 3), (.ref a1), (.int 3381108)])) (fun t k => XS.icmpNo X0.here hx rfl (hb hby d12_12) rfl (tlt hc159).2.1 (XS.bipush X0.here hx rfl (hb hby d12_15) (XS.iloadN X0.here hx rfl (hb hby d12_17) rfl (XS.imul X0.here hx rfl (hb hby d12_18) rfl (XS.aloadN X0.here hx rfl (hb hby d12_19) rfl rfl (XS.iload X0.here hx rfl (hb hby d12_20) rfl k)))))) ?_
 obtain ⟨cl160, Ar160, q160, S160, M160, H160, G160⟩ := id hp0
 have hin160 : ¬ ((3 : Int32) < 0 ∨ cl160.slots.size ≤ ((3 : Int32)).toNatClampNeg) := inb_of S160 ⟨by decide, by decide⟩
 have hat160 : cl160.slots[((3 : Int32)).toNatClampNeg]? = some (.int 104) := Has.at H160 hin160 rfl
 refine go (S' := T0.setTop (mkF m 10 #[si 3381212, sr a1, si 0, si 5, si 5, si 4] [(.int 4)])) (fun t k => X0.baloadBytes hx (j := (3 : Int32)) (v := (.int 104)) (by rw [e0]; exact Ar160.1) (State.isArrayOf_alike hZ.alike Ar160.2.1) Ar160.2.2 hin160 hat160 (g := (mkF m 22 #[si 109068, sr a1, si 0, si 5, si 5, si 3] [(.int 3), (.ref a1), (.int 3381108)])) rfl rfl (hb hby d12_22) _ (XS.sipush X0.here hx rfl (hb hby d12_23) (XS.iand X0.here hx rfl (hb hby d12_26) rfl (XS.iadd X0.here hx rfl (hb hby d12_27) rfl (XS.istoreN X0.here hx rfl (hb hby d12_28) rfl (l' := #[si 3381212, sr a1, si 0, si 5, si 5, si 3]) rfl (XS.iinc X0.here hx rfl (hb hby d12_29) rfl (l' := #[si 3381212, sr a1, si 0, si 5, si 5, si 4]) rfl (XS.goto X0.here hx rfl (pc0 := 32) (pc' := 8) rfl (hb hby d12_32) (by decide) (by decide) (XS.iload X0.here hx rfl (hb hby d12_8) rfl k)))))))) ?_
 refine go (S' := T0.setTop (mkF m 12 #[si 3381212, sr a1, si 0, si 5, si 5, si 4] [(.int 5), (.int 4)])) (fun t k => XS.iload X0.here hx rfl (hb hby d12_10) rfl k) ?_
 have hc161 : (4 : Int32) < (5 : Int32) := by decide
 refine go (S' := T0.setTop (mkF m 22 #[si 3381212, sr a1, si 0, si 5, si 5, si 4] [(.int 4), (.ref a1), (.int 104817572)])) (fun t k => XS.icmpNo X0.here hx rfl (hb hby d12_12) rfl (tlt hc161).2.1 (XS.bipush X0.here hx rfl (hb hby d12_15) (XS.iloadN X0.here hx rfl (hb hby d12_17) rfl (XS.imul X0.here hx rfl (hb hby d12_18) rfl (XS.aloadN X0.here hx rfl (hb hby d12_19) rfl rfl (XS.iload X0.here hx rfl (hb hby d12_20) rfl k)))))) ?_
 obtain ⟨cl162, Ar162, q162, S162, M162, H162, G162⟩ := id hp0
 have hin162 : ¬ ((4 : Int32) < 0 ∨ cl162.slots.size ≤ ((4 : Int32)).toNatClampNeg) := inb_of S162 ⟨by decide, by decide⟩
 have hat162 : cl162.slots[((4 : Int32)).toNatClampNeg]? = some (.int 116) := Has.at H162 hin162 rfl
 refine go (S' := T0.setTop (mkF m 10 #[si 104817688, sr a1, si 0, si 5, si 5, si 5] [(.int 5)])) (fun t k => X0.baloadBytes hx (j := (4 : Int32)) (v := (.int 116)) (by rw [e0]; exact Ar162.1) (State.isArrayOf_alike hZ.alike Ar162.2.1) Ar162.2.2 hin162 hat162 (g := (mkF m 22 #[si 3381212, sr a1, si 0, si 5, si 5, si 4] [(.int 4), (.ref a1), (.int 104817572)])) rfl rfl (hb hby d12_22) _ (XS.sipush X0.here hx rfl (hb hby d12_23) (XS.iand X0.here hx rfl (hb hby d12_26) rfl (XS.iadd X0.here hx rfl (hb hby d12_27) rfl (XS.istoreN X0.here hx rfl (hb hby d12_28) rfl (l' := #[si 104817688, sr a1, si 0, si 5, si 5, si 4]) rfl (XS.iinc X0.here hx rfl (hb hby d12_29) rfl (l' := #[si 104817688, sr a1, si 0, si 5, si 5, si 5]) rfl (XS.goto X0.here hx rfl (pc0 := 32) (pc' := 8) rfl (hb hby d12_32) (by decide) (by decide) (XS.iload X0.here hx rfl (hb hby d12_8) rfl k)))))))) ?_
 refine go (S' := T0.setTop (mkF m 12 #[si 104817688, sr a1, si 0, si 5, si 5, si 5] [(.int 5), (.int 5)])) (fun t k => XS.iload X0.here hx rfl (hb hby d12_10) rfl k) ?_
 have hc163 : ¬ ((5 : Int32) < (5 : Int32)) := by decide
 refine go (S' := T0.setTop (mkF m 36 #[si 104817688, sr a1, si 0, si 5, si 5, si 5] [(.int 104817688)])) (fun t k => XS.icmpYes X0.here hx rfl (pc0 := 12) (pc' := 35) rfl (hb hby d12_12) rfl (flt hc163).2.1 (by decide) (by decide) (XS.iloadN X0.here hx rfl (hb hby d12_35) rfl k)) ?_
 refine finI X0 hx hk hret (hb hby d12_36) (by decide) (by decide) ?_
 rw [e0]
 exact ⟨rfl, N0, rfl⟩
theorem ef_rmVhNight (m : MethodId) (a1 : Addr) : entryFrame m #[(.ref a1), (.int 0), (.int 5), (.int 0), (.int 4)] 5 = mkF m 0 #[sr a1, si 0, si 5, si 0, si 4] [] := by first | (simp [entryFrame, mkF, argsToLocals, Value.category]; done) | rfl
def Q_rmVhNight (Z : State) (a1 : Addr) (kb : ClassId) (h0 : Heap) (n0 : Nat) (v : Option Value) (h : Heap) (L : List Loc) : Prop := v = some (.int 104817688) ∧ Fr n0 L ∧ h = h0
set_option maxRecDepth 65536 in
set_option maxHeartbeats 40000000 in
theorem rmVhNight (l : Launch) (Z : State) (a0 : Array Value) (hw : ∀ d ∈ tables_1, d.before a0 Z = true) (ws : List Jvm.Cond) (a1 : Addr) (kb : ClassId) (h0 : Heap) (n0 : Nat) (Z0 : n0 ≤ h0.size) (hp0 : Arv Z h0 a1 kb .byte (5 : Int32) [(.int 110), (.int 105), (.int 103), (.int 104), (.int 116)] (.int 0)) (hp1 : Exa Z h0 a1 "[B") :
    MetFree l y_7 (head1 (Jvm.Cond.code y_7 jdk_48_method_4_code 5 (some .int) :: ws) ({ frames := 1, cells := 0, slots := 0, locals := 17 } : Room)) (fun a U => a = #[(.ref a1), (.int 0), (.int 5), (.int 0), (.int 4)] ∧ Z.Warmed39 U.vm ∧ U.heap = h0) (fun _ _ _ _ _ => True) (fun _ U o U' => ∃ v L, o = .returned v ∧ Q_rmVhNight Z a1 kb h0 n0 v U'.heap L ∧ FrameEnd U o U' L ({ frames := 1, cells := 0, slots := 0, locals := 17 } : Room).cells ({ frames := 1, cells := 0, slots := 0, locals := 17 } : Room).slots) := by
 refine bodyOf pn_7 (fun m => ef_rmVhNight m a1) ?_
 intro p e s m below meth c T0 X0 hx hby hml hown hnm hret hk hZ e0
 have N0 := Fr.nil n0
 have K0 : Keep h0 h0 [] := Keep.refl _ _
 refine go (S' := T0.setTop (mkF m 46 #[sr a1, si 0, si 5, si 0, si 4] [(.ref a1), (.int 0)])) (fun t k => XS.iload X0.here hx rfl (hb hby d11_0) rfl (XS.tswIn X0.here hx rfl (pc0 := 2) (pc' := 44) rfl (hb hby d11_2) rfl (by decide) rfl (by decide) (by decide) (XS.iloadN X0.here hx rfl (hb hby d11_44) rfl (XS.aloadN X0.here hx rfl (hb hby d11_45) rfl rfl k)))) ?_
 obtain ⟨T164, X164, e164, st164⟩ := castY X0 hx hZ hown (ww hw 57 rfl) e0 (Ins.self hp1) (g := (mkF m 46 #[sr a1, si 0, si 5, si 0, si 4] [(.ref a1), (.int 0)])) rfl rfl (hb hby d11_46)
 refine go (S' := T164.setTop (mkF m 51 #[sr a1, si 0, si 5, si 0, si 4] [(.int 5), (.int 0), (.ref a1), (.int 0)])) (fun t k => st164 _ (XS.iloadN X164.here hx rfl (hb hby d11_49) rfl (XS.iloadN X164.here hx rfl (hb hby d11_50) rfl k))) ?_
 obtain ⟨v165, T165, L165, X165, hQ165, st165⟩ := callSt X164 hx hZ (y := y_6) hown (ww hw 59 rfl) (ww hw 60 rfl) (ww hw 55 rfl) (ww hw 61 rfl) (by decide) (backOf (W := 0) (rmShNight l Z a0 hw [] a1 kb h0 n0 (Nat.le_trans Z0 K0.1) hp0) hZ (ww hw 61 rfl) (ww hw 55 rfl) (by decide) (by decide)) (g := (mkF m 51 #[sr a1, si 0, si 5, si 0, si 4] [(.int 5), (.int 0), (.ref a1), (.int 0)])) rfl (by rw [hml]; rfl) (kc := 0) (ks := 0) (argsL := [(.int 0), (.ref a1), (.int 0), (.int 5)]) (rest := []) (lenOf pd_4 rfl) rfl (mr0 rfl) (hb hby d11_51) e164 (by decide) (by decide)
 obtain ⟨rfl, N165q, e165⟩ := hQ165
 have N165 := Fr.app N0 N165q
 refine go (S' := T165.setTop (mkF m 157 #[sr a1, si 0, si 5, si 0, si 4] [(.int 104817688)])) (fun t k => st165 _ (XS.goto X165.here hx rfl (pc0 := 54) (pc' := 157) rfl (hb hby d11_54) (by decide) (by decide) k)) ?_
 refine finI X165 hx hk hret (hb hby d11_157) (by decide) (by decide) ?_
 rw [e165]
 exact ⟨rfl, N165, rfl⟩
theorem ef_rmLhNight (m : MethodId) (a1 : Addr) : entryFrame m #[(.ref a1)] 1 = mkF m 0 #[sr a1] [] := by first | (simp [entryFrame, mkF, argsToLocals, Value.category]; done) | rfl
def Q_rmLhNight (Z : State) (a1 : Addr) (kb : ClassId) (h0 : Heap) (n0 : Nat) (v : Option Value) (h : Heap) (L : List Loc) : Prop := v = some (.int 104817688) ∧ Fr n0 L ∧ h = h0
set_option maxRecDepth 65536 in
set_option maxHeartbeats 40000000 in
theorem rmLhNight (l : Launch) (Z : State) (a0 : Array Value) (hw : ∀ d ∈ tables_1, d.before a0 Z = true) (ws : List Jvm.Cond) (a1 : Addr) (kb : ClassId) (h0 : Heap) (n0 : Nat) (Z0 : n0 ≤ h0.size) (hp0 : Arv Z h0 a1 kb .byte (5 : Int32) [(.int 110), (.int 105), (.int 103), (.int 104), (.int 116)] (.int 0)) (hp1 : Exa Z h0 a1 "[B") :
    MetFree l y_8 (head1 (Jvm.Cond.code y_8 jdk_43_method_21_code 1 (some .int) :: ws) ({ frames := 2, cells := 0, slots := 0, locals := 33 } : Room)) (fun a U => a = #[(.ref a1)] ∧ Z.Warmed39 U.vm ∧ U.heap = h0) (fun _ _ _ _ _ => True) (fun _ U o U' => ∃ v L, o = .returned v ∧ Q_rmLhNight Z a1 kb h0 n0 v U'.heap L ∧ FrameEnd U o U' L ({ frames := 2, cells := 0, slots := 0, locals := 33 } : Room).cells ({ frames := 2, cells := 0, slots := 0, locals := 33 } : Room).slots) := by
 refine bodyOf pn_8 (fun m => ef_rmLhNight m a1) ?_
 intro p e s m below meth c T0 X0 hx hby hml hown hnm hret hk hZ e0
 have N0 := Fr.nil n0
 have K0 : Keep h0 h0 [] := Keep.refl _ _
 refine go (S' := T0.setTop (mkF m 1 #[sr a1] [(.ref a1)])) (fun t k => XS.aloadN X0.here hx rfl (hb hby d10_0) rfl rfl k) ?_
 obtain ⟨cl166, Ar166, -, S166, M166, -, -⟩ := id hp0
 refine go (S' := T0.setTop (mkF m 45 #[sr a1] [(.ref a1), (.int 0), (.ref a1)])) (fun t k => X0.arraylength hx (by rw [e0]; exact Ar166.1) (State.isArrayOf_alike hZ.alike Ar166.2.1) (g := (mkF m 1 #[sr a1] [(.ref a1)])) rfl rfl (hb hby d10_1) _ (by rw [len_of S166 M166]; exact (lsw X0.here hx rfl (pc0 := 2) (pc' := 42) rfl (hb hby d10_2) rfl (by decide) (by decide) (by decide) (XS.aloadN X0.here hx rfl (hb hby d10_42) rfl rfl (XS.iconst X0.here hx rfl (hb hby d10_43) (XS.aloadN X0.here hx rfl (hb hby d10_44) rfl rfl k)))))) ?_
 obtain ⟨cl167, Ar167, -, S167, M167, -, -⟩ := id hp0
 refine go (S' := T0.setTop (mkF m 48 #[sr a1] [(.int 4), (.int 0), (.int 5), (.int 0), (.ref a1)])) (fun t k => X0.arraylength hx (by rw [e0]; exact Ar167.1) (State.isArrayOf_alike hZ.alike Ar167.2.1) (g := (mkF m 45 #[sr a1] [(.ref a1), (.int 0), (.ref a1)])) rfl rfl (hb hby d10_45) _ (by rw [len_of S167 M167]; exact (XS.iconst X0.here hx rfl (hb hby d10_46) (XS.iconst X0.here hx rfl (hb hby d10_47) k)))) ?_
 obtain ⟨v168, T168, L168, X168, hQ168, st168⟩ := callSt X0 hx hZ (y := y_7) hown (ww hw 53 rfl) (ww hw 54 rfl) (ww hw 55 rfl) (ww hw 56 rfl) (by decide) (backOf (W := 0) (rmVhNight l Z a0 hw [] a1 kb h0 n0 (Nat.le_trans Z0 K0.1) hp0 hp1) hZ (ww hw 56 rfl) (ww hw 55 rfl) (by decide) (by decide)) (g := (mkF m 48 #[sr a1] [(.int 4), (.int 0), (.int 5), (.int 0), (.ref a1)])) rfl (by rw [hml]; rfl) (kc := 0) (ks := 0) (argsL := [(.ref a1), (.int 0), (.int 5), (.int 0), (.int 4)]) (rest := []) (lenOf pd_5 rfl) rfl (mr0 rfl) (hb hby d10_48) e0 (by decide) (by decide)
 obtain ⟨rfl, N168q, e168⟩ := hQ168
 have N168 := Fr.app N0 N168q
 refine go (S' := T168.setTop (mkF m 51 #[sr a1] [(.int 104817688)])) st168 ?_
 refine finI X168 hx hk hret (hb hby d10_51) (by decide) (by decide) ?_
 rw [e168]
 exact ⟨rfl, N168, rfl⟩
theorem ef_rmHcNight (m : MethodId) (x1 : Addr) : entryFrame m #[(.ref x1)] 2 = mkF m 0 #[sr x1, .unset] [] := by first | (simp [entryFrame, mkF, argsToLocals, Value.category]; done) | rfl
def Q_rmHcNight (Z : State) (x1 : Addr) (t1 : Addr) (kb : ClassId) (G1 : Int32) (h0 : Heap) (n0 : Nat) (v : Option Value) (h : Heap) (L : List Loc) : Prop := v = some (.int 104817688) ∧ Fr n0 L ∧ Keep h0 h [x1] ∧ (Fld Z h x1 "java/lang/String" "value" "[B" (.ref t1)) ∧ (Fld Z h x1 "java/lang/String" "coder" "B" (.int 0))
set_option maxRecDepth 65536 in
set_option maxHeartbeats 40000000 in
theorem rmHcNight (l : Launch) (Z : State) (a0 : Array Value) (hw : ∀ d ∈ tables_1, d.before a0 Z = true) (ws : List Jvm.Cond) (x1 : Addr) (t1 : Addr) (kb : ClassId) (G1 : Int32) (h0 : Heap) (n0 : Nat) (Z0 : n0 ≤ h0.size) (hp0 : Exa Z h0 x1 "java/lang/String") (hp1 : Fld Z h0 x1 "java/lang/String" "value" "[B" (.ref t1)) (hp2 : Fld Z h0 x1 "java/lang/String" "coder" "B" (.int 0)) (hp3 : Fld Z h0 x1 "java/lang/String" "hash" "I" (.int 0)) (hp4 : Fld Z h0 x1 "java/lang/String" "hashIsZero" "Z" (.int 0)) (hp5 : Arv Z h0 t1 kb .byte (5 : Int32) [(.int 110), (.int 105), (.int 103), (.int 104), (.int 116)] (.int 0)) (hp6 : Exa Z h0 t1 "[B") (hp7 : n0 ≤ x1) (hp8 : Sta Z Z.heap "java/lang/String" "COMPACT_STRINGS" "Z" (.int G1)) (hG1 : ¬ (G1 = (0 : Int32))) (hp10 : Old Z n0 h0) :
    MetFree l y_9 (head1 (Jvm.Cond.code y_9 jdk_42_method_78_code 2 (some .int) :: ws) ({ frames := 3, cells := 0, slots := 0, locals := 45 } : Room)) (fun a U => a = #[(.ref x1)] ∧ Z.Warmed39 U.vm ∧ U.heap = h0) (fun _ _ _ _ _ => True) (fun _ U o U' => ∃ v L, o = .returned v ∧ Q_rmHcNight Z x1 t1 kb G1 h0 n0 v U'.heap L ∧ FrameEnd U o U' L ({ frames := 3, cells := 0, slots := 0, locals := 45 } : Room).cells ({ frames := 3, cells := 0, slots := 0, locals := 45 } : Room).slots) := by
 refine bodyOf pn_9 (fun m => ef_rmHcNight m x1) ?_
 intro p e s m below meth c T0 X0 hx hby hml hown hnm hret hk hZ e0
 have N0 := Fr.nil n0
 have K0 : Keep h0 h0 [x1] := Keep.refl _ _
 have O0 := hp10
 refine go (S' := T0.setTop (mkF m 1 #[sr x1, .unset] [(.ref x1)])) (fun t k => XS.aloadN X0.here hx rfl (hb hby d8_0) rfl rfl k) ?_
 obtain ⟨T169, X169, e169, st169⟩ := getF X0 hx hZ hown (host := "") (Or.inl (ww hw 40 rfl)) Via.refl e0 hp3 (g := (mkF m 1 #[sr x1, .unset] [(.ref x1)])) rfl rfl (hb hby d8_1)
 refine go (S' := T169.setTop (mkF m 6 #[sr x1, si 0] [(.int 0)])) (fun t k => st169 _ (XS.istoreN X169.here hx rfl (hb hby d8_4) rfl (l' := #[sr x1, si 0]) rfl (XS.iloadN X169.here hx rfl (hb hby d8_5) rfl k))) ?_
 have hc170 : (0 : Int32) = (0 : Int32) := by decide
 refine go (S' := T169.setTop (mkF m 10 #[sr x1, si 0] [(.ref x1)])) (fun t k => XS.ifNo X169.here hx rfl (hb hby d8_6) rfl ((if0 _ _).trans (teq hc170).2) (XS.aloadN X169.here hx rfl (hb hby d8_9) rfl rfl k)) ?_
 obtain ⟨T171, X171, e171, st171⟩ := getF X169 hx hZ hown (host := "") (Or.inl (ww hw 42 rfl)) Via.refl e169 hp4 (g := (mkF m 10 #[sr x1, si 0] [(.ref x1)])) rfl rfl (hb hby d8_10)
 refine go (S' := T171.setTop (mkF m 13 #[sr x1, si 0] [(.int 0)])) st171 ?_
 have hc172 : (0 : Int32) = (0 : Int32) := by decide
 refine go (S' := T171.setTop (mkF m 17 #[sr x1, si 0] [(.ref x1)])) (fun t k => XS.ifNo X171.here hx rfl (hb hby d8_13) rfl ((if0 _ _).trans (teq hc172).2) (XS.aloadN X171.here hx rfl (hb hby d8_16) rfl rfl k)) ?_
 have O173 : Old Z n0 h0 := O0.keep K0 (allS hp7 all0)
 obtain ⟨v174, T174, L174, X174, hQ174, st174⟩ := callV X171 hx hZ (y := y_5) (z := y_5) hown (ww hw 44 rfl) (ww hw 45 rfl) (notFace_of_selects (args := #[]) (mvT hZ (ww hw 47 rfl))) (ww hw 47 rfl) (ww hw 46 rfl) (by decide) (backOf (W := 0) (rmIsl l Z a0 hw [] x1 G1 h0 n0 (Nat.le_trans Z0 K0.1) hp2 hp8 hG1 O173) hZ (ww hw 48 rfl) (ww hw 4 rfl) (by decide) (by decide)) hp0 (g := (mkF m 17 #[sr x1, si 0] [(.ref x1)])) rfl (by rw [hml]; rfl) (kc := 0) (ks := 0) (argsL := []) (rest := []) (lenOf pd_6 rfl) rfl (mr0 rfl) (hb hby d8_17) e171 (by decide) (by decide)
 obtain ⟨rfl, N174q, e174⟩ := hQ174
 have N174 := Fr.app N0 N174q
 refine go (S' := T174.setTop (mkF m 20 #[sr x1, si 0] [(.int 1)])) st174 ?_
 have hc175 : ¬ ((1 : Int32) = (0 : Int32)) := by decide
 refine go (S' := T174.setTop (mkF m 24 #[sr x1, si 0] [(.ref x1)])) (fun t k => XS.ifNo X174.here hx rfl (hb hby d8_20) rfl ((if0 _ _).trans (feq hc175).1) (XS.aloadN X174.here hx rfl (hb hby d8_23) rfl rfl k)) ?_
 obtain ⟨T176, X176, e176, st176⟩ := getF X174 hx hZ hown (host := "") (Or.inl (ww hw 29 rfl)) Via.refl e174 hp1 (g := (mkF m 24 #[sr x1, si 0] [(.ref x1)])) rfl rfl (hb hby d8_24)
 refine go (S' := T176.setTop (mkF m 27 #[sr x1, si 0] [(.ref t1)])) st176 ?_
 obtain ⟨v177, T177, L177, X177, hQ177, st177⟩ := callSt X176 hx hZ (y := y_8) hown (ww hw 49 rfl) (ww hw 50 rfl) (ww hw 51 rfl) (ww hw 52 rfl) (by decide) (backOf (W := 0) (rmLhNight l Z a0 hw [] t1 kb h0 n0 (Nat.le_trans Z0 K0.1) hp5 hp6) hZ (ww hw 52 rfl) (ww hw 51 rfl) (by decide) (by decide)) (g := (mkF m 27 #[sr x1, si 0] [(.ref t1)])) rfl (by rw [hml]; rfl) (kc := 0) (ks := 0) (argsL := [(.ref t1)]) (rest := []) (lenOf pd_7 rfl) rfl (mr0 rfl) (hb hby d8_27) e176 (by decide) (by decide)
 obtain ⟨rfl, N177q, e177⟩ := hQ177
 have N177 := Fr.app N174 N177q
 refine go (S' := T177.setTop (mkF m 42 #[sr x1, si 104817688] [(.int 104817688)])) (fun t k => st177 _ (XS.goto X177.here hx rfl (pc0 := 30) (pc' := 40) rfl (hb hby d8_30) (by decide) (by decide) (XS.istoreN X177.here hx rfl (hb hby d8_40) rfl (l' := #[sr x1, si 104817688]) rfl (XS.iloadN X177.here hx rfl (hb hby d8_41) rfl k)))) ?_
 have hc178 : ¬ ((104817688 : Int32) = (0 : Int32)) := by decide
 refine go (S' := T177.setTop (mkF m 55 #[sr x1, si 104817688] [(.int 104817688), (.ref x1)])) (fun t k => XS.ifYes X177.here hx rfl (pc0 := 42) (pc' := 53) rfl (hb hby d8_42) rfl ((if0 _ _).trans (feq hc178).2) (by decide) (by decide) (XS.aloadN X177.here hx rfl (hb hby d8_53) rfl rfl (XS.iloadN X177.here hx rfl (hb hby d8_54) rfl k))) ?_
 obtain ⟨T179, h179, X179, e179, W179, st179⟩ := putF X177 hx hZ hown (host := "") (Or.inl (ww hw 40 rfl)) Via.refl e177 hp3 hp0 (Or.inl (ww hw 41 rfl)) (ww hw 3 rfl) (ty := .int) (by decide) rfl rfl (g := (mkF m 55 #[sr x1, si 104817688] [(.int 104817688), (.ref x1)])) rfl rfl (hb hby d8_55)
 have K180 : Keep h0 h179 [x1] := K0.wr W179 (Or.inl (List.mem_of_getElem? (i := 0) rfl))
 have N181 := Fr.snoc X179 N177 hp7
 have f182 : Fld Z h179 x1 "java/lang/String" "hash" "I" (.int 104817688) := (Fld.same W179 hp3)
 refine go (S' := T179.setTop (mkF m 59 #[sr x1, si 104817688] [(.int 104817688)])) (fun t k => st179 _ (XS.iloadN X179.here hx rfl (hb hby d8_58) rfl k)) ?_
 refine finI X179 hx hk hret (hb hby d8_59) (by decide) (by decide) ?_
 have f183 : Fld Z h179 x1 "java/lang/String" "value" "[B" (.ref t1) := (Fld.other W179 hp1 (Or.inr (slot_ne (Or.inr (ww hw 30 rfl)) (Or.inl (ww hw 41 rfl)) (by decide) (t := (.array .byte)) (t' := .int) (by decide) (by decide))))
 have f184 : Fld Z h179 x1 "java/lang/String" "coder" "B" (.int 0) := (Fld.other W179 hp2 (Or.inr (slot_ne (Or.inr (ww hw 28 rfl)) (Or.inl (ww hw 41 rfl)) (by decide) (t := .byte) (t' := .int) (by decide) (by decide))))
 rw [e179]
 exact ⟨rfl, N181, K180, f183, f184⟩
theorem d16_0 : decode prog_45_method_1_code 0 = .ok (.aload_n 0, 1) := by decide +kernel
theorem d16_1 : decode prog_45_method_1_code 1 = .ok (.invokespecial 1, 3) := by decide +kernel
theorem d16_4 : decode prog_45_method_1_code 4 = .ok (.return_, 1) := by decide +kernel
abbrev y_14 : MethodName := ⟨"castworks/bench/WidgetFactory$Night", "<init>", "()V"⟩
theorem pn_13 : plainFor y_14 = true := by first | exact plainFor_of_name (by first | (simp [plainName, overriddenIn]; done) | decide +kernel) | decide +kernel
theorem ef_rmCiNight (m : MethodId) (a1 : Addr) : entryFrame m #[(.ref a1)] 1 = mkF m 0 #[sr a1] [] := by first | (simp [entryFrame, mkF, argsToLocals, Value.category]; done) | rfl
def Q_rmCiNight (Z : State) (a1 : Addr) (h0 : Heap) (n0 : Nat) (v : Option Value) (h : Heap) (L : List Loc) : Prop := v = none ∧ Fr n0 L ∧ h = h0
set_option maxRecDepth 65536 in
set_option maxHeartbeats 40000000 in
theorem rmCiNight (l : Launch) (Z : State) (a0 : Array Value) (hw : ∀ d ∈ tables_1, d.before a0 Z = true) (ws : List Jvm.Cond) (a1 : Addr) (h0 : Heap) (n0 : Nat) (Z0 : n0 ≤ h0.size)  :
    MetFree l y_14 (head1 (Jvm.Cond.code y_14 prog_45_method_1_code 1 none :: ws) ({ frames := 1, cells := 0, slots := 0, locals := 12 } : Room)) (fun a U => a = #[(.ref a1)] ∧ Z.Warmed39 U.vm ∧ U.heap = h0) (fun _ _ _ _ _ => True) (fun _ U o U' => ∃ v L, o = .returned v ∧ Q_rmCiNight Z a1 h0 n0 v U'.heap L ∧ FrameEnd U o U' L ({ frames := 1, cells := 0, slots := 0, locals := 12 } : Room).cells ({ frames := 1, cells := 0, slots := 0, locals := 12 } : Room).slots) := by
 refine bodyOf pn_13 (fun m => ef_rmCiNight m a1) ?_
 intro p e s m below meth c T0 X0 hx hby hml hown hnm hret hk hZ e0
 have N0 := Fr.nil n0
 have K0 : Keep h0 h0 [] := Keep.refl _ _
 refine go (S' := T0.setTop (mkF m 1 #[sr a1] [(.ref a1)])) (fun t k => XS.aloadN X0.here hx rfl (hb hby d16_0) rfl rfl k) ?_
 obtain ⟨T185, X185, e185, st185⟩ := initO X0 hx hZ hown (ww hw 90 rfl) (ww hw 13 rfl) (ww hw 14 rfl) e0 (g := (mkF m 1 #[sr a1] [(.ref a1)])) rfl (by rw [hml]; rfl) rfl (hb hby d16_1) (by decide) (W := 0) (mr0 rfl) (by decide)
 refine go (S' := T185.setTop (mkF m 4 #[sr a1] [])) st185 ?_
 refine finV X185 hx hk hret (hb hby d16_4) (by decide) (by decide) ?_
 rw [e185]
 exact ⟨rfl, N0, rfl⟩
theorem d7_72 : decode prog_42_method_4_code 72 = .ok (.aload_n 1, 1) := by decide +kernel
theorem d7_73 : decode prog_42_method_4_code 73 = .ok (.ldc 15, 2) := by decide +kernel
theorem d7_75 : decode prog_42_method_4_code 75 = .ok (.invokevirtual 9, 3) := by decide +kernel
theorem d7_78 : decode prog_42_method_4_code 78 = .ok (.ifCond .eq 5, 3) := by decide +kernel
theorem d7_81 : decode prog_42_method_4_code 81 = .ok (.iconst 2, 1) := by decide +kernel
theorem d7_82 : decode prog_42_method_4_code 82 = .ok (.istore_n 2, 1) := by decide +kernel
theorem d7_132 : decode prog_42_method_4_code 132 = .ok (.new 26, 3) := by decide +kernel
theorem d7_135 : decode prog_42_method_4_code 135 = .ok (.dup, 1) := by decide +kernel
theorem d7_136 : decode prog_42_method_4_code 136 = .ok (.invokespecial 28, 3) := by decide +kernel
theorem d7_139 : decode prog_42_method_4_code 139 = .ok (.goto 17, 3) := by decide +kernel
theorem ef_rmOfNight (m : MethodId) (x1 : Addr) : entryFrame m #[(.ref x1)] 3 = mkF m 0 #[sr x1, .unset, .unset] [] := by first | (simp [entryFrame, mkF, argsToLocals, Value.category]; done) | rfl
def Q_rmOfNight (Z : State) (x1 : Addr) (t1 : Addr) (kb : ClassId) (G1 : Int32) (h0 : Heap) (n0 : Nat) (v : Option Value) (h : Heap) (L : List Loc) : Prop := ∃ (r : Addr), v = some (.ref r) ∧ Fr n0 L ∧ Keep h0 h [x1] ∧ (Exa Z h r "castworks/bench/WidgetFactory$Night")
set_option maxRecDepth 65536 in
set_option maxHeartbeats 40000000 in
theorem rmOfNight (l : Launch) (Z : State) (a0 : Array Value) (hw : ∀ d ∈ tables_1, d.before a0 Z = true) (ws : List Jvm.Cond) (x1 : Addr) (t1 : Addr) (kb : ClassId) (G1 : Int32) (h0 : Heap) (n0 : Nat) (Z0 : n0 ≤ h0.size) (hp0 : Exa Z h0 x1 "java/lang/String") (hp1 : Fld Z h0 x1 "java/lang/String" "value" "[B" (.ref t1)) (hp2 : Fld Z h0 x1 "java/lang/String" "coder" "B" (.int 0)) (hp3 : Fld Z h0 x1 "java/lang/String" "hash" "I" (.int 0)) (hp4 : Fld Z h0 x1 "java/lang/String" "hashIsZero" "Z" (.int 0)) (hp5 : Arv Z h0 t1 kb .byte (5 : Int32) [(.int 110), (.int 105), (.int 103), (.int 104), (.int 116)] (.int 0)) (hp6 : Exa Z h0 t1 "[B") (hp7 : n0 ≤ x1) (hp8 : t1 ≠ x1) (hp9 : Sta Z Z.heap "java/lang/String" "COMPACT_STRINGS" "Z" (.int G1)) (hG1 : ¬ (G1 = (0 : Int32))) (hp11 : Old Z n0 h0) :
    MetFree l y_12 (head1 (Jvm.Cond.code y_12 prog_42_method_4_code 3 (some (.object "castworks/bench/WidgetFactory")) :: ws) ({ frames := 4, cells := 3, slots := 24, locals := 58 } : Room)) (fun a U => a = #[(.ref x1)] ∧ Z.Warmed39 U.vm ∧ U.heap = h0 ∧ CHv Z consts_1 U.vm h0 ∧ ∀ x ∈ ([x1] : List Addr), Safe Z consts_1 U.vm h0 x) (fun _ _ _ _ _ => True) (fun _ U o U' => ∃ v L, o = .returned v ∧ Q_rmOfNight Z x1 t1 kb G1 h0 n0 v U'.heap L ∧ CHr Z consts_1 U.vm U.heap U'.vm U'.heap ∧ ReturnedEndW U o U' L ({ frames := 4, cells := 3, slots := 24, locals := 58 } : Room).cells ({ frames := 4, cells := 3, slots := 24, locals := 58 } : Room).slots) := by
 refine bodyOfW pn_11 (fun m => ef_rmOfNight m x1) ?_
 intro p e s m below meth c T0 X0 hx hby hml hown hnm hret hk hZ e0 hS C0 hsf
 have hkS := Nat.le_refl h0.size
 have sfp0 := hsf _ (List.mem_of_getElem? (i := 0) rfl)
 have N0 := Fr.nil n0
 have K0 : Keep h0 h0 [x1] := Keep.refl _ _
 have ne_t1_x1 := hp8
 have O0 := hp11
 refine go (S' := T0.setTop (mkF m 5 #[sr x1, sr x1, si (-1 : Int32)] [(.ref x1)])) (fun t k => XS.aloadN X0.here hx rfl (hb hby d7_0) rfl rfl (XS.astoreN X0.here hx rfl (hb hby d7_1) rfl rfl (l' := #[sr x1, sr x1, .unset]) rfl (XS.iconst X0.here hx rfl (hb hby d7_2) (XS.istoreN X0.here hx rfl (hb hby d7_3) rfl (l' := #[sr x1, sr x1, si (-1 : Int32)]) rfl (XS.aloadN X0.here hx rfl (hb hby d7_4) rfl rfl k))))) ?_
 have O186 : Old Z n0 h0 := O0.keep K0 (allS hp7 all0)
 obtain ⟨v187, T187, L187, X187, hQ187, st187⟩ := callV X0 hx hZ (y := y_9) (z := y_9) hown (ww hw 35 rfl) (ww hw 36 rfl) (notFace_of_selects (args := #[]) (mvT hZ (ww hw 38 rfl))) (ww hw 38 rfl) (ww hw 37 rfl) (by decide) (backOf (W := 0) (rmHcNight l Z a0 hw [] x1 t1 kb G1 h0 n0 (Nat.le_trans Z0 K0.1) hp0 hp1 hp2 hp3 hp4 hp5 hp6 hp7 hp9 hG1 O186) hZ (ww hw 39 rfl) (ww hw 4 rfl) (by decide) (by decide)) hp0 (g := (mkF m 5 #[sr x1, sr x1, si (-1 : Int32)] [(.ref x1)])) rfl (by rw [hml]; rfl) (kc := 0) (ks := 0) (argsL := []) (rest := []) (lenOf pd_8 rfl) rfl (mr0 rfl) (hb hby d7_5) e0 (by decide) (by decide)
 obtain ⟨rfl, N187q, Kq187, q187_0, q187_1⟩ := hQ187
 have N187 := Fr.app N0 N187q
 have hkS := Nat.le_trans hkS Kq187.1
 have C188 := C0.trans (CHr.keep Kq187 (allS sfp0 all0) C0.1)
 have sf189 := Safe.keep Kq187 (allS sfp0 all0) C0.1 sfp0
 have K190 : Keep h0 T187.heap [x1] := K0.trans Kq187 (allS (P := fun x => x ∈ [x1] ∨ h0.size ≤ x) (Or.inl (List.mem_of_getElem? (i := 0) rfl)) all0)
 refine go (S' := T187.setTop (mkF m 73 #[sr x1, sr x1, si (-1 : Int32)] [(.ref x1)])) (fun t k => st187 _ (lsw X187.here hx rfl (pc0 := 8) (pc' := 72) rfl (hb hby d7_8) rfl (by decide) (by decide) (by decide) (XS.aloadN X187.here hx rfl (hb hby d7_72) rfl rfl k))) ?_
 obtain ⟨la191, T191, h191, k191, lb191, lk191, X191, e191, E191, hS, hkS, hZ, hown, lE191, lC191, lV191, lA191, la191_lt, lb191_lt, Cq191, lit191, lne191, st191⟩ := ldcCH X187 hx hZ hown (ww hw 83 rfl) (own_sub own_strAtoms hw) rfl hS hkS (own_EW hw) (by decide) C188.1 (vs := [(.int 110), (.int 105), (.int 103), (.int 104), (.int 116)]) (z := (5 : Int32)) ⟨by decide, by decide⟩ (by decide) (by decide) (g := (mkF m 73 #[sr x1, sr x1, si (-1 : Int32)] [(.ref x1)])) rfl (hb hby d7_73) (n := 20) (by decide) (by decide) (by decide) (by decide)
 have K192 : Keep h0 h191 [x1] := K190.ext E191
 have C193 := C188.trans Cq191
 have sf194 := CHr.safe Cq191 (hp0.keep K190).lt sf189
 have ne_x1_la191 := (lne191 x1 sf194).1
 have ne_x1_lb191 := (lne191 x1 sf194).2
 have lstr191 : Str Z h191 la191 lb191 (0 : Int32) ([110, 105, 103, 104, 116] : List Int32) := ⟨_, _, _, lE191, lV191, lC191, lA191, own_codOf rfl (by decide), by decide, Nat.le_of_ble_eq_true rfl⟩
 refine go (S' := T191.setTop (mkF m 75 #[sr x1, sr x1, si (-1 : Int32)] [(.ref la191), (.ref x1)])) st191 ?_
 have f196 : Fld Z h191 x1 "java/lang/String" "value" "[B" (.ref t1) := (q187_0.ext E191)
 have f197 : Fld Z h191 x1 "java/lang/String" "coder" "B" (.int 0) := (q187_1.ext E191)
 have str195 : Str Z h191 x1 t1 (0 : Int32) ([110, 105, 103, 104, 116] : List Int32) := ⟨_, _, _, (hp0.keep K192), f196, f197, (hp5.keep K192 (ninS ne_t1_x1 nin0)), own_codOf rfl (by decide), by decide, Nat.le_of_ble_eq_true rfl⟩
 have O198 : Old Z n0 h191 := O0.keep K192 (allS hp7 all0)
 obtain ⟨kb199, N2199, vs199, qE199, qV199, qC199, qA199, qcd199, qbd199, ql199⟩ := id str195
 obtain ⟨kb200, N2200, vs200, qE200, qV200, qC200, qA200, qcd200, qbd200, ql200⟩ := id lstr191
 obtain ⟨v201, T201, L201, X201, hQ201, st201⟩ := callV X191 hx hZ (y := y_11) (z := y_11) hown (ww hw 65 rfl) (ww hw 66 rfl) (notFace_of_selects (args := #[]) (mvT hZ (ww hw 68 rfl))) (ww hw 68 rfl) (ww hw 67 rfl) (by decide) (StrChars.Road.eqW (W := 0) hZ (own_sub StrChars_wordsEq hw) (kI := 4) (ww hw 3 rfl) qE199 qV199 qC199 qA199 qcd199 qbd199 ql199 qE200 qV200 qC200 qA200 qcd200 qbd200 ql200 (hp9.ext O198.2) hG1 (by decide) (by decide)) (hp0.keep K192) (g := (mkF m 75 #[sr x1, sr x1, si (-1 : Int32)] [(.ref la191), (.ref x1)])) rfl (by rw [hml]; rfl) (Q := (fun v h' L => ((v = some (.int 1) ∧ ([110, 105, 103, 104, 116] : List Int32) = ([110, 105, 103, 104, 116] : List Int32)) ∨ (v = some (.int 0) ∧ ¬ ([110, 105, 103, 104, 116] : List Int32) = ([110, 105, 103, 104, 116] : List Int32))) ∧ L = [] ∧ h' = h191)) (kc := 0) (ks := 0) (argsL := [(.ref la191)]) (rest := []) (lenOf pd_9 rfl) rfl (mr0 rfl) (hb hby d7_75) e191 (by decide) (by decide)
 obtain ⟨hv201, rfl, e201⟩ := hQ201
 have hw201 : v201 = some (.int (if ([110, 105, 103, 104, 116] : List Int32) = ([110, 105, 103, 104, 116] : List Int32) then (1 : Int32) else (0 : Int32))) := by rcases hv201 with ⟨a, b⟩ | ⟨a, b⟩; rw [a, if_pos b]; rw [a, if_neg b]
 subst hw201
 have N201 := Fr.app N187 (Fr.nil n0)
 refine go (S' := T201.setTop (mkF m 78 #[sr x1, sr x1, si (-1 : Int32)] [(.int (if ([110, 105, 103, 104, 116] : List Int32) = ([110, 105, 103, 104, 116] : List Int32) then (1 : Int32) else (0 : Int32)))])) st201 ?_
 rw [show (if ([110, 105, 103, 104, 116] : List Int32) = ([110, 105, 103, 104, 116] : List Int32) then (1 : Int32) else (0 : Int32)) = (1 : Int32) from if_pos rfl]
 have hc202 : ¬ ((1 : Int32) = (0 : Int32)) := by decide
 refine go (S' := T201.setTop (mkF m 132 #[sr x1, sr x1, si 2] [])) (fun t k => XS.ifNo X201.here hx rfl (hb hby d7_78) rfl ((if0 _ _).trans (feq hc202).1) (XS.iconst X201.here hx rfl (hb hby d7_81) (XS.istoreN X201.here hx rfl (hb hby d7_82) rfl (l' := #[sr x1, sr x1, si 2]) rfl (XS.iloadN X201.here hx rfl (hb hby d7_83) rfl (XS.tswIn X201.here hx rfl (pc0 := 84) (pc' := 132) rfl (hb hby d7_84) rfl (by decide) rfl (by decide) (by decide) k))))) ?_
 obtain ⟨T203, h203, X203, e203, E203, A203, D203, -, st203⟩ := newO X201 hx hZ hown (ww hw 84 rfl) (ww hw 85 rfl) (ww hw 86 rfl) e201 (g := (mkF m 132 #[sr x1, sr x1, si 2] [])) rfl (hb hby d7_132) (by decide) (by decide)
 obtain ⟨b203, g203⟩ : ∃ z, z = h191.size := ⟨_, rfl⟩
 rw [← g203] at A203 D203 st203
 have lt_x1_b203 : x1 < b203 := by rw [g203]; exact (hp0.keep K192).lt
 have lt_t1_b203 : t1 < b203 := by rw [g203]; exact (hp6.keep K192).lt
 have lt_la191_b203 : la191 < b203 := by rw [g203]; exact lstr191.lt1
 have lt_lb191_b203 : lb191 < b203 := by rw [g203]; exact lstr191.lt2
 have ge_b203 : n0 ≤ b203 := by rw [g203]; exact (Nat.le_trans Z0 K192.1)
 have sz_b203 : h0.size ≤ b203 := by rw [g203]; exact K192.1
 have K204 : Keep h0 h203 [x1] := K192.ext E203
 have hkS := Nat.le_trans hkS E203.1
 have C205 := C193.trans (CHr.ext E203 C193.1)
 have sf206 := Safe.ext E203 C193.1 sf194
 refine go (S' := T203.setTop (mkF m 136 #[sr x1, sr x1, si 2] [(.ref b203), (.ref b203)])) (fun t k => st203 _ (XS.dup X203.here hx rfl (hb hby d7_135) rfl rfl k)) ?_
 obtain ⟨v207, T207, L207, X207, hQ207, st207⟩ := callSp X203 hx hZ (y := y_14) rfl hown (ww hw 87 rfl) (ww hw 88 rfl) (ww hw 89 rfl) (by decide) (backOf (W := 1) (rmCiNight l Z a0 hw [] b203 h203 n0 (Nat.le_trans Z0 K204.1) ) hZ (ww hw 89 rfl) (ww hw 86 rfl) (by decide) (by decide)) (g := (mkF m 136 #[sr x1, sr x1, si 2] [(.ref b203), (.ref b203)])) rfl (by rw [hml]; rfl) (a := b203) (kc := 0) (ks := 0) (argsL := []) (rest := [(.ref b203)]) (lenOf pd_10 rfl) rfl (mr0 rfl) (hb hby d7_136) e203 (by decide) (by decide)
 obtain ⟨rfl, N207q, e207⟩ := hQ207
 have N207 := Fr.app N201 N207q
 refine go (S' := T207.setTop (mkF m 156 #[sr x1, sr x1, si 2] [(.ref b203)])) (fun t k => st207 _ (XS.goto X207.here hx rfl (pc0 := 139) (pc' := 156) rfl (hb hby d7_139) (by decide) (by decide) k)) ?_
 refine finRW X207 hx hk hret rfl rfl hS hkS hZ (own_EW hw) C205 e207 (hb hby d7_156) (by decide) (by decide) ?_
 exact ⟨b203, rfl, N207, K204, A203⟩
theorem pd_11 : parseMethodDescriptor "([C)V" = some ⟨[(.array .char)], none⟩ := by decide +kernel
theorem pd_12 : parseMethodDescriptor "(Ljava/lang/String;)Lcastworks/bench/WidgetFactory;" = some ⟨[(.object "java/lang/String")], some (.object "castworks/bench/WidgetFactory")⟩ := by decide +kernel
abbrev y_15 : MethodName := ⟨"castworks/bench/WidgetFactoryOfPinLaw", "law", "(I)Z"⟩
theorem pn_14 : plainFor y_15 = true := by first | exact plainFor_of_name (by first | (simp [plainName, overriddenIn]; done) | decide +kernel) | decide +kernel
theorem ef_rmLaw (m : MethodId) (p1 : Int32) : entryFrame m #[(.int p1)] maxLocals = mkF m 0 #[si p1, .unset, .unset, .unset, .unset] [] := by first | (simp [entryFrame, mkF, argsToLocals, Value.category, maxLocals]; done) | rfl
def Q_rmLaw (Z : State) (p1 : Int32) (G1 : Int32) (h0 : Heap) (n0 : Nat) (v : Option Value) (h : Heap) (L : List Loc) : Prop := v = some (.int 1) ∧ Fr n0 L ∧ Keep h0 h []
set_option maxRecDepth 65536 in
set_option maxHeartbeats 40000000 in
theorem rmLaw (l : Launch) (Z : State) (a0 : Array Value) (hw : ∀ d ∈ tables_1, d.before a0 Z = true) (ws : List Jvm.Cond) (p1 : Int32) (G1 : Int32) (h0 : Heap) (n0 : Nat) (Z0 : n0 ≤ h0.size) (hp0 : Sta Z Z.heap "java/lang/String" "COMPACT_STRINGS" "Z" (.int G1)) (hG1 : ¬ (G1 = (0 : Int32))) (hp2 : Old Z n0 h0) :
    MetFree l x (head1 (Jvm.Cond.code x code maxLocals ret :: ws) room_1) (fun a U => a = #[(.int p1)] ∧ Z.Warmed39 U.vm ∧ U.heap = h0 ∧ CHv Z consts_1 U.vm h0 ∧ ∀ x ∈ ([] : List Addr), Safe Z consts_1 U.vm h0 x) (fun _ _ _ _ _ => True) (fun _ U o U' => ∃ v L, o = .returned v ∧ Q_rmLaw Z p1 G1 h0 n0 v U'.heap L ∧ CHr Z consts_1 U.vm U.heap U'.vm U'.heap ∧ ReturnedEndW U o U' L room_1.cells room_1.slots) := by
 refine bodyOfW pn_14 (fun m => ef_rmLaw m p1) ?_
 intro p e s m below meth c T0 X0 hx hby hml hown hnm hret hk hZ e0 hS C0 hsf
 have hkS := Nat.le_refl h0.size
 have N0 := Fr.nil n0
 have K0 : Keep h0 h0 [] := Keep.refl _ _
 have O0 := hp2
 refine go (S' := T0.setTop (mkF m 7 #[si p1, si ((p1 &&& (2147483647 : Int32)) % (3 : Int32)), .unset, .unset, .unset] [])) (fun t k => XS.iloadN X0.here hx rfl (hb hby at_0) rfl (X0.ldcInt hx hown (mvT hZ (ww hw 0 rfl)) (g := (mkF m 1 #[si p1, .unset, .unset, .unset, .unset] [(.int p1)])) rfl (hb hby at_1) _ (XS.iand X0.here hx rfl (hb hby at_3) rfl (XS.iconst X0.here hx rfl (hb hby at_4) (iremM X0 hx rfl (hb hby at_5) rfl (by decide) (XS.istoreN X0.here hx rfl (hb hby at_6) rfl (l' := #[si p1, si ((p1 &&& (2147483647 : Int32)) % (3 : Int32)), .unset, .unset, .unset]) rfl k)))))) ?_
 rcases own_three p1 with hf | hf | hf
 ·
  rw [hf]
  refine go (S' := T0.setTop (mkF m 8 #[si p1, si 0, .unset, .unset, .unset] [(.int 0)])) (fun t k => XS.iloadN X0.here hx rfl (hb hby at_7) rfl k) ?_
  have hc208 : (0 : Int32) = (0 : Int32) := by decide
  refine go (S' := T0.setTop (mkF m 12 #[si p1, si 0, .unset, .unset, .unset] [(.int 4)])) (fun t k => XS.ifNo X0.here hx rfl (hb hby at_8) rfl ((if0 _ _).trans (teq hc208).2) (XS.iconst X0.here hx rfl (hb hby at_11) k)) ?_
  obtain ⟨T209, h209, k209, X209, e209, E209, A209, st209⟩ := newP X0 hx hZ (ww hw 1 rfl) e0 (g := (mkF m 12 #[si p1, si 0, .unset, .unset, .unset] [(.int 4)])) rfl (hb hby at_12) rfl (by decide) (cap := 4) (by decide) (by decide) (by decide) (by decide)
  obtain ⟨b209, g209⟩ : ∃ z, z = h0.size := ⟨_, rfl⟩
  rw [← g209] at A209 st209
  have ge_b209 : n0 ≤ b209 := by rw [g209]; exact (Nat.le_trans Z0 K0.1)
  have sz_b209 : h0.size ≤ b209 := by rw [g209]; exact K0.1
  have K210 : Keep h0 h209 [] := K0.ext E209
  have hkS := Nat.le_trans hkS E209.1
  have C211 := C0.trans (CHr.ext E209 C0.1)
  have V209 : Arv Z h209 b209 k209 .char (4 : Int32) [(.int 0), (.int 0), (.int 0), (.int 0)] (.int 0) := (Arv.new A209 (by decide)).pad (pad_rep [] (.int 0) 4)
  refine go (S' := T209.setTop (mkF m 18 #[si p1, si 0, .unset, .unset, .unset] [(.int 100), (.int 0), (.ref b209), (.ref b209)])) (fun t k => st209 _ (XS.dup X209.here hx rfl (hb hby at_14) rfl rfl (XS.iconst X209.here hx rfl (hb hby at_15) (XS.bipush X209.here hx rfl (hb hby at_16) k)))) ?_
  obtain ⟨T212, h212, X212, e212, W212, V212, st212⟩ := putC X209 hx hZ e209 V209 (j := (0 : Int32)) (x := (100 : Int32)) (by decide) ⟨by decide, by decide⟩ (i := 0) rfl (Nat.le_of_ble_eq_true rfl) (g := (mkF m 18 #[si p1, si 0, .unset, .unset, .unset] [(.int 100), (.int 0), (.ref b209), (.ref b209)])) rfl rfl (hb hby at_18)
  have K213 : Keep h0 h212 [] := K210.wr W212 (Or.inr sz_b209)
  have N214 := Fr.snoc X212 N0 ge_b209
  have hkS := Nat.le_trans hkS (Keep.of_wr W212).1
  have C215 := C211.trans (CHr.wr W212 (safeArv hZ.alike V209 (by decide)) C211.1)
  refine go (S' := T212.setTop (mkF m 23 #[si p1, si 0, .unset, .unset, .unset] [(.int 97), (.int 1), (.ref b209), (.ref b209)])) (fun t k => st212 _ (XS.dup X212.here hx rfl (hb hby at_19) rfl rfl (XS.iconst X212.here hx rfl (hb hby at_20) (XS.bipush X212.here hx rfl (hb hby at_21) k)))) ?_
  obtain ⟨T216, h216, X216, e216, W216, V216, st216⟩ := putC X212 hx hZ e212 V212 (j := (1 : Int32)) (x := (97 : Int32)) (by decide) ⟨by decide, by decide⟩ (i := 1) rfl (Nat.le_of_ble_eq_true rfl) (g := (mkF m 23 #[si p1, si 0, .unset, .unset, .unset] [(.int 97), (.int 1), (.ref b209), (.ref b209)])) rfl rfl (hb hby at_23)
  have K217 : Keep h0 h216 [] := K213.wr W216 (Or.inr sz_b209)
  have N218 := Fr.snoc X216 N214 ge_b209
  have hkS := Nat.le_trans hkS (Keep.of_wr W216).1
  have C219 := C215.trans (CHr.wr W216 (safeArv hZ.alike V212 (by decide)) C215.1)
  refine go (S' := T216.setTop (mkF m 28 #[si p1, si 0, .unset, .unset, .unset] [(.int 114), (.int 2), (.ref b209), (.ref b209)])) (fun t k => st216 _ (XS.dup X216.here hx rfl (hb hby at_24) rfl rfl (XS.iconst X216.here hx rfl (hb hby at_25) (XS.bipush X216.here hx rfl (hb hby at_26) k)))) ?_
  obtain ⟨T220, h220, X220, e220, W220, V220, st220⟩ := putC X216 hx hZ e216 V216 (j := (2 : Int32)) (x := (114 : Int32)) (by decide) ⟨by decide, by decide⟩ (i := 2) rfl (Nat.le_of_ble_eq_true rfl) (g := (mkF m 28 #[si p1, si 0, .unset, .unset, .unset] [(.int 114), (.int 2), (.ref b209), (.ref b209)])) rfl rfl (hb hby at_28)
  have K221 : Keep h0 h220 [] := K217.wr W220 (Or.inr sz_b209)
  have N222 := Fr.snoc X220 N218 ge_b209
  have hkS := Nat.le_trans hkS (Keep.of_wr W220).1
  have C223 := C219.trans (CHr.wr W220 (safeArv hZ.alike V216 (by decide)) C219.1)
  refine go (S' := T220.setTop (mkF m 33 #[si p1, si 0, .unset, .unset, .unset] [(.int 107), (.int 3), (.ref b209), (.ref b209)])) (fun t k => st220 _ (XS.dup X220.here hx rfl (hb hby at_29) rfl rfl (XS.iconst X220.here hx rfl (hb hby at_30) (XS.bipush X220.here hx rfl (hb hby at_31) k)))) ?_
  obtain ⟨T224, h224, X224, e224, W224, V224, st224⟩ := putC X220 hx hZ e220 V220 (j := (3 : Int32)) (x := (107 : Int32)) (by decide) ⟨by decide, by decide⟩ (i := 3) rfl (Nat.le_of_ble_eq_true rfl) (g := (mkF m 33 #[si p1, si 0, .unset, .unset, .unset] [(.int 107), (.int 3), (.ref b209), (.ref b209)])) rfl rfl (hb hby at_33)
  have K225 : Keep h0 h224 [] := K221.wr W224 (Or.inr sz_b209)
  have N226 := Fr.snoc X224 N222 ge_b209
  have hkS := Nat.le_trans hkS (Keep.of_wr W224).1
  have C227 := C223.trans (CHr.wr W224 (safeArv hZ.alike V220 (by decide)) C223.1)
  refine go (S' := T224.setTop (mkF m 104 #[si p1, si 0, sr b209, .unset, .unset] [])) (fun t k => st224 _ (XS.astoreN X224.here hx rfl (hb hby at_34) rfl rfl (l' := #[si p1, si 0, sr b209, .unset, .unset]) rfl (XS.goto X224.here hx rfl (pc0 := 35) (pc' := 104) rfl (hb hby at_35) (by decide) (by decide) k))) ?_
  obtain ⟨T228, h228, X228, e228, E228, A228, D228, -, st228⟩ := newO X224 hx hZ hown (ww hw 2 rfl) (ww hw 3 rfl) (ww hw 4 rfl) e224 (g := (mkF m 104 #[si p1, si 0, sr b209, .unset, .unset] [])) rfl (hb hby at_104) (by decide) (by decide)
  obtain ⟨b228, g228⟩ : ∃ z, z = h224.size := ⟨_, rfl⟩
  rw [← g228] at A228 D228 st228
  have lt_b209_b228 : b209 < b228 := by rw [g228]; exact V224.lt
  have ge_b228 : n0 ≤ b228 := by rw [g228]; exact (Nat.le_trans Z0 K225.1)
  have sz_b228 : h0.size ≤ b228 := by rw [g228]; exact K225.1
  have K229 : Keep h0 h228 [] := K225.ext E228
  have hkS := Nat.le_trans hkS E228.1
  have C230 := C227.trans (CHr.ext E228 C227.1)
  have sf231 := Safe.ext E228 C227.1 (Safe.new (Nat.le_of_eq g228.symm))
  refine go (S' := T228.setTop (mkF m 109 #[si p1, si 0, sr b209, .unset, .unset] [(.ref b209), (.ref b228), (.ref b228)])) (fun t k => st228 _ (XS.dup X228.here hx rfl (hb hby at_107) rfl rfl (XS.aloadN X228.here hx rfl (hb hby at_108) rfl rfl k))) ?_
  have f232 : Arv Z h228 b209 k209 .char (4 : Int32) [(.int 100), (.int 97), (.int 114), (.int 107)] (.int 0) := (V224.ext E228)
  have O233 : Old Z n0 h228 := O0.keep K229 all0
  obtain ⟨v234, T234, L234, X234, hQ234, st234⟩ := callSp X228 hx hZ (y := y_4) rfl hown (ww hw 5 rfl) (ww hw 6 rfl) (ww hw 7 rfl) (by decide) (backOf (W := 1) (rmInit1 l Z a0 hw [] b228 b209 (4 : Int32) k209 ([100, 97, 114, 107] : List Int32) (.int 0) G1 h228 n0 (Nat.le_trans Z0 K229.1) f232 rfl (by decide) (by decide) (by decide) (by decide) A228 (D228 (Or.inr (ww hw 30 rfl)) (ty := (.array .byte)) (by decide)) (D228 (Or.inr (ww hw 28 rfl)) (ty := .byte) (by decide)) ge_b228 (Nat.ne_of_gt lt_b209_b228) (D228 (Or.inl (ww hw 41 rfl)) (ty := .int) (by decide)) (D228 (Or.inl (ww hw 43 rfl)) (ty := .boolean) (by decide)) hp0 hG1 O233) hZ (ww hw 7 rfl) (ww hw 4 rfl) (by decide) (by decide)) (g := (mkF m 109 #[si p1, si 0, sr b209, .unset, .unset] [(.ref b209), (.ref b228), (.ref b228)])) rfl (by rw [hml]; rfl) (a := b228) (kc := 1) (ks := 5) (argsL := [(.ref b209)]) (rest := [(.ref b228)]) (lenOf pd_11 rfl) rfl (mr0 rfl) (hb hby at_109) e228 (by decide) (by decide)
  obtain ⟨t_234, cd_234, rfl, N234q, Kq234, q234_0, q234_1, q234_2, q234_3, q234_4, q234_5⟩ := hQ234
  have N234 := Fr.app N226 N234q
  have hkS := Nat.le_trans hkS Kq234.1
  have C235 := C230.trans (CHr.keep Kq234 (allS sf231 all0) C230.1)
  have sf236 := Safe.keep Kq234 (allS sf231 all0) C230.1 sf231
  have K237 : Keep h0 T234.heap [] := K229.trans Kq234 (allS (P := fun x => x ∈ [] ∨ h0.size ≤ x) (Or.inr sz_b228) all0)
  have lt_b209_t_234 : b209 < t_234 := Nat.lt_of_lt_of_le f232.lt q234_0
  have lt_b228_t_234 : b228 < t_234 := Nat.lt_of_lt_of_le A228.lt q234_0
  have sz_t_234 : h0.size ≤ t_234 := Nat.le_trans K229.1 q234_0
  have ge_t_234 : n0 ≤ t_234 := Nat.le_trans Z0 sz_t_234
  have ne_t_234_b228 := q234_1
  refine go (S' := T234.setTop (mkF m 112 #[si p1, si 0, sr b209, .unset, .unset] [(.ref b228)])) st234 ?_
  obtain ⟨kb238, N2238, vs238, qE238, qV238, qC238, qA238, qcd238, -⟩ := id q234_2
  obtain ⟨qc238, qN238, qv238, -⟩ : cd_234 = 0 ∧ N2238 = Int32.ofNat ([100, 97, 114, 107] : List Int32).length ∧ vs238 = (([100, 97, 114, 107] : List Int32).map fun c => Value.int (StrChars.lo8 c)) ∧ ∀ c ∈ ([100, 97, 114, 107] : List Int32), ¬ (255 : Int32) < c := by rcases qcd238 with q | ⟨-, -, -, z, hz, hz2⟩; exact q; exact absurd hz2 ((by decide : ∀ c ∈ ([100, 97, 114, 107] : List Int32), ¬ (255 : Int32) < c) z hz)
  rw [qc238] at qC238; rw [qN238, qv238] at qA238
  have qB238 : Arv Z T234.heap t_234 kb238 .byte (4 : Int32) [(.int 100), (.int 97), (.int 114), (.int 107)] (.int 0) := qA238
  refine go (S' := T234.setTop (mkF m 114 #[si p1, si 0, sr b209, sr b228, .unset] [(.ref b228)])) (fun t k => XS.astoreN X234.here hx rfl (hb hby at_112) rfl rfl (l' := #[si p1, si 0, sr b209, sr b228, .unset]) rfl (XS.aloadN X234.here hx rfl (hb hby at_113) rfl rfl k)) ?_
  have O239 : Old Z n0 T234.heap := O0.keep K237 all0
  obtain ⟨v240, T240, L240, X240, hQ240, hS, hZ, hown, Cq240, st240⟩ := callStW X234 hx hZ (y := y_12) hown (ww hw 31 rfl) (ww hw 32 rfl) (ww hw 33 rfl) (ww hw 34 rfl) (by decide) (backW (W := 0) (rmOfDark l Z a0 hw [] b228 t_234 kb238 G1 T234.heap n0 (Nat.le_trans Z0 K237.1) qE238 qV238 qC238 q234_3 q234_4 qB238 q234_5 ge_b228 ne_t_234_b228 hp0 hG1 O239) hZ (ww hw 34 rfl) (ww hw 33 rfl) (by decide) (by decide) (own_EW hw) C235.1 (allS ⟨sf236, qE238.lt⟩ all0)) (g := (mkF m 114 #[si p1, si 0, sr b209, sr b228, .unset] [(.ref b228)])) rfl (by rw [hml]; rfl) (kc := 3) (ks := 20) (argsL := [(.ref b228)]) (rest := []) (lenOf pd_12 rfl) rfl (mr0 rfl) (hb hby at_114) rfl (by decide) (by decide) hS hkS
  obtain ⟨r_240, rfl, N240q, Kq240, q240_0⟩ := hQ240
  have N240 := Fr.app N234 N240q
  have hkS := Nat.le_refl T240.heap.size
  have C241 := C235.trans Cq240
  have sf242 := CHr.safe Cq240 qE238.lt sf236
  have K243 : Keep h0 T240.heap [] := K237.trans Kq240 (allS (P := fun x => x ∈ [] ∨ h0.size ≤ x) (Or.inr sz_b228) all0)
  refine go (S' := T240.setTop (mkF m 120 #[si p1, si 0, sr b209, sr b228, sr r_240] [(.int 0)])) (fun t k => st240 _ (XS.astore X240.here hx rfl (hb hby at_117) rfl rfl (l' := #[si p1, si 0, sr b209, sr b228, sr r_240]) rfl (XS.iloadN X240.here hx rfl (hb hby at_119) rfl k))) ?_
  have hc244 : (0 : Int32) = (0 : Int32) := by decide
  refine go (S' := T240.setTop (mkF m 125 #[si p1, si 0, sr b209, sr b228, sr r_240] [(.ref r_240)])) (fun t k => XS.ifNo X240.here hx rfl (hb hby at_120) rfl ((if0 _ _).trans (teq hc244).2) (XS.aload X240.here hx rfl (hb hby at_123) rfl rfl k)) ?_
  obtain ⟨T245, X245, e245, st245⟩ := instY X240 hx hZ hown (ww hw 81 rfl) rfl (Ins.self q240_0) (g := (mkF m 125 #[si p1, si 0, sr b209, sr b228, sr r_240] [(.ref r_240)])) rfl rfl (hb hby at_125)
  refine go (S' := T245.setTop (mkF m 128 #[si p1, si 0, sr b209, sr b228, sr r_240] [(.int 1)])) st245 ?_
  refine finNW X245 hx hk (t := .boolean) hret (by simp) hS hkS hZ (own_EW hw) C241 e245 (hb hby at_128) (by decide) (by decide) ?_
  exact ⟨rfl, N240, K243⟩
 ·
  rw [hf]
  refine go (S' := T0.setTop (mkF m 8 #[si p1, si 1, .unset, .unset, .unset] [(.int 1)])) (fun t k => XS.iloadN X0.here hx rfl (hb hby at_7) rfl k) ?_
  have hc246 : ¬ ((1 : Int32) = (0 : Int32)) := by decide
  refine go (S' := T0.setTop (mkF m 40 #[si p1, si 1, .unset, .unset, .unset] [(.int 1), (.int 1)])) (fun t k => XS.ifYes X0.here hx rfl (pc0 := 8) (pc' := 38) rfl (hb hby at_8) rfl ((if0 _ _).trans (feq hc246).2) (by decide) (by decide) (XS.iloadN X0.here hx rfl (hb hby at_38) rfl (XS.iconst X0.here hx rfl (hb hby at_39) k))) ?_
  have hc247 : (1 : Int32) = (1 : Int32) := by decide
  refine go (S' := T0.setTop (mkF m 44 #[si p1, si 1, .unset, .unset, .unset] [(.int 5)])) (fun t k => XS.icmpNo X0.here hx rfl (hb hby at_40) rfl (teq hc247).2 (XS.iconst X0.here hx rfl (hb hby at_43) k)) ?_
  obtain ⟨T248, h248, k248, X248, e248, E248, A248, st248⟩ := newP X0 hx hZ (ww hw 1 rfl) e0 (g := (mkF m 44 #[si p1, si 1, .unset, .unset, .unset] [(.int 5)])) rfl (hb hby at_44) rfl (by decide) (cap := 5) (by decide) (by decide) (by decide) (by decide)
  obtain ⟨b248, g248⟩ : ∃ z, z = h0.size := ⟨_, rfl⟩
  rw [← g248] at A248 st248
  have ge_b248 : n0 ≤ b248 := by rw [g248]; exact (Nat.le_trans Z0 K0.1)
  have sz_b248 : h0.size ≤ b248 := by rw [g248]; exact K0.1
  have K249 : Keep h0 h248 [] := K0.ext E248
  have hkS := Nat.le_trans hkS E248.1
  have C250 := C0.trans (CHr.ext E248 C0.1)
  have V248 : Arv Z h248 b248 k248 .char (5 : Int32) [(.int 0), (.int 0), (.int 0), (.int 0), (.int 0)] (.int 0) := (Arv.new A248 (by decide)).pad (pad_rep [] (.int 0) 5)
  refine go (S' := T248.setTop (mkF m 50 #[si p1, si 1, .unset, .unset, .unset] [(.int 108), (.int 0), (.ref b248), (.ref b248)])) (fun t k => st248 _ (XS.dup X248.here hx rfl (hb hby at_46) rfl rfl (XS.iconst X248.here hx rfl (hb hby at_47) (XS.bipush X248.here hx rfl (hb hby at_48) k)))) ?_
  obtain ⟨T251, h251, X251, e251, W251, V251, st251⟩ := putC X248 hx hZ e248 V248 (j := (0 : Int32)) (x := (108 : Int32)) (by decide) ⟨by decide, by decide⟩ (i := 0) rfl (Nat.le_of_ble_eq_true rfl) (g := (mkF m 50 #[si p1, si 1, .unset, .unset, .unset] [(.int 108), (.int 0), (.ref b248), (.ref b248)])) rfl rfl (hb hby at_50)
  have K252 : Keep h0 h251 [] := K249.wr W251 (Or.inr sz_b248)
  have N253 := Fr.snoc X251 N0 ge_b248
  have hkS := Nat.le_trans hkS (Keep.of_wr W251).1
  have C254 := C250.trans (CHr.wr W251 (safeArv hZ.alike V248 (by decide)) C250.1)
  refine go (S' := T251.setTop (mkF m 55 #[si p1, si 1, .unset, .unset, .unset] [(.int 105), (.int 1), (.ref b248), (.ref b248)])) (fun t k => st251 _ (XS.dup X251.here hx rfl (hb hby at_51) rfl rfl (XS.iconst X251.here hx rfl (hb hby at_52) (XS.bipush X251.here hx rfl (hb hby at_53) k)))) ?_
  obtain ⟨T255, h255, X255, e255, W255, V255, st255⟩ := putC X251 hx hZ e251 V251 (j := (1 : Int32)) (x := (105 : Int32)) (by decide) ⟨by decide, by decide⟩ (i := 1) rfl (Nat.le_of_ble_eq_true rfl) (g := (mkF m 55 #[si p1, si 1, .unset, .unset, .unset] [(.int 105), (.int 1), (.ref b248), (.ref b248)])) rfl rfl (hb hby at_55)
  have K256 : Keep h0 h255 [] := K252.wr W255 (Or.inr sz_b248)
  have N257 := Fr.snoc X255 N253 ge_b248
  have hkS := Nat.le_trans hkS (Keep.of_wr W255).1
  have C258 := C254.trans (CHr.wr W255 (safeArv hZ.alike V251 (by decide)) C254.1)
  refine go (S' := T255.setTop (mkF m 60 #[si p1, si 1, .unset, .unset, .unset] [(.int 103), (.int 2), (.ref b248), (.ref b248)])) (fun t k => st255 _ (XS.dup X255.here hx rfl (hb hby at_56) rfl rfl (XS.iconst X255.here hx rfl (hb hby at_57) (XS.bipush X255.here hx rfl (hb hby at_58) k)))) ?_
  obtain ⟨T259, h259, X259, e259, W259, V259, st259⟩ := putC X255 hx hZ e255 V255 (j := (2 : Int32)) (x := (103 : Int32)) (by decide) ⟨by decide, by decide⟩ (i := 2) rfl (Nat.le_of_ble_eq_true rfl) (g := (mkF m 60 #[si p1, si 1, .unset, .unset, .unset] [(.int 103), (.int 2), (.ref b248), (.ref b248)])) rfl rfl (hb hby at_60)
  have K260 : Keep h0 h259 [] := K256.wr W259 (Or.inr sz_b248)
  have N261 := Fr.snoc X259 N257 ge_b248
  have hkS := Nat.le_trans hkS (Keep.of_wr W259).1
  have C262 := C258.trans (CHr.wr W259 (safeArv hZ.alike V255 (by decide)) C258.1)
  refine go (S' := T259.setTop (mkF m 65 #[si p1, si 1, .unset, .unset, .unset] [(.int 104), (.int 3), (.ref b248), (.ref b248)])) (fun t k => st259 _ (XS.dup X259.here hx rfl (hb hby at_61) rfl rfl (XS.iconst X259.here hx rfl (hb hby at_62) (XS.bipush X259.here hx rfl (hb hby at_63) k)))) ?_
  obtain ⟨T263, h263, X263, e263, W263, V263, st263⟩ := putC X259 hx hZ e259 V259 (j := (3 : Int32)) (x := (104 : Int32)) (by decide) ⟨by decide, by decide⟩ (i := 3) rfl (Nat.le_of_ble_eq_true rfl) (g := (mkF m 65 #[si p1, si 1, .unset, .unset, .unset] [(.int 104), (.int 3), (.ref b248), (.ref b248)])) rfl rfl (hb hby at_65)
  have K264 : Keep h0 h263 [] := K260.wr W263 (Or.inr sz_b248)
  have N265 := Fr.snoc X263 N261 ge_b248
  have hkS := Nat.le_trans hkS (Keep.of_wr W263).1
  have C266 := C262.trans (CHr.wr W263 (safeArv hZ.alike V259 (by decide)) C262.1)
  refine go (S' := T263.setTop (mkF m 70 #[si p1, si 1, .unset, .unset, .unset] [(.int 116), (.int 4), (.ref b248), (.ref b248)])) (fun t k => st263 _ (XS.dup X263.here hx rfl (hb hby at_66) rfl rfl (XS.iconst X263.here hx rfl (hb hby at_67) (XS.bipush X263.here hx rfl (hb hby at_68) k)))) ?_
  obtain ⟨T267, h267, X267, e267, W267, V267, st267⟩ := putC X263 hx hZ e263 V263 (j := (4 : Int32)) (x := (116 : Int32)) (by decide) ⟨by decide, by decide⟩ (i := 4) rfl (Nat.le_of_ble_eq_true rfl) (g := (mkF m 70 #[si p1, si 1, .unset, .unset, .unset] [(.int 116), (.int 4), (.ref b248), (.ref b248)])) rfl rfl (hb hby at_70)
  have K268 : Keep h0 h267 [] := K264.wr W267 (Or.inr sz_b248)
  have N269 := Fr.snoc X267 N265 ge_b248
  have hkS := Nat.le_trans hkS (Keep.of_wr W267).1
  have C270 := C266.trans (CHr.wr W267 (safeArv hZ.alike V263 (by decide)) C266.1)
  refine go (S' := T267.setTop (mkF m 104 #[si p1, si 1, sr b248, .unset, .unset] [])) (fun t k => st267 _ (XS.astoreN X267.here hx rfl (hb hby at_71) rfl rfl (l' := #[si p1, si 1, sr b248, .unset, .unset]) rfl (XS.goto X267.here hx rfl (pc0 := 72) (pc' := 104) rfl (hb hby at_72) (by decide) (by decide) k))) ?_
  obtain ⟨T271, h271, X271, e271, E271, A271, D271, -, st271⟩ := newO X267 hx hZ hown (ww hw 2 rfl) (ww hw 3 rfl) (ww hw 4 rfl) e267 (g := (mkF m 104 #[si p1, si 1, sr b248, .unset, .unset] [])) rfl (hb hby at_104) (by decide) (by decide)
  obtain ⟨b271, g271⟩ : ∃ z, z = h267.size := ⟨_, rfl⟩
  rw [← g271] at A271 D271 st271
  have lt_b248_b271 : b248 < b271 := by rw [g271]; exact V267.lt
  have ge_b271 : n0 ≤ b271 := by rw [g271]; exact (Nat.le_trans Z0 K268.1)
  have sz_b271 : h0.size ≤ b271 := by rw [g271]; exact K268.1
  have K272 : Keep h0 h271 [] := K268.ext E271
  have hkS := Nat.le_trans hkS E271.1
  have C273 := C270.trans (CHr.ext E271 C270.1)
  have sf274 := Safe.ext E271 C270.1 (Safe.new (Nat.le_of_eq g271.symm))
  refine go (S' := T271.setTop (mkF m 109 #[si p1, si 1, sr b248, .unset, .unset] [(.ref b248), (.ref b271), (.ref b271)])) (fun t k => st271 _ (XS.dup X271.here hx rfl (hb hby at_107) rfl rfl (XS.aloadN X271.here hx rfl (hb hby at_108) rfl rfl k))) ?_
  have f275 : Arv Z h271 b248 k248 .char (5 : Int32) [(.int 108), (.int 105), (.int 103), (.int 104), (.int 116)] (.int 0) := (V267.ext E271)
  have O276 : Old Z n0 h271 := O0.keep K272 all0
  obtain ⟨v277, T277, L277, X277, hQ277, st277⟩ := callSp X271 hx hZ (y := y_4) rfl hown (ww hw 5 rfl) (ww hw 6 rfl) (ww hw 7 rfl) (by decide) (backOf (W := 1) (rmInit1 l Z a0 hw [] b271 b248 (5 : Int32) k248 ([108, 105, 103, 104, 116] : List Int32) (.int 0) G1 h271 n0 (Nat.le_trans Z0 K272.1) f275 rfl (by decide) (by decide) (by decide) (by decide) A271 (D271 (Or.inr (ww hw 30 rfl)) (ty := (.array .byte)) (by decide)) (D271 (Or.inr (ww hw 28 rfl)) (ty := .byte) (by decide)) ge_b271 (Nat.ne_of_gt lt_b248_b271) (D271 (Or.inl (ww hw 41 rfl)) (ty := .int) (by decide)) (D271 (Or.inl (ww hw 43 rfl)) (ty := .boolean) (by decide)) hp0 hG1 O276) hZ (ww hw 7 rfl) (ww hw 4 rfl) (by decide) (by decide)) (g := (mkF m 109 #[si p1, si 1, sr b248, .unset, .unset] [(.ref b248), (.ref b271), (.ref b271)])) rfl (by rw [hml]; rfl) (a := b271) (kc := 1) (ks := 5) (argsL := [(.ref b248)]) (rest := [(.ref b271)]) (lenOf pd_11 rfl) rfl (mr0 rfl) (hb hby at_109) e271 (by decide) (by decide)
  obtain ⟨t_277, cd_277, rfl, N277q, Kq277, q277_0, q277_1, q277_2, q277_3, q277_4, q277_5⟩ := hQ277
  have N277 := Fr.app N269 N277q
  have hkS := Nat.le_trans hkS Kq277.1
  have C278 := C273.trans (CHr.keep Kq277 (allS sf274 all0) C273.1)
  have sf279 := Safe.keep Kq277 (allS sf274 all0) C273.1 sf274
  have K280 : Keep h0 T277.heap [] := K272.trans Kq277 (allS (P := fun x => x ∈ [] ∨ h0.size ≤ x) (Or.inr sz_b271) all0)
  have lt_b248_t_277 : b248 < t_277 := Nat.lt_of_lt_of_le f275.lt q277_0
  have lt_b271_t_277 : b271 < t_277 := Nat.lt_of_lt_of_le A271.lt q277_0
  have sz_t_277 : h0.size ≤ t_277 := Nat.le_trans K272.1 q277_0
  have ge_t_277 : n0 ≤ t_277 := Nat.le_trans Z0 sz_t_277
  have ne_t_277_b271 := q277_1
  refine go (S' := T277.setTop (mkF m 112 #[si p1, si 1, sr b248, .unset, .unset] [(.ref b271)])) st277 ?_
  obtain ⟨kb281, N2281, vs281, qE281, qV281, qC281, qA281, qcd281, -⟩ := id q277_2
  obtain ⟨qc281, qN281, qv281, -⟩ : cd_277 = 0 ∧ N2281 = Int32.ofNat ([108, 105, 103, 104, 116] : List Int32).length ∧ vs281 = (([108, 105, 103, 104, 116] : List Int32).map fun c => Value.int (StrChars.lo8 c)) ∧ ∀ c ∈ ([108, 105, 103, 104, 116] : List Int32), ¬ (255 : Int32) < c := by rcases qcd281 with q | ⟨-, -, -, z, hz, hz2⟩; exact q; exact absurd hz2 ((by decide : ∀ c ∈ ([108, 105, 103, 104, 116] : List Int32), ¬ (255 : Int32) < c) z hz)
  rw [qc281] at qC281; rw [qN281, qv281] at qA281
  have qB281 : Arv Z T277.heap t_277 kb281 .byte (5 : Int32) [(.int 108), (.int 105), (.int 103), (.int 104), (.int 116)] (.int 0) := qA281
  refine go (S' := T277.setTop (mkF m 114 #[si p1, si 1, sr b248, sr b271, .unset] [(.ref b271)])) (fun t k => XS.astoreN X277.here hx rfl (hb hby at_112) rfl rfl (l' := #[si p1, si 1, sr b248, sr b271, .unset]) rfl (XS.aloadN X277.here hx rfl (hb hby at_113) rfl rfl k)) ?_
  have O282 : Old Z n0 T277.heap := O0.keep K280 all0
  obtain ⟨v283, T283, L283, X283, hQ283, hS, hZ, hown, Cq283, st283⟩ := callStW X277 hx hZ (y := y_12) hown (ww hw 31 rfl) (ww hw 32 rfl) (ww hw 33 rfl) (ww hw 34 rfl) (by decide) (backW (W := 0) (rmOfLight l Z a0 hw [] b271 t_277 kb281 G1 T277.heap n0 (Nat.le_trans Z0 K280.1) qE281 qV281 qC281 q277_3 q277_4 qB281 q277_5 ge_b271 ne_t_277_b271 hp0 hG1 O282) hZ (ww hw 34 rfl) (ww hw 33 rfl) (by decide) (by decide) (own_EW hw) C278.1 (allS ⟨sf279, qE281.lt⟩ all0)) (g := (mkF m 114 #[si p1, si 1, sr b248, sr b271, .unset] [(.ref b271)])) rfl (by rw [hml]; rfl) (kc := 3) (ks := 24) (argsL := [(.ref b271)]) (rest := []) (lenOf pd_12 rfl) rfl (mr0 rfl) (hb hby at_114) rfl (by decide) (by decide) hS hkS
  obtain ⟨r_283, rfl, N283q, Kq283, q283_0⟩ := hQ283
  have N283 := Fr.app N277 N283q
  have hkS := Nat.le_refl T283.heap.size
  have C284 := C278.trans Cq283
  have sf285 := CHr.safe Cq283 qE281.lt sf279
  have K286 : Keep h0 T283.heap [] := K280.trans Kq283 (allS (P := fun x => x ∈ [] ∨ h0.size ≤ x) (Or.inr sz_b271) all0)
  refine go (S' := T283.setTop (mkF m 120 #[si p1, si 1, sr b248, sr b271, sr r_283] [(.int 1)])) (fun t k => st283 _ (XS.astore X283.here hx rfl (hb hby at_117) rfl rfl (l' := #[si p1, si 1, sr b248, sr b271, sr r_283]) rfl (XS.iloadN X283.here hx rfl (hb hby at_119) rfl k))) ?_
  have hc287 : ¬ ((1 : Int32) = (0 : Int32)) := by decide
  refine go (S' := T283.setTop (mkF m 131 #[si p1, si 1, sr b248, sr b271, sr r_283] [(.int 1), (.int 1)])) (fun t k => XS.ifYes X283.here hx rfl (pc0 := 120) (pc' := 129) rfl (hb hby at_120) rfl ((if0 _ _).trans (feq hc287).2) (by decide) (by decide) (XS.iloadN X283.here hx rfl (hb hby at_129) rfl (XS.iconst X283.here hx rfl (hb hby at_130) k))) ?_
  have hc288 : (1 : Int32) = (1 : Int32) := by decide
  refine go (S' := T283.setTop (mkF m 136 #[si p1, si 1, sr b248, sr b271, sr r_283] [(.ref r_283)])) (fun t k => XS.icmpNo X283.here hx rfl (hb hby at_131) rfl (teq hc288).2 (XS.aload X283.here hx rfl (hb hby at_134) rfl rfl k)) ?_
  obtain ⟨T289, X289, e289, st289⟩ := instY X283 hx hZ hown (ww hw 101 rfl) rfl (Ins.self q283_0) (g := (mkF m 136 #[si p1, si 1, sr b248, sr b271, sr r_283] [(.ref r_283)])) rfl rfl (hb hby at_136)
  refine go (S' := T289.setTop (mkF m 139 #[si p1, si 1, sr b248, sr b271, sr r_283] [(.int 1)])) st289 ?_
  refine finNW X289 hx hk (t := .boolean) hret (by simp) hS hkS hZ (own_EW hw) C284 e289 (hb hby at_139) (by decide) (by decide) ?_
  exact ⟨rfl, N283, K286⟩
 ·
  rw [hf]
  refine go (S' := T0.setTop (mkF m 8 #[si p1, si 2, .unset, .unset, .unset] [(.int 2)])) (fun t k => XS.iloadN X0.here hx rfl (hb hby at_7) rfl k) ?_
  have hc290 : ¬ ((2 : Int32) = (0 : Int32)) := by decide
  refine go (S' := T0.setTop (mkF m 40 #[si p1, si 2, .unset, .unset, .unset] [(.int 1), (.int 2)])) (fun t k => XS.ifYes X0.here hx rfl (pc0 := 8) (pc' := 38) rfl (hb hby at_8) rfl ((if0 _ _).trans (feq hc290).2) (by decide) (by decide) (XS.iloadN X0.here hx rfl (hb hby at_38) rfl (XS.iconst X0.here hx rfl (hb hby at_39) k))) ?_
  have hc291 : ¬ ((2 : Int32) = (1 : Int32)) := by decide
  refine go (S' := T0.setTop (mkF m 76 #[si p1, si 2, .unset, .unset, .unset] [(.int 5)])) (fun t k => XS.icmpYes X0.here hx rfl (pc0 := 40) (pc' := 75) rfl (hb hby at_40) rfl (feq hc291).2 (by decide) (by decide) (XS.iconst X0.here hx rfl (hb hby at_75) k)) ?_
  obtain ⟨T292, h292, k292, X292, e292, E292, A292, st292⟩ := newP X0 hx hZ (ww hw 1 rfl) e0 (g := (mkF m 76 #[si p1, si 2, .unset, .unset, .unset] [(.int 5)])) rfl (hb hby at_76) rfl (by decide) (cap := 5) (by decide) (by decide) (by decide) (by decide)
  obtain ⟨b292, g292⟩ : ∃ z, z = h0.size := ⟨_, rfl⟩
  rw [← g292] at A292 st292
  have ge_b292 : n0 ≤ b292 := by rw [g292]; exact (Nat.le_trans Z0 K0.1)
  have sz_b292 : h0.size ≤ b292 := by rw [g292]; exact K0.1
  have K293 : Keep h0 h292 [] := K0.ext E292
  have hkS := Nat.le_trans hkS E292.1
  have C294 := C0.trans (CHr.ext E292 C0.1)
  have V292 : Arv Z h292 b292 k292 .char (5 : Int32) [(.int 0), (.int 0), (.int 0), (.int 0), (.int 0)] (.int 0) := (Arv.new A292 (by decide)).pad (pad_rep [] (.int 0) 5)
  refine go (S' := T292.setTop (mkF m 82 #[si p1, si 2, .unset, .unset, .unset] [(.int 110), (.int 0), (.ref b292), (.ref b292)])) (fun t k => st292 _ (XS.dup X292.here hx rfl (hb hby at_78) rfl rfl (XS.iconst X292.here hx rfl (hb hby at_79) (XS.bipush X292.here hx rfl (hb hby at_80) k)))) ?_
  obtain ⟨T295, h295, X295, e295, W295, V295, st295⟩ := putC X292 hx hZ e292 V292 (j := (0 : Int32)) (x := (110 : Int32)) (by decide) ⟨by decide, by decide⟩ (i := 0) rfl (Nat.le_of_ble_eq_true rfl) (g := (mkF m 82 #[si p1, si 2, .unset, .unset, .unset] [(.int 110), (.int 0), (.ref b292), (.ref b292)])) rfl rfl (hb hby at_82)
  have K296 : Keep h0 h295 [] := K293.wr W295 (Or.inr sz_b292)
  have N297 := Fr.snoc X295 N0 ge_b292
  have hkS := Nat.le_trans hkS (Keep.of_wr W295).1
  have C298 := C294.trans (CHr.wr W295 (safeArv hZ.alike V292 (by decide)) C294.1)
  refine go (S' := T295.setTop (mkF m 87 #[si p1, si 2, .unset, .unset, .unset] [(.int 105), (.int 1), (.ref b292), (.ref b292)])) (fun t k => st295 _ (XS.dup X295.here hx rfl (hb hby at_83) rfl rfl (XS.iconst X295.here hx rfl (hb hby at_84) (XS.bipush X295.here hx rfl (hb hby at_85) k)))) ?_
  obtain ⟨T299, h299, X299, e299, W299, V299, st299⟩ := putC X295 hx hZ e295 V295 (j := (1 : Int32)) (x := (105 : Int32)) (by decide) ⟨by decide, by decide⟩ (i := 1) rfl (Nat.le_of_ble_eq_true rfl) (g := (mkF m 87 #[si p1, si 2, .unset, .unset, .unset] [(.int 105), (.int 1), (.ref b292), (.ref b292)])) rfl rfl (hb hby at_87)
  have K300 : Keep h0 h299 [] := K296.wr W299 (Or.inr sz_b292)
  have N301 := Fr.snoc X299 N297 ge_b292
  have hkS := Nat.le_trans hkS (Keep.of_wr W299).1
  have C302 := C298.trans (CHr.wr W299 (safeArv hZ.alike V295 (by decide)) C298.1)
  refine go (S' := T299.setTop (mkF m 92 #[si p1, si 2, .unset, .unset, .unset] [(.int 103), (.int 2), (.ref b292), (.ref b292)])) (fun t k => st299 _ (XS.dup X299.here hx rfl (hb hby at_88) rfl rfl (XS.iconst X299.here hx rfl (hb hby at_89) (XS.bipush X299.here hx rfl (hb hby at_90) k)))) ?_
  obtain ⟨T303, h303, X303, e303, W303, V303, st303⟩ := putC X299 hx hZ e299 V299 (j := (2 : Int32)) (x := (103 : Int32)) (by decide) ⟨by decide, by decide⟩ (i := 2) rfl (Nat.le_of_ble_eq_true rfl) (g := (mkF m 92 #[si p1, si 2, .unset, .unset, .unset] [(.int 103), (.int 2), (.ref b292), (.ref b292)])) rfl rfl (hb hby at_92)
  have K304 : Keep h0 h303 [] := K300.wr W303 (Or.inr sz_b292)
  have N305 := Fr.snoc X303 N301 ge_b292
  have hkS := Nat.le_trans hkS (Keep.of_wr W303).1
  have C306 := C302.trans (CHr.wr W303 (safeArv hZ.alike V299 (by decide)) C302.1)
  refine go (S' := T303.setTop (mkF m 97 #[si p1, si 2, .unset, .unset, .unset] [(.int 104), (.int 3), (.ref b292), (.ref b292)])) (fun t k => st303 _ (XS.dup X303.here hx rfl (hb hby at_93) rfl rfl (XS.iconst X303.here hx rfl (hb hby at_94) (XS.bipush X303.here hx rfl (hb hby at_95) k)))) ?_
  obtain ⟨T307, h307, X307, e307, W307, V307, st307⟩ := putC X303 hx hZ e303 V303 (j := (3 : Int32)) (x := (104 : Int32)) (by decide) ⟨by decide, by decide⟩ (i := 3) rfl (Nat.le_of_ble_eq_true rfl) (g := (mkF m 97 #[si p1, si 2, .unset, .unset, .unset] [(.int 104), (.int 3), (.ref b292), (.ref b292)])) rfl rfl (hb hby at_97)
  have K308 : Keep h0 h307 [] := K304.wr W307 (Or.inr sz_b292)
  have N309 := Fr.snoc X307 N305 ge_b292
  have hkS := Nat.le_trans hkS (Keep.of_wr W307).1
  have C310 := C306.trans (CHr.wr W307 (safeArv hZ.alike V303 (by decide)) C306.1)
  refine go (S' := T307.setTop (mkF m 102 #[si p1, si 2, .unset, .unset, .unset] [(.int 116), (.int 4), (.ref b292), (.ref b292)])) (fun t k => st307 _ (XS.dup X307.here hx rfl (hb hby at_98) rfl rfl (XS.iconst X307.here hx rfl (hb hby at_99) (XS.bipush X307.here hx rfl (hb hby at_100) k)))) ?_
  obtain ⟨T311, h311, X311, e311, W311, V311, st311⟩ := putC X307 hx hZ e307 V307 (j := (4 : Int32)) (x := (116 : Int32)) (by decide) ⟨by decide, by decide⟩ (i := 4) rfl (Nat.le_of_ble_eq_true rfl) (g := (mkF m 102 #[si p1, si 2, .unset, .unset, .unset] [(.int 116), (.int 4), (.ref b292), (.ref b292)])) rfl rfl (hb hby at_102)
  have K312 : Keep h0 h311 [] := K308.wr W311 (Or.inr sz_b292)
  have N313 := Fr.snoc X311 N309 ge_b292
  have hkS := Nat.le_trans hkS (Keep.of_wr W311).1
  have C314 := C310.trans (CHr.wr W311 (safeArv hZ.alike V307 (by decide)) C310.1)
  refine go (S' := T311.setTop (mkF m 104 #[si p1, si 2, sr b292, .unset, .unset] [])) (fun t k => st311 _ (XS.astoreN X311.here hx rfl (hb hby at_103) rfl rfl (l' := #[si p1, si 2, sr b292, .unset, .unset]) rfl k)) ?_
  obtain ⟨T315, h315, X315, e315, E315, A315, D315, -, st315⟩ := newO X311 hx hZ hown (ww hw 2 rfl) (ww hw 3 rfl) (ww hw 4 rfl) e311 (g := (mkF m 104 #[si p1, si 2, sr b292, .unset, .unset] [])) rfl (hb hby at_104) (by decide) (by decide)
  obtain ⟨b315, g315⟩ : ∃ z, z = h311.size := ⟨_, rfl⟩
  rw [← g315] at A315 D315 st315
  have lt_b292_b315 : b292 < b315 := by rw [g315]; exact V311.lt
  have ge_b315 : n0 ≤ b315 := by rw [g315]; exact (Nat.le_trans Z0 K312.1)
  have sz_b315 : h0.size ≤ b315 := by rw [g315]; exact K312.1
  have K316 : Keep h0 h315 [] := K312.ext E315
  have hkS := Nat.le_trans hkS E315.1
  have C317 := C314.trans (CHr.ext E315 C314.1)
  have sf318 := Safe.ext E315 C314.1 (Safe.new (Nat.le_of_eq g315.symm))
  refine go (S' := T315.setTop (mkF m 109 #[si p1, si 2, sr b292, .unset, .unset] [(.ref b292), (.ref b315), (.ref b315)])) (fun t k => st315 _ (XS.dup X315.here hx rfl (hb hby at_107) rfl rfl (XS.aloadN X315.here hx rfl (hb hby at_108) rfl rfl k))) ?_
  have f319 : Arv Z h315 b292 k292 .char (5 : Int32) [(.int 110), (.int 105), (.int 103), (.int 104), (.int 116)] (.int 0) := (V311.ext E315)
  have O320 : Old Z n0 h315 := O0.keep K316 all0
  obtain ⟨v321, T321, L321, X321, hQ321, st321⟩ := callSp X315 hx hZ (y := y_4) rfl hown (ww hw 5 rfl) (ww hw 6 rfl) (ww hw 7 rfl) (by decide) (backOf (W := 1) (rmInit1 l Z a0 hw [] b315 b292 (5 : Int32) k292 ([110, 105, 103, 104, 116] : List Int32) (.int 0) G1 h315 n0 (Nat.le_trans Z0 K316.1) f319 rfl (by decide) (by decide) (by decide) (by decide) A315 (D315 (Or.inr (ww hw 30 rfl)) (ty := (.array .byte)) (by decide)) (D315 (Or.inr (ww hw 28 rfl)) (ty := .byte) (by decide)) ge_b315 (Nat.ne_of_gt lt_b292_b315) (D315 (Or.inl (ww hw 41 rfl)) (ty := .int) (by decide)) (D315 (Or.inl (ww hw 43 rfl)) (ty := .boolean) (by decide)) hp0 hG1 O320) hZ (ww hw 7 rfl) (ww hw 4 rfl) (by decide) (by decide)) (g := (mkF m 109 #[si p1, si 2, sr b292, .unset, .unset] [(.ref b292), (.ref b315), (.ref b315)])) rfl (by rw [hml]; rfl) (a := b315) (kc := 1) (ks := 5) (argsL := [(.ref b292)]) (rest := [(.ref b315)]) (lenOf pd_11 rfl) rfl (mr0 rfl) (hb hby at_109) e315 (by decide) (by decide)
  obtain ⟨t_321, cd_321, rfl, N321q, Kq321, q321_0, q321_1, q321_2, q321_3, q321_4, q321_5⟩ := hQ321
  have N321 := Fr.app N313 N321q
  have hkS := Nat.le_trans hkS Kq321.1
  have C322 := C317.trans (CHr.keep Kq321 (allS sf318 all0) C317.1)
  have sf323 := Safe.keep Kq321 (allS sf318 all0) C317.1 sf318
  have K324 : Keep h0 T321.heap [] := K316.trans Kq321 (allS (P := fun x => x ∈ [] ∨ h0.size ≤ x) (Or.inr sz_b315) all0)
  have lt_b292_t_321 : b292 < t_321 := Nat.lt_of_lt_of_le f319.lt q321_0
  have lt_b315_t_321 : b315 < t_321 := Nat.lt_of_lt_of_le A315.lt q321_0
  have sz_t_321 : h0.size ≤ t_321 := Nat.le_trans K316.1 q321_0
  have ge_t_321 : n0 ≤ t_321 := Nat.le_trans Z0 sz_t_321
  have ne_t_321_b315 := q321_1
  refine go (S' := T321.setTop (mkF m 112 #[si p1, si 2, sr b292, .unset, .unset] [(.ref b315)])) st321 ?_
  obtain ⟨kb325, N2325, vs325, qE325, qV325, qC325, qA325, qcd325, -⟩ := id q321_2
  obtain ⟨qc325, qN325, qv325, -⟩ : cd_321 = 0 ∧ N2325 = Int32.ofNat ([110, 105, 103, 104, 116] : List Int32).length ∧ vs325 = (([110, 105, 103, 104, 116] : List Int32).map fun c => Value.int (StrChars.lo8 c)) ∧ ∀ c ∈ ([110, 105, 103, 104, 116] : List Int32), ¬ (255 : Int32) < c := by rcases qcd325 with q | ⟨-, -, -, z, hz, hz2⟩; exact q; exact absurd hz2 ((by decide : ∀ c ∈ ([110, 105, 103, 104, 116] : List Int32), ¬ (255 : Int32) < c) z hz)
  rw [qc325] at qC325; rw [qN325, qv325] at qA325
  have qB325 : Arv Z T321.heap t_321 kb325 .byte (5 : Int32) [(.int 110), (.int 105), (.int 103), (.int 104), (.int 116)] (.int 0) := qA325
  refine go (S' := T321.setTop (mkF m 114 #[si p1, si 2, sr b292, sr b315, .unset] [(.ref b315)])) (fun t k => XS.astoreN X321.here hx rfl (hb hby at_112) rfl rfl (l' := #[si p1, si 2, sr b292, sr b315, .unset]) rfl (XS.aloadN X321.here hx rfl (hb hby at_113) rfl rfl k)) ?_
  have O326 : Old Z n0 T321.heap := O0.keep K324 all0
  obtain ⟨v327, T327, L327, X327, hQ327, hS, hZ, hown, Cq327, st327⟩ := callStW X321 hx hZ (y := y_12) hown (ww hw 31 rfl) (ww hw 32 rfl) (ww hw 33 rfl) (ww hw 34 rfl) (by decide) (backW (W := 0) (rmOfNight l Z a0 hw [] b315 t_321 kb325 G1 T321.heap n0 (Nat.le_trans Z0 K324.1) qE325 qV325 qC325 q321_3 q321_4 qB325 q321_5 ge_b315 ne_t_321_b315 hp0 hG1 O326) hZ (ww hw 34 rfl) (ww hw 33 rfl) (by decide) (by decide) (own_EW hw) C322.1 (allS ⟨sf323, qE325.lt⟩ all0)) (g := (mkF m 114 #[si p1, si 2, sr b292, sr b315, .unset] [(.ref b315)])) rfl (by rw [hml]; rfl) (kc := 3) (ks := 24) (argsL := [(.ref b315)]) (rest := []) (lenOf pd_12 rfl) rfl (mr0 rfl) (hb hby at_114) rfl (by decide) (by decide) hS hkS
  obtain ⟨r_327, rfl, N327q, Kq327, q327_0⟩ := hQ327
  have N327 := Fr.app N321 N327q
  have hkS := Nat.le_refl T327.heap.size
  have C328 := C322.trans Cq327
  have sf329 := CHr.safe Cq327 qE325.lt sf323
  have K330 : Keep h0 T327.heap [] := K324.trans Kq327 (allS (P := fun x => x ∈ [] ∨ h0.size ≤ x) (Or.inr sz_b315) all0)
  refine go (S' := T327.setTop (mkF m 120 #[si p1, si 2, sr b292, sr b315, sr r_327] [(.int 2)])) (fun t k => st327 _ (XS.astore X327.here hx rfl (hb hby at_117) rfl rfl (l' := #[si p1, si 2, sr b292, sr b315, sr r_327]) rfl (XS.iloadN X327.here hx rfl (hb hby at_119) rfl k))) ?_
  have hc331 : ¬ ((2 : Int32) = (0 : Int32)) := by decide
  refine go (S' := T327.setTop (mkF m 131 #[si p1, si 2, sr b292, sr b315, sr r_327] [(.int 1), (.int 2)])) (fun t k => XS.ifYes X327.here hx rfl (pc0 := 120) (pc' := 129) rfl (hb hby at_120) rfl ((if0 _ _).trans (feq hc331).2) (by decide) (by decide) (XS.iloadN X327.here hx rfl (hb hby at_129) rfl (XS.iconst X327.here hx rfl (hb hby at_130) k))) ?_
  have hc332 : ¬ ((2 : Int32) = (1 : Int32)) := by decide
  refine go (S' := T327.setTop (mkF m 142 #[si p1, si 2, sr b292, sr b315, sr r_327] [(.ref r_327)])) (fun t k => XS.icmpYes X327.here hx rfl (pc0 := 131) (pc' := 140) rfl (hb hby at_131) rfl (feq hc332).2 (by decide) (by decide) (XS.aload X327.here hx rfl (hb hby at_140) rfl rfl k)) ?_
  obtain ⟨T333, X333, e333, st333⟩ := instY X327 hx hZ hown (ww hw 91 rfl) rfl (Ins.self q327_0) (g := (mkF m 142 #[si p1, si 2, sr b292, sr b315, sr r_327] [(.ref r_327)])) rfl rfl (hb hby at_142)
  refine go (S' := T333.setTop (mkF m 145 #[si p1, si 2, sr b292, sr b315, sr r_327] [(.int 1)])) st333 ?_
  refine finNW X333 hx hk (t := .boolean) hret (by simp) hS hkS hZ (own_EW hw) C328 e333 (hb hby at_145) (by decide) (by decide) ?_
  exact ⟨rfl, N327, K330⟩
set_option maxRecDepth 65536 in
set_option maxHeartbeats 40000000 in
theorem comes_1 {Post : Tables → Env → Array Value → State → Outcome → State → Prop} (hpost : ∀ tb e args s v u, (limb_1_1.after args s (.returned v) u = true ∧ limb_1_2.after args s (.returned v) u = true ∧ True) → ReturnedEndW s (.returned v) u (Jvm.fieldLocs frame_1_writes args s ++ Jvm.arrayLocs frame_1_arrays args s ++ Jvm.staticLocs frame_1_statics s) 24 3200 → Post tb e args s (.returned v) u) :
    ArmFor flags0 classFile x code maxLocals ret World_1 tables_1 room_1 Calls_1 rest_1 Pre_1 Post := by
  intro l hfl _ _ p e ha hc hk s m args below hf hA hF happ hP
  obtain ⟨hcalls, hrest, hpre⟩ := hP
  obtain ⟨-, -, -, hnamed, -, -, -, hat⟩ := (Spec.applies_iff hf).mp happ
  obtain ⟨hg, hn⟩ := and_e (Cond.before_iff.mp (show (Jvm.Cond.and given_1 narrow_1).before args s = true from hpre))
  obtain ⟨hcount, hg0⟩ := and_e hg
  have ha0 := hg0
  obtain ⟨w0, rfl⟩ : ∃ w0 : Value, args = #[w0] := by
    have hs : args.size = 1 := by simpa [Cond.value, given_1] using hcount
    obtain ⟨L⟩ := args
    match L, hs with
    | [w0], _ => exact ⟨w0, rfl⟩
  have hw := fun d (hd : d ∈ tables_1) => atoms_spec (ws := Jvm.Cond.code x code maxLocals ret :: tables_1) hat d (List.mem_cons_of_mem _ hd)
  obtain ⟨hsets, hown0⟩ := atoms_of _ (rest_1_c_eq ▸ (show rest_1_c.before _ s = true from hrest))
  obtain ⟨i0, ei0⟩ := is_v ha0
  obtain rfl : w0 = (.int i0) := Option.some.inj ei0
  have hn_0 := hn
  obtain ⟨g334, eg334⟩ := is_v (Cond.before_iff.mp (hsets _ (List.mem_of_getElem? (i := 1) rfl)))
  have sg334 : Sta s s.heap "java/lang/String" "COMPACT_STRINGS" "Z" (.int g334) := Sta.start eg334 (Or.inl (hsets _ (List.mem_of_getElem? (i := 0) rfl)))
  have c335 : ¬ (g334 = (0 : Int32)) := gotF (Cond.eq_ints eg334 (Term.int_eval (0))) (not_v (Cond.before_iff.mp (hsets _ (List.mem_of_getElem? (i := 2) rfl))))
  have hCH : CHv s consts_1 s.vm s.heap := CHv.start (own_EW hw) (fun p hp => hcalls.1 p hp) (show Jvm.Lit.compactW.before _ s = true from hsets _ (List.mem_of_getElem? (i := 2) rfl)) (ww hw 20 rfl) (ww hw 3 rfl)
  obtain ⟨n, o, h1, h2, h3, _, L, rfl, ⟨rfl, N, -⟩, -, hq⟩ := rmLaw l s _ hw tables_1 i0 g334 s.heap s.heap.size (Nat.le_refl _) sg334 c335 (Old.start s) p e ha hc hk s m _ below hf ((Spec.applies_iff_loose hf).mp happ).1 ⟨rfl, State.Warmed39.refl s, rfl, hCH, all0⟩ trivial
  refine ⟨n, _, h1, h2, h3, hpost _ _ _ _ _ _ ⟨Cond.after_iff.mpr rfl, Cond.after_iff.mpr (eq_i res_at (Term.int_eval (1)) rfl), trivial⟩ ⟨hq.1, hq.2.1, hq.2.2.1, (hq.2.2.2.sift fun y hy => Or.inr (N y hy)).mono (by decide) (by decide)⟩⟩
theorem main_1_1 : Claimed_1_1 := comes_1 fun _ _ _ _ _ _ h hF => ⟨h.1, hF⟩
theorem main_1_2 : Claimed_1_2 := comes_1 fun _ _ _ _ _ _ h hF => ⟨h.2.1, hF⟩
end Jvm.Pilot.@@N@@
namespace Jvm.Pilot.@@N@@
open Jvm Jvm.ClassFile Sem Op Lib Jvm.Free Jvm.Stand Jvm.Pilot.@@N@@.Jvm.D
/-! MADE BY PROGRAM (witnessworld.py) out of the Statement's table words and the real class files: 23 classes; the members and pool entries that the words name. The judged class is class 1, her method 1. -/
namespace start1
open Jvm.ClassFile
def u (s : String) : CpInfo := .utf8 (stringToUtf16 s)
/-- a pool by its gaps: so many unusable entries, then the entry; so many at the end -/
def gap : Nat → List CpInfo → List CpInfo
  | 0, r => r
  | n + 1, r => .unusable :: gap n r
def poolList (es : List (Nat × CpInfo)) (last : Nat) : List CpInfo := es.foldr (fun e r => gap e.1 (e.2 :: r)) (gap last [])
def pool (es : List (Nat × CpInfo)) (last : Nat) : Array CpInfo := ⟨poolList es last⟩
def fileOf (pool : Array CpInfo) (this : Nat) (attrs : Array Attribute := #[]) (ms : Array MethodInfo := #[]) (fl : Nat := 33) (sup : Nat := 0) (ifs : Array Nat := #[]) (fds : Array FieldInfo := #[]) : ClassFile where
  minorVersion := 0
  majorVersion := 65
  constantPool := pool
  accessFlags := fl
  thisClass := this
  superClass := sup
  interfaces := ifs
  fields := fds
  methods := ms
  attributes := attrs
def plain (name : String) (sup : Option ClassId) : Class where
  name := name
  kind := .ordinary
  loader := none
  accessFlags := 33
  super := sup
  interfaces := #[]
  cf := none
  fields := #[]
  methods := #[]
  instanceTypes := #[]
  staticTypes := #[]
  resolved := #[]
  callSites := []
  init := .initialized
  statics := none
  mirror := none

def pool0 : Array CpInfo := pool [(5, u "<init>"), (0, u "()V"), (1, .class_ 10), (1, u "java/lang/Object")] 113

def k0c0 : Code := { maxStack := 0, maxLocals := 1, code := object_method_1_code, exceptionTable := #[], attributes := #[] }
def k0m0 : Method := { name := "<init>", desc := "()V", sig := { parameters := [], returnType := none }, accessFlags := 1, code := some k0c0 }
/-- java/lang/Object -/
def k0 : Class := { plain "java/lang/Object" none with
  accessFlags := 33
  interfaces := #[]
  cf := some (fileOf pool0 8 #[] #[{ accessFlags := 1, nameIndex := 5, descriptorIndex := 6, attributes := #[] }] 33 0 #[] #[])
  fields := #[]
  methods := #[k0m0]
  instanceTypes := #[]
  staticTypes := #[]
  resolved := Array.replicate 124 none
  statics := none }

def pool1 : Array CpInfo := pool [(2, .class_ 4), (1, u "java/lang/Object"), (0, u "<init>"), (0, u "()V"), (0, .integer 2147483647), (0, .class_ 9), (0, u "java/lang/String"), (0, .methodref 8 11), (0, .nameAndType 5 12), (0, u "([C)V"), (0, .interfaceMethodref 14 15), (0, .class_ 16), (0, .nameAndType 17 18), (0, u "castworks/bench/WidgetFactory"), (0, u "of"), (0, u "(Ljava/lang/String;)Lcastworks/bench/WidgetFactory;"), (0, .class_ 20), (0, u "castworks/bench/WidgetFactory$Dark"), (0, .class_ 22), (0, u "castworks/bench/WidgetFactory$Light"), (0, .class_ 24), (0, u "castworks/bench/WidgetFactory$Night"), (0, .class_ 26), (0, u "castworks/bench/WidgetFactoryOfPinLaw"), (2, u "law"), (0, u "(I)Z")] 9

def k1m0 : Method := { name := "<init>", desc := "()V", sig := { parameters := [], returnType := none }, accessFlags := 1, code := none }
def k1c1 : Code := { maxStack := 4, maxLocals := 5, code := code, exceptionTable := #[], attributes := #[] }
def k1m1 : Method := { name := "law", desc := "(I)Z", sig := { parameters := [.int], returnType := some .boolean }, accessFlags := 9, code := some k1c1 }
/-- castworks/bench/WidgetFactoryOfPinLaw -/
def k1 : Class := { plain "castworks/bench/WidgetFactoryOfPinLaw" (some 0) with
  accessFlags := 49
  interfaces := #[]
  cf := some (fileOf pool1 25 #[] #[{ accessFlags := 1, nameIndex := 5, descriptorIndex := 6, attributes := #[] }, { accessFlags := 9, nameIndex := 29, descriptorIndex := 30, attributes := #[] }] 49 2 #[] #[])
  fields := #[]
  methods := #[k1m0, k1m1]
  instanceTypes := #[]
  staticTypes := #[]
  resolved := Array.replicate 40 none
  statics := none }

def pool2 : Array CpInfo := pool [(1, .class_ 2), (0, u "java/io/Serializable"), (0, .class_ 4), (0, u "java/lang/Object")] 2

/-- java/io/Serializable -/
def k2 : Class := { plain "java/io/Serializable" (some 0) with
  accessFlags := 1537
  interfaces := #[]
  cf := some (fileOf pool2 1 #[] #[] 1537 3 #[] #[])
  fields := #[]
  methods := #[]
  instanceTypes := #[]
  staticTypes := #[]
  resolved := Array.replicate 7 none
  statics := none }

def pool3 : Array CpInfo := pool [(1, .class_ 2), (0, u "java/lang/Comparable"), (0, .class_ 4), (0, u "java/lang/Object")] 7

/-- java/lang/Comparable -/
def k3 : Class := { plain "java/lang/Comparable" (some 0) with
  accessFlags := 1537
  interfaces := #[]
  cf := some (fileOf pool3 1 #[] #[] 1537 3 #[] #[])
  fields := #[]
  methods := #[]
  instanceTypes := #[]
  staticTypes := #[]
  resolved := Array.replicate 12 none
  statics := none }

def pool4 : Array CpInfo := pool [(2, .class_ 4), (1, u "java/lang/CharSequence"), (42, .class_ 48), (0, u "java/lang/CharSequence$1CodePointIterator"), (10, .class_ 60), (0, u "java/lang/CharSequence$1CharIterator"), (5, .class_ 67), (0, u "java/lang/Object")] 63

/-- java/lang/CharSequence -/
def k4 : Class := { plain "java/lang/CharSequence" (some 0) with
  accessFlags := 1537
  interfaces := #[]
  cf := some (fileOf pool4 2 #[.nestMembers #[47, 59]] #[] 1537 66 #[] #[])
  fields := #[]
  methods := #[]
  instanceTypes := #[]
  staticTypes := #[]
  resolved := Array.replicate 131 none
  statics := none }

def pool5 : Array CpInfo := pool [(1, .class_ 2), (0, u "java/lang/constant/Constable"), (0, .class_ 4), (0, u "java/lang/Object")] 6

/-- java/lang/constant/Constable -/
def k5 : Class := { plain "java/lang/constant/Constable" (some 0) with
  accessFlags := 1537
  interfaces := #[]
  cf := some (fileOf pool5 1 #[] #[] 1537 3 #[] #[])
  fields := #[]
  methods := #[]
  instanceTypes := #[]
  staticTypes := #[]
  resolved := Array.replicate 11 none
  statics := none }

def pool6 : Array CpInfo := pool [(1, .class_ 2), (0, u "java/lang/constant/ConstantDesc"), (0, .class_ 4), (0, u "java/lang/Object")] 32

/-- java/lang/constant/ConstantDesc -/
def k6 : Class := { plain "java/lang/constant/ConstantDesc" (some 0) with
  accessFlags := 1537
  interfaces := #[]
  cf := some (fileOf pool6 1 #[] #[] 1537 3 #[] #[])
  fields := #[]
  methods := #[]
  instanceTypes := #[]
  staticTypes := #[]
  resolved := Array.replicate 37 none
  statics := none }

def pool7 : Array CpInfo := pool [(1, .methodref 2 3), (0, .class_ 4), (0, .nameAndType 5 6), (0, u "java/lang/Object"), (0, u "<init>"), (0, u "()V"), (2, .fieldref 10 11), (0, .class_ 12), (0, .nameAndType 13 14), (0, u "java/lang/String"), (0, u "value"), (0, u "[B"), (0, .fieldref 10 16), (0, .nameAndType 17 18), (0, u "coder"), (0, u "B"), (0, .fieldref 10 20), (0, .nameAndType 21 22), (0, u "hash"), (0, u "I"), (0, .fieldref 10 24), (0, .nameAndType 25 26), (0, u "hashIsZero"), (0, u "Z"), (0, .methodref 10 28), (0, .nameAndType 5 29), (0, u "([CIILjava/lang/Void;)V"), (8, .fieldref 10 39), (0, .nameAndType 40 26), (0, u "COMPACT_STRINGS"), (1, .class_ 44), (1, u "java/lang/StringUTF16"), (0, u "compress"), (1, .methodref 42 48), (0, .nameAndType 49 50), (0, u "coderFromArrayLen"), (0, u "([BI)B"), (56, .class_ 109), (1, u "java/lang/StringLatin1"), (32, u "()Z"), (34, .methodref 42 178), (0, .nameAndType 45 179), (0, u "([CII)[B"), (154, u "()I"), (157, .methodref 10 493), (0, .nameAndType 494 142), (0, u "isLatin1"), (46, .methodref 107 542), (0, .nameAndType 543 544), (0, u "equals"), (0, u "([B[B)Z"), (28, u "(Ljava/lang/Object;)Z"), (1, .class_ 576), (0, u "java/lang/CharSequence"), (22, u "CASE_INSENSITIVE_ORDER"), (0, u "Ljava/util/Comparator;"), (27, .methodref 107 629), (0, .nameAndType 630 631), (0, u "hashCode"), (0, u "([B)I"), (378, u "([C)V"), (90, u "serialPersistentFields"), (0, u "[Ljava/io/ObjectStreamField;"), (0, .class_ 1104), (0, u "java/lang/String$CaseInsensitiveComparator"), (1, .class_ 1107), (0, u "java/io/Serializable"), (0, .class_ 1109), (0, u "java/lang/Comparable"), (0, .class_ 1111), (0, u "java/lang/constant/Constable"), (0, .class_ 1113), (0, u "java/lang/constant/ConstantDesc"), (2, u "serialVersionUID"), (0, u "J"), (3, u "REPL"), (0, u "C"), (2, u "LATIN1"), (1, u "UTF16")] 323

def k7m0 : Method := { name := "<init>", desc := "()V", sig := { parameters := [], returnType := none }, accessFlags := 1, code := none }
def k7c1 : Code := { maxStack := 5, maxLocals := 2, code := jdk_42_method_3_code, exceptionTable := #[], attributes := #[] }
def k7m1 : Method := { name := "<init>", desc := "([C)V", sig := { parameters := [(.array .char)], returnType := none }, accessFlags := 1, code := some k7c1 }
def k7c2 : Code := { maxStack := 2, maxLocals := 3, code := jdk_42_method_66_code, exceptionTable := #[], attributes := #[] }
def k7m2 : Method := { name := "equals", desc := "(Ljava/lang/Object;)Z", sig := { parameters := [(.object "java/lang/Object")], returnType := some .boolean }, accessFlags := 1, code := some k7c2 }
def k7c3 : Code := { maxStack := 2, maxLocals := 2, code := jdk_42_method_78_code, exceptionTable := #[], attributes := #[] }
def k7m3 : Method := { name := "hashCode", desc := "()I", sig := { parameters := [], returnType := some .int }, accessFlags := 1, code := some k7c3 }
def k7c4 : Code := { maxStack := 4, maxLocals := 6, code := jdk_42_method_149_code, exceptionTable := #[], attributes := #[] }
def k7m4 : Method := { name := "<init>", desc := "([CIILjava/lang/Void;)V", sig := { parameters := [(.array .char), .int, .int, (.object "java/lang/Void")], returnType := none }, accessFlags := 2, code := some k7c4 }
def k7c5 : Code := { maxStack := 1, maxLocals := 1, code := jdk_42_method_154_code, exceptionTable := #[], attributes := #[] }
def k7m5 : Method := { name := "isLatin1", desc := "()Z", sig := { parameters := [], returnType := some .boolean }, accessFlags := 0, code := some k7c5 }
/-- java/lang/String -/
def k7 : Class := { plain "java/lang/String" (some 0) with
  accessFlags := 49
  interfaces := #[2, 3, 4, 5, 6]
  cf := some (fileOf pool7 10 #[.nestMembers #[1103]] #[{ accessFlags := 1, nameIndex := 5, descriptorIndex := 6, attributes := #[] }, { accessFlags := 1, nameIndex := 5, descriptorIndex := 1010, attributes := #[] }, { accessFlags := 1, nameIndex := 543, descriptorIndex := 573, attributes := #[] }, { accessFlags := 1, nameIndex := 630, descriptorIndex := 334, attributes := #[] }, { accessFlags := 2, nameIndex := 5, descriptorIndex := 29, attributes := #[] }, { accessFlags := 0, nameIndex := 494, descriptorIndex := 142, attributes := #[] }] 49 2 #[1106, 1108, 575, 1110, 1112] #[{ accessFlags := 18, nameIndex := 13, descriptorIndex := 14, attributes := #[] }, { accessFlags := 18, nameIndex := 17, descriptorIndex := 18, attributes := #[] }, { accessFlags := 2, nameIndex := 21, descriptorIndex := 22, attributes := #[] }, { accessFlags := 2, nameIndex := 25, descriptorIndex := 26, attributes := #[] }, { accessFlags := 26, nameIndex := 1116, descriptorIndex := 1117, attributes := #[] }, { accessFlags := 24, nameIndex := 40, descriptorIndex := 26, attributes := #[] }, { accessFlags := 26, nameIndex := 1101, descriptorIndex := 1102, attributes := #[] }, { accessFlags := 26, nameIndex := 1121, descriptorIndex := 1122, attributes := #[] }, { accessFlags := 25, nameIndex := 599, descriptorIndex := 600, attributes := #[] }, { accessFlags := 24, nameIndex := 1125, descriptorIndex := 18, attributes := #[] }, { accessFlags := 24, nameIndex := 1127, descriptorIndex := 18, attributes := #[] }])
  fields := #[{ name := "value", type := (.array .byte), accessFlags := 18, slot := 0, constantValue := 0 }, { name := "coder", type := .byte, accessFlags := 18, slot := 1, constantValue := 0 }, { name := "hash", type := .int, accessFlags := 2, slot := 2, constantValue := 0 }, { name := "hashIsZero", type := .boolean, accessFlags := 2, slot := 3, constantValue := 0 }, { name := "serialVersionUID", type := .long, accessFlags := 26, slot := 0, constantValue := 0 }, { name := "COMPACT_STRINGS", type := .boolean, accessFlags := 24, slot := 1, constantValue := 0 }, { name := "serialPersistentFields", type := (.array (.object "java/io/ObjectStreamField")), accessFlags := 26, slot := 2, constantValue := 0 }, { name := "REPL", type := .char, accessFlags := 26, slot := 3, constantValue := 0 }, { name := "CASE_INSENSITIVE_ORDER", type := (.object "java/util/Comparator"), accessFlags := 25, slot := 4, constantValue := 0 }, { name := "LATIN1", type := .byte, accessFlags := 24, slot := 5, constantValue := 0 }, { name := "UTF16", type := .byte, accessFlags := 24, slot := 6, constantValue := 0 }]
  methods := #[k7m0, k7m1, k7m2, k7m3, k7m4, k7m5]
  instanceTypes := #[(.array .byte), .byte, .int, .boolean]
  staticTypes := #[.long, .boolean, (.array (.object "java/io/ObjectStreamField")), .char, (.object "java/util/Comparator"), .byte, .byte]
  resolved := Array.replicate 1451 none
  statics := some 0 }

def pool8 : Array CpInfo := pool [(6, .class_ 8), (1, u "java/lang/Object"), (0, u "<init>"), (0, u "()V"), (1, .class_ 14), (1, u "java/lang/StringUTF16"), (31, u "$assertionsDisabled"), (0, u "Z"), (13, u "HI_BYTE_SHIFT"), (0, u "I"), (2, u "LO_BYTE_SHIFT"), (49, .methodref 12 116), (0, .nameAndType 117 118), (0, u "compress"), (0, u "([CI[BII)I"), (3, u "([CII)[B"), (138, u "coderFromArrayLen"), (0, u "([BI)B"), (106, .class_ 371), (1, u "java/lang/StringUTF16$LinesSpliterator"), (58, u "MAX_LENGTH"), (196, .class_ 628), (0, u "java/lang/StringUTF16$CodePointsSpliterator"), (0, .class_ 630), (0, u "java/lang/StringUTF16$CharsSpliterator")] 4

def k8m0 : Method := { name := "<init>", desc := "()V", sig := { parameters := [], returnType := none }, accessFlags := 0, code := none }
def k8c1 : Code := { maxStack := 2, maxLocals := 2, code := jdk_52_method_15_code, exceptionTable := #[], attributes := #[] }
def k8m1 : Method := { name := "coderFromArrayLen", desc := "([BI)B", sig := { parameters := [(.array .byte), .int], returnType := some .byte }, accessFlags := 8, code := some k8c1 }
def k8c2 : Code := { maxStack := 5, maxLocals := 6, code := jdk_52_method_16_code, exceptionTable := #[], attributes := #[] }
def k8m2 : Method := { name := "compress", desc := "([CII)[B", sig := { parameters := [(.array .char), .int, .int], returnType := some (.array .byte) }, accessFlags := 9, code := some k8c2 }
def k8c3 : Code := { maxStack := 3, maxLocals := 7, code := jdk_52_method_21_code, exceptionTable := #[], attributes := #[] }
def k8m3 : Method := { name := "compress", desc := "([CI[BII)I", sig := { parameters := [(.array .char), .int, (.array .byte), .int, .int], returnType := some .int }, accessFlags := 9, code := some k8c3 }
/-- java/lang/StringUTF16 -/
def k8 : Class := { plain "java/lang/StringUTF16" (some 0) with
  accessFlags := 48
  interfaces := #[]
  cf := some (fileOf pool8 12 #[.nestMembers #[627, 629, 369]] #[{ accessFlags := 0, nameIndex := 9, descriptorIndex := 10, attributes := #[] }, { accessFlags := 8, nameIndex := 261, descriptorIndex := 262, attributes := #[] }, { accessFlags := 9, nameIndex := 117, descriptorIndex := 122, attributes := #[] }, { accessFlags := 9, nameIndex := 117, descriptorIndex := 118, attributes := #[] }] 48 6 #[] #[{ accessFlags := 26, nameIndex := 61, descriptorIndex := 62, attributes := #[] }, { accessFlags := 26, nameIndex := 65, descriptorIndex := 62, attributes := #[] }, { accessFlags := 24, nameIndex := 430, descriptorIndex := 62, attributes := #[] }, { accessFlags := 4120, nameIndex := 46, descriptorIndex := 47, attributes := #[] }])
  fields := #[{ name := "HI_BYTE_SHIFT", type := .int, accessFlags := 26, slot := 0, constantValue := 0 }, { name := "LO_BYTE_SHIFT", type := .int, accessFlags := 26, slot := 1, constantValue := 0 }, { name := "MAX_LENGTH", type := .int, accessFlags := 24, slot := 2, constantValue := 0 }, { name := "$assertionsDisabled", type := .boolean, accessFlags := 4120, slot := 3, constantValue := 0 }]
  methods := #[k8m0, k8m1, k8m2, k8m3]
  instanceTypes := #[]
  staticTypes := #[.int, .int, .int, .boolean]
  resolved := Array.replicate 635 none
  statics := none }

def pool9 : Array CpInfo := pool [(1, .methodref 2 3), (0, .class_ 4), (0, .nameAndType 5 6), (0, u "java/lang/String"), (0, u "hashCode"), (0, u "()I"), (0, .string 8), (0, u "dark"), (0, .methodref 2 10), (0, .nameAndType 11 12), (0, u "equals"), (0, u "(Ljava/lang/Object;)Z"), (0, .string 14), (0, u "light"), (0, .string 16), (0, u "night"), (0, .class_ 18), (0, u "castworks/bench/WidgetFactory$Dark"), (0, .methodref 17 20), (0, .nameAndType 21 22), (0, u "<init>"), (0, u "()V"), (0, .class_ 24), (0, u "castworks/bench/WidgetFactory$Light"), (0, .methodref 23 20), (0, .class_ 27), (0, u "castworks/bench/WidgetFactory$Night"), (0, .methodref 26 20), (9, .class_ 39), (0, u "castworks/bench/WidgetFactory"), (0, .class_ 41), (0, u "java/lang/Object"), (6, u "of"), (0, u "(Ljava/lang/String;)Lcastworks/bench/WidgetFactory;")] 35

def k9c0 : Code := { maxStack := 3, maxLocals := 3, code := prog_42_method_4_code, exceptionTable := #[], attributes := #[] }
def k9m0 : Method := { name := "of", desc := "(Ljava/lang/String;)Lcastworks/bench/WidgetFactory;", sig := { parameters := [(.object "java/lang/String")], returnType := some (.object "castworks/bench/WidgetFactory") }, accessFlags := 9, code := some k9c0 }
/-- castworks/bench/WidgetFactory -/
def k9 : Class := { plain "castworks/bench/WidgetFactory" (some 0) with
  accessFlags := 1536
  interfaces := #[]
  cf := some (fileOf pool9 38 #[.nestMembers #[26, 23, 17]] #[{ accessFlags := 9, nameIndex := 48, descriptorIndex := 49, attributes := #[] }] 1536 40 #[] #[])
  fields := #[]
  methods := #[k9m0]
  instanceTypes := #[]
  staticTypes := #[]
  resolved := Array.replicate 85 none
  statics := none }

def pool10 : Array CpInfo := pool [(4, .class_ 6), (1, u "java/lang/Object"), (0, u "<init>"), (0, u "()V"), (5, .class_ 16), (1, u "java/lang/StringLatin1"), (28, .class_ 47), (1, u "jdk/internal/util/ArraysSupport"), (9, u "([B)I"), (26, .methodref 45 85), (0, .nameAndType 86 87), (0, u "vectorizedHashCode"), (0, u "(Ljava/lang/Object;IIII)I"), (33, u "$assertionsDisabled"), (0, u "Z"), (98, .class_ 223), (1, u "java/lang/StringLatin1$LinesSpliterator"), (57, u "equals"), (0, u "([B[B)Z"), (15, u "hashCode"), (91, .class_ 391), (0, u "java/lang/StringLatin1$CharsSpliterator")] 3

def k10m0 : Method := { name := "<init>", desc := "()V", sig := { parameters := [], returnType := none }, accessFlags := 0, code := none }
def k10c1 : Code := { maxStack := 3, maxLocals := 3, code := jdk_43_method_13_code, exceptionTable := #[], attributes := #[] }
def k10m1 : Method := { name := "equals", desc := "([B[B)Z", sig := { parameters := [(.array .byte), (.array .byte)], returnType := some .boolean }, accessFlags := 9, code := some k10c1 }
def k10c2 : Code := { maxStack := 5, maxLocals := 1, code := jdk_43_method_21_code, exceptionTable := #[], attributes := #[] }
def k10m2 : Method := { name := "hashCode", desc := "([B)I", sig := { parameters := [(.array .byte)], returnType := some .int }, accessFlags := 9, code := some k10c2 }
/-- java/lang/StringLatin1 -/
def k10 : Class := { plain "java/lang/StringLatin1" (some 0) with
  accessFlags := 48
  interfaces := #[]
  cf := some (fileOf pool10 14 #[.nestMembers #[390, 221]] #[{ accessFlags := 0, nameIndex := 7, descriptorIndex := 8, attributes := #[] }, { accessFlags := 9, nameIndex := 281, descriptorIndex := 282, attributes := #[] }, { accessFlags := 9, nameIndex := 298, descriptorIndex := 57, attributes := #[] }] 48 4 #[] #[{ accessFlags := 4120, nameIndex := 121, descriptorIndex := 122, attributes := #[] }])
  fields := #[{ name := "$assertionsDisabled", type := .boolean, accessFlags := 4120, slot := 0, constantValue := 0 }]
  methods := #[k10m0, k10m1, k10m2]
  instanceTypes := #[]
  staticTypes := #[.boolean]
  resolved := Array.replicate 395 none
  statics := none }

def pool11 : Array CpInfo := pool [(9, u "<init>"), (6, .class_ 18), (1, u "java/lang/Object"), (0, u "()V"), (1, .class_ 23), (1, u "jdk/internal/util/ArraysSupport"), (0, u "LOG2_ARRAY_LONG_INDEX_SCALE"), (0, u "I"), (2, u "U"), (0, u "Ljdk/internal/misc/Unsafe;"), (8, u "BIG_ENDIAN"), (0, u "Z"), (8, u "LOG2_BYTE_BIT_SIZE"), (4, u "LOG2_ARRAY_INT_INDEX_SCALE"), (6, .class_ 61), (0, u "[B"), (0, .methodref 21 63), (0, .nameAndType 64 65), (0, u "signedHashCode"), (0, u "(I[BII)I"), (42, u "JLA"), (0, u "Ljdk/internal/access/JavaLangAccess;"), (11, u "LOG2_ARRAY_BOOLEAN_INDEX_SCALE"), (9, u "LOG2_ARRAY_BYTE_INDEX_SCALE"), (5, u "LOG2_ARRAY_CHAR_INDEX_SCALE"), (5, u "LOG2_ARRAY_SHORT_INDEX_SCALE"), (18, u "LOG2_ARRAY_FLOAT_INDEX_SCALE"), (24, u "LOG2_ARRAY_DOUBLE_INDEX_SCALE"), (89, u "T_BOOLEAN"), (2, u "T_CHAR"), (1, u "T_FLOAT"), (1, u "T_DOUBLE"), (1, u "T_BYTE"), (1, u "T_SHORT"), (1, u "T_INT"), (1, u "T_LONG"), (1, u "SOFT_MAX_ARRAY_LENGTH"), (26, u "vectorizedHashCode"), (0, u "(Ljava/lang/Object;IIII)I")] 55

def k11m0 : Method := { name := "<init>", desc := "()V", sig := { parameters := [], returnType := none }, accessFlags := 2, code := none }
def k11c1 : Code := { maxStack := 4, maxLocals := 5, code := jdk_48_method_4_code, exceptionTable := #[], attributes := #[] }
def k11m1 : Method := { name := "vectorizedHashCode", desc := "(Ljava/lang/Object;IIII)I", sig := { parameters := [(.object "java/lang/Object"), .int, .int, .int, .int], returnType := some .int }, accessFlags := 9, code := some k11c1 }
def k11c2 : Code := { maxStack := 3, maxLocals := 6, code := jdk_48_method_5_code, exceptionTable := #[], attributes := #[] }
def k11m2 : Method := { name := "signedHashCode", desc := "(I[BII)I", sig := { parameters := [.int, (.array .byte), .int, .int], returnType := some .int }, accessFlags := 10, code := some k11c2 }
/-- jdk/internal/util/ArraysSupport -/
def k11 : Class := { plain "jdk/internal/util/ArraysSupport" (some 0) with
  accessFlags := 33
  interfaces := #[]
  cf := some (fileOf pool11 21 #[] #[{ accessFlags := 2, nameIndex := 9, descriptorIndex := 19, attributes := #[] }, { accessFlags := 9, nameIndex := 321, descriptorIndex := 322, attributes := #[] }, { accessFlags := 10, nameIndex := 64, descriptorIndex := 65, attributes := #[] }] 33 16 #[] #[{ accessFlags := 24, nameIndex := 28, descriptorIndex := 29, attributes := #[] }, { accessFlags := 26, nameIndex := 38, descriptorIndex := 39, attributes := #[] }, { accessFlags := 25, nameIndex := 121, descriptorIndex := 25, attributes := #[] }, { accessFlags := 25, nameIndex := 131, descriptorIndex := 25, attributes := #[] }, { accessFlags := 25, nameIndex := 137, descriptorIndex := 25, attributes := #[] }, { accessFlags := 25, nameIndex := 143, descriptorIndex := 25, attributes := #[] }, { accessFlags := 25, nameIndex := 53, descriptorIndex := 25, attributes := #[] }, { accessFlags := 25, nameIndex := 24, descriptorIndex := 25, attributes := #[] }, { accessFlags := 25, nameIndex := 162, descriptorIndex := 25, attributes := #[] }, { accessFlags := 25, nameIndex := 187, descriptorIndex := 25, attributes := #[] }, { accessFlags := 26, nameIndex := 48, descriptorIndex := 25, attributes := #[] }, { accessFlags := 25, nameIndex := 277, descriptorIndex := 25, attributes := #[] }, { accessFlags := 25, nameIndex := 280, descriptorIndex := 25, attributes := #[] }, { accessFlags := 25, nameIndex := 282, descriptorIndex := 25, attributes := #[] }, { accessFlags := 25, nameIndex := 284, descriptorIndex := 25, attributes := #[] }, { accessFlags := 25, nameIndex := 286, descriptorIndex := 25, attributes := #[] }, { accessFlags := 25, nameIndex := 288, descriptorIndex := 25, attributes := #[] }, { accessFlags := 25, nameIndex := 290, descriptorIndex := 25, attributes := #[] }, { accessFlags := 25, nameIndex := 292, descriptorIndex := 25, attributes := #[] }, { accessFlags := 26, nameIndex := 108, descriptorIndex := 109, attributes := #[] }, { accessFlags := 25, nameIndex := 294, descriptorIndex := 25, attributes := #[] }])
  fields := #[{ name := "U", type := (.object "jdk/internal/misc/Unsafe"), accessFlags := 24, slot := 0, constantValue := 0 }, { name := "BIG_ENDIAN", type := .boolean, accessFlags := 26, slot := 1, constantValue := 0 }, { name := "LOG2_ARRAY_BOOLEAN_INDEX_SCALE", type := .int, accessFlags := 25, slot := 2, constantValue := 0 }, { name := "LOG2_ARRAY_BYTE_INDEX_SCALE", type := .int, accessFlags := 25, slot := 3, constantValue := 0 }, { name := "LOG2_ARRAY_CHAR_INDEX_SCALE", type := .int, accessFlags := 25, slot := 4, constantValue := 0 }, { name := "LOG2_ARRAY_SHORT_INDEX_SCALE", type := .int, accessFlags := 25, slot := 5, constantValue := 0 }, { name := "LOG2_ARRAY_INT_INDEX_SCALE", type := .int, accessFlags := 25, slot := 6, constantValue := 0 }, { name := "LOG2_ARRAY_LONG_INDEX_SCALE", type := .int, accessFlags := 25, slot := 7, constantValue := 0 }, { name := "LOG2_ARRAY_FLOAT_INDEX_SCALE", type := .int, accessFlags := 25, slot := 8, constantValue := 0 }, { name := "LOG2_ARRAY_DOUBLE_INDEX_SCALE", type := .int, accessFlags := 25, slot := 9, constantValue := 0 }, { name := "LOG2_BYTE_BIT_SIZE", type := .int, accessFlags := 26, slot := 10, constantValue := 0 }, { name := "T_BOOLEAN", type := .int, accessFlags := 25, slot := 11, constantValue := 0 }, { name := "T_CHAR", type := .int, accessFlags := 25, slot := 12, constantValue := 0 }, { name := "T_FLOAT", type := .int, accessFlags := 25, slot := 13, constantValue := 0 }, { name := "T_DOUBLE", type := .int, accessFlags := 25, slot := 14, constantValue := 0 }, { name := "T_BYTE", type := .int, accessFlags := 25, slot := 15, constantValue := 0 }, { name := "T_SHORT", type := .int, accessFlags := 25, slot := 16, constantValue := 0 }, { name := "T_INT", type := .int, accessFlags := 25, slot := 17, constantValue := 0 }, { name := "T_LONG", type := .int, accessFlags := 25, slot := 18, constantValue := 0 }, { name := "JLA", type := (.object "jdk/internal/access/JavaLangAccess"), accessFlags := 26, slot := 19, constantValue := 0 }, { name := "SOFT_MAX_ARRAY_LENGTH", type := .int, accessFlags := 25, slot := 20, constantValue := 0 }]
  methods := #[k11m0, k11m1, k11m2]
  instanceTypes := #[]
  staticTypes := #[(.object "jdk/internal/misc/Unsafe"), .boolean, .int, .int, .int, .int, .int, .int, .int, .int, .int, .int, .int, .int, .int, .int, .int, .int, .int, (.object "jdk/internal/access/JavaLangAccess"), .int]
  resolved := Array.replicate 378 none
  statics := none }

def pool12 : Array CpInfo := pool [(1, .methodref 2 3), (0, .class_ 4), (0, .nameAndType 5 6), (0, u "java/lang/Object"), (0, u "<init>"), (0, u "()V"), (9, .class_ 17), (0, u "castworks/bench/WidgetFactory$Dark"), (0, .class_ 19), (0, u "castworks/bench/WidgetFactory")] 27

def k12c0 : Code := { maxStack := 1, maxLocals := 1, code := prog_43_method_1_code, exceptionTable := #[], attributes := #[] }
def k12m0 : Method := { name := "<init>", desc := "()V", sig := { parameters := [], returnType := none }, accessFlags := 1, code := some k12c0 }
/-- castworks/bench/WidgetFactory$Dark -/
def k12 : Class := { plain "castworks/bench/WidgetFactory$Dark" (some 0) with
  accessFlags := 49
  interfaces := #[9]
  cf := some (fileOf pool12 16 #[.nestHost 18] #[{ accessFlags := 1, nameIndex := 5, descriptorIndex := 6, attributes := #[] }] 49 2 #[18] #[])
  fields := #[]
  methods := #[k12m0]
  instanceTypes := #[]
  staticTypes := #[]
  resolved := Array.replicate 47 none
  statics := none }

def pool13 : Array CpInfo := pool [(1, .methodref 2 3), (0, .class_ 4), (0, .nameAndType 5 6), (0, u "java/lang/Object"), (0, u "<init>"), (0, u "()V"), (9, .class_ 17), (0, u "castworks/bench/WidgetFactory$Night"), (0, .class_ 19), (0, u "castworks/bench/WidgetFactory")] 27

def k13c0 : Code := { maxStack := 1, maxLocals := 1, code := prog_45_method_1_code, exceptionTable := #[], attributes := #[] }
def k13m0 : Method := { name := "<init>", desc := "()V", sig := { parameters := [], returnType := none }, accessFlags := 1, code := some k13c0 }
/-- castworks/bench/WidgetFactory$Night -/
def k13 : Class := { plain "castworks/bench/WidgetFactory$Night" (some 0) with
  accessFlags := 49
  interfaces := #[9]
  cf := some (fileOf pool13 16 #[.nestHost 18] #[{ accessFlags := 1, nameIndex := 5, descriptorIndex := 6, attributes := #[] }] 49 2 #[18] #[])
  fields := #[]
  methods := #[k13m0]
  instanceTypes := #[]
  staticTypes := #[]
  resolved := Array.replicate 47 none
  statics := none }

def pool14 : Array CpInfo := pool [(1, .methodref 2 3), (0, .class_ 4), (0, .nameAndType 5 6), (0, u "java/lang/Object"), (0, u "<init>"), (0, u "()V"), (9, .class_ 17), (0, u "castworks/bench/WidgetFactory$Light"), (0, .class_ 19), (0, u "castworks/bench/WidgetFactory")] 27

def k14c0 : Code := { maxStack := 1, maxLocals := 1, code := prog_44_method_1_code, exceptionTable := #[], attributes := #[] }
def k14m0 : Method := { name := "<init>", desc := "()V", sig := { parameters := [], returnType := none }, accessFlags := 1, code := some k14c0 }
/-- castworks/bench/WidgetFactory$Light -/
def k14 : Class := { plain "castworks/bench/WidgetFactory$Light" (some 0) with
  accessFlags := 49
  interfaces := #[9]
  cf := some (fileOf pool14 16 #[.nestHost 18] #[{ accessFlags := 1, nameIndex := 5, descriptorIndex := 6, attributes := #[] }] 49 2 #[18] #[])
  fields := #[]
  methods := #[k14m0]
  instanceTypes := #[]
  staticTypes := #[]
  resolved := Array.replicate 47 none
  statics := none }

def pool15 : Array CpInfo := pool [(2, .class_ 4), (1, u "java/lang/Object"), (0, u "<init>"), (0, u "()V"), (17, .class_ 26), (1, u "jdk/internal/util/Preconditions"), (28, .class_ 56), (0, u "jdk/internal/util/Preconditions$4"), (57, .class_ 115), (0, u "jdk/internal/util/Preconditions$1"), (7, u "SIOOBE_FORMATTER"), (0, u "Ljava/util/function/BiFunction;"), (0, .class_ 126), (0, u "jdk/internal/util/Preconditions$2"), (3, u "AIOOBE_FORMATTER"), (0, .class_ 132), (0, u "jdk/internal/util/Preconditions$3"), (3, u "IOOBE_FORMATTER")] 57

def k15m0 : Method := { name := "<init>", desc := "()V", sig := { parameters := [], returnType := none }, accessFlags := 1, code := none }
/-- jdk/internal/util/Preconditions -/
def k15 : Class := { plain "jdk/internal/util/Preconditions" (some 0) with
  accessFlags := 33
  interfaces := #[]
  cf := some (fileOf pool15 24 #[.nestMembers #[55, 131, 125, 114]] #[{ accessFlags := 1, nameIndex := 5, descriptorIndex := 6, attributes := #[] }] 33 2 #[] #[{ accessFlags := 25, nameIndex := 123, descriptorIndex := 124, attributes := #[] }, { accessFlags := 25, nameIndex := 130, descriptorIndex := 124, attributes := #[] }, { accessFlags := 25, nameIndex := 136, descriptorIndex := 124, attributes := #[] }])
  fields := #[{ name := "SIOOBE_FORMATTER", type := (.object "java/util/function/BiFunction"), accessFlags := 25, slot := 0, constantValue := 0 }, { name := "AIOOBE_FORMATTER", type := (.object "java/util/function/BiFunction"), accessFlags := 25, slot := 1, constantValue := 0 }, { name := "IOOBE_FORMATTER", type := (.object "java/util/function/BiFunction"), accessFlags := 25, slot := 2, constantValue := 0 }]
  methods := #[k15m0]
  instanceTypes := #[]
  staticTypes := #[(.object "java/util/function/BiFunction"), (.object "java/util/function/BiFunction"), (.object "java/util/function/BiFunction")]
  resolved := Array.replicate 194 none
  statics := some 1 }

def pool16 : Array CpInfo := pool [(1, u "java/lang/Cloneable"), (0, .class_ 1), (0, u "java/lang/Object"), (0, .class_ 3)] 3

/-- java/lang/Cloneable -/
def k16 : Class := { plain "java/lang/Cloneable" (some 0) with
  accessFlags := 1537
  interfaces := #[]
  cf := some (fileOf pool16 2 #[] #[] 1537 4 #[] #[])
  fields := #[]
  methods := #[]
  instanceTypes := #[]
  staticTypes := #[]
  resolved := Array.replicate 8 none
  statics := none }

/-- the primitive byte -/
def k17 : Class := { plain "byte" none with kind := .primitive 'B', accessFlags := 0x411 }
/-- [B -/
def k18 : Class := { plain "[B" (some 0) with kind := .array 17 .byte, interfaces := #[16, 2], accessFlags := 1041 }

/-- the primitive char -/
def k19 : Class := { plain "char" none with kind := .primitive 'C', accessFlags := 0x411 }
/-- [C -/
def k20 : Class := { plain "[C" (some 0) with kind := .array 19 .char, interfaces := #[16, 2], accessFlags := 1041 }

/-- the primitive int -/
def k21 : Class := { plain "int" none with kind := .primitive 'I', accessFlags := 0x411 }
/-- [I -/
def k22 : Class := { plain "[I" (some 0) with kind := .array 21 .int, interfaces := #[16, 2], accessFlags := 1041 }

def heap : Heap := #[{ cls := 7, slots := #[.long 0, .int 1, .null, .int 0, .null, .int 0, .int 0], vm := .statics 7 },
  { cls := 15, slots := #[.null, .null, .null], vm := .statics 15 }]
def classes : Array Class := #[k0, k1, k2, k3, k4, k5, k6, k7, k8, k9, k10, k11, k12, k13, k14, k15, k16, k17, k18, k19, k20, k21, k22]
def interned : List (Array UInt16 × Addr) := []
def slotsUsed : Nat := 10
def theMethod : MethodId := ⟨1, 1⟩
def args0 : Array Value := #[.int 5]
def aboutOver (below : List Frame) : State where
  vm := { classes := classes, interned := interned.toArray }
  heap := heap
  slotsUsed := slotsUsed
  threads := #[{ frames := .invoking theMethod args0 :: below }]
def below0 : List Frame := [.native { method := ⟨0, 0⟩, args := #[] }]
def about1 : State := aboutOver below0
def p0 : Program := .bare "" "" ""
def e0 : Env := launch0.env 0 0 0
theorem w_frames : about1.frames = Frame.invoking theMethod args0 :: below0 := rfl
set_option maxRecDepth 65536 in
theorem w_args : argsFit about1.vm theMethod args0 = true := by decide +kernel
set_option maxRecDepth 65536 in
theorem w_heap : heapFits about1 = true := by decide +kernel
set_option maxRecDepth 65536 in
theorem w_runnable : about1.curStatus? = some .runnable := by decide +kernel
set_option maxRecDepth 65536 in
theorem w_alone : about1.alone = true := by decide +kernel
set_option maxRecDepth 65536 in
theorem w_named : about1.methodNamed? x = some theMethod := by decide +kernel
set_option maxRecDepth 65536 in
theorem w_hears : about1.hears theMethod below0 = true := by decide +kernel
set_option maxRecDepth 65536 in
theorem w_ripe : about1.ripe theMethod args0 below0 = true := by decide +kernel
theorem w_running : about1.status = .running := rfl
set_option maxRecDepth 65536 in
theorem w_room : about1.hasRoom e0.platform room_1 = true :=
  launch0.hasRoom_least _ room_1 (by decide +kernel) (by decide +kernel) (by decide +kernel) (by decide +kernel) (by decide +kernel) (by decide +kernel)
theorem allAtoms_all (ts : List Jvm.Cond) (a : Array Jvm.Value) (st : Jvm.State) : (allAtoms ts).before a st = ts.all (fun c => c.before a st) := by
  induction ts with
  | nil => rfl
  | cons c t ih =>
    show (Jvm.Cond.and c (allAtoms t)).before a st = _
    rw [Jvm.Cond.before_and, ih, List.all_cons]
def words1 : List Jvm.Cond := Jvm.Cond.code x code maxLocals ret :: tables_1
/-- a 'code' word, met by the world's own term for the bytes: nothing is compared byte by byte -/
theorem code_word {y : MethodName} {bytes : ByteArray} {mx : Nat} {rt : Option FieldType} {a : Array Value} {s : State} {m : MethodId} {meth : Method} {c : Code} (h1 : s.methodNamed? y = some m) (h2 : s.vm.method? m = some meth) (h3 : meth.code = some c) (h4 : c.code = bytes)
    (h5 : (c.maxLocals == mx && c.exceptionTable.isEmpty && decide (c.maxStack ≤ mostOperands) && decide (meth.sig.returnType = rt) && !meth.locks && decide (parseMethodDescriptor y.desc = some meth.sig)) = true) : (Jvm.Cond.code y bytes mx rt).before a s = true := by
  simp only [Bool.and_eq_true, beq_iff_eq, Bool.not_eq_true', decide_eq_true_eq] at h5
  obtain ⟨⟨⟨⟨⟨g1, g2⟩, g3⟩, g4⟩, g5⟩, g6⟩ := h5
  simp [Cond.before, Cond.holds, Cond.value, h1, h2, h3, h4, g1, g2, g3, g4, g5, g6]
def isCode : Jvm.Cond → Bool
  | .code _ _ _ _ => true
  | _ => false
theorem all_split {L : List Jvm.Cond} {P : Jvm.Cond → Bool} (h1 : L.all (fun c => isCode c || P c) = true) (h2 : ∀ c ∈ L.filter isCode, P c = true) : L.all P = true := by
  refine List.all_eq_true.mpr fun c hc => ?_
  have h := List.all_eq_true.mp h1 c hc
  rcases Bool.eq_false_or_eq_true (isCode c) with hi | hi
  · exact h2 c (List.mem_filter.mpr ⟨hc, hi⟩)
  · simpa [hi] using h
set_option maxRecDepth 65536 in
theorem w_c0 : (Jvm.Cond.code x code maxLocals ret).before args0 about1 = true := code_word (m := ⟨1, 1⟩) (meth := k1m1) (c := k1c1) (by decide +kernel) rfl rfl rfl (by decide +kernel)
set_option maxRecDepth 65536 in
theorem w_c1 : (Jvm.Cond.code ({ cls := "java/lang/String", name := "<init>", desc := "([C)V" } : Jvm.MethodName) jdk_42_method_3_code (2 : Nat) (Option.none : Option Jvm.ClassFile.FieldType)).before args0 about1 = true := code_word (m := ⟨7, 1⟩) (meth := k7m1) (c := k7c1) (by decide +kernel) rfl rfl rfl (by decide +kernel)
set_option maxRecDepth 65536 in
theorem w_c2 : (Jvm.Cond.code ({ cls := "java/lang/String", name := "<init>", desc := "([CIILjava/lang/Void;)V" } : Jvm.MethodName) jdk_42_method_149_code (6 : Nat) (Option.none : Option Jvm.ClassFile.FieldType)).before args0 about1 = true := code_word (m := ⟨7, 4⟩) (meth := k7m4) (c := k7c4) (by decide +kernel) rfl rfl rfl (by decide +kernel)
set_option maxRecDepth 65536 in
theorem w_c3 : (Jvm.Cond.code ({ cls := "java/lang/Object", name := "<init>", desc := "()V" } : Jvm.MethodName) object_method_1_code (1 : Nat) (Option.none : Option Jvm.ClassFile.FieldType)).before args0 about1 = true := code_word (m := ⟨0, 0⟩) (meth := k0m0) (c := k0c0) (by decide +kernel) rfl rfl rfl (by decide +kernel)
set_option maxRecDepth 65536 in
theorem w_c4 : (Jvm.Cond.code ({ cls := "java/lang/StringUTF16", name := "compress", desc := "([CII)[B" } : Jvm.MethodName) jdk_52_method_16_code (6 : Nat) (Option.some (Jvm.ClassFile.FieldType.array Jvm.ClassFile.FieldType.byte))).before args0 about1 = true := code_word (m := ⟨8, 2⟩) (meth := k8m2) (c := k8c2) (by decide +kernel) rfl rfl rfl (by decide +kernel)
set_option maxRecDepth 65536 in
theorem w_c5 : (Jvm.Cond.code ({ cls := "java/lang/StringUTF16", name := "compress", desc := "([CI[BII)I" } : Jvm.MethodName) jdk_52_method_21_code (7 : Nat) (Option.some Jvm.ClassFile.FieldType.int)).before args0 about1 = true := code_word (m := ⟨8, 3⟩) (meth := k8m3) (c := k8c3) (by decide +kernel) rfl rfl rfl (by decide +kernel)
set_option maxRecDepth 65536 in
theorem w_c6 : (Jvm.Cond.code ({ cls := "java/lang/StringUTF16", name := "coderFromArrayLen", desc := "([BI)B" } : Jvm.MethodName) jdk_52_method_15_code (2 : Nat) (Option.some Jvm.ClassFile.FieldType.byte)).before args0 about1 = true := code_word (m := ⟨8, 1⟩) (meth := k8m1) (c := k8c1) (by decide +kernel) rfl rfl rfl (by decide +kernel)
set_option maxRecDepth 65536 in
theorem w_c7 : (Jvm.Cond.code ({ cls := "castworks/bench/WidgetFactory", name := "of", desc := "(Ljava/lang/String;)Lcastworks/bench/WidgetFactory;" } : Jvm.MethodName) prog_42_method_4_code (3 : Nat) (Option.some (Jvm.ClassFile.FieldType.object "castworks/bench/WidgetFactory"))).before args0 about1 = true := code_word (m := ⟨9, 0⟩) (meth := k9m0) (c := k9c0) (by decide +kernel) rfl rfl rfl (by decide +kernel)
set_option maxRecDepth 65536 in
theorem w_c8 : (Jvm.Cond.code ({ cls := "java/lang/String", name := "hashCode", desc := "()I" } : Jvm.MethodName) jdk_42_method_78_code (2 : Nat) (Option.some Jvm.ClassFile.FieldType.int)).before args0 about1 = true := code_word (m := ⟨7, 3⟩) (meth := k7m3) (c := k7c3) (by decide +kernel) rfl rfl rfl (by decide +kernel)
set_option maxRecDepth 65536 in
theorem w_c9 : (Jvm.Cond.code ({ cls := "java/lang/String", name := "isLatin1", desc := "()Z" } : Jvm.MethodName) jdk_42_method_154_code (1 : Nat) (Option.some Jvm.ClassFile.FieldType.boolean)).before args0 about1 = true := code_word (m := ⟨7, 5⟩) (meth := k7m5) (c := k7c5) (by decide +kernel) rfl rfl rfl (by decide +kernel)
set_option maxRecDepth 65536 in
theorem w_c10 : (Jvm.Cond.code ({ cls := "java/lang/StringLatin1", name := "hashCode", desc := "([B)I" } : Jvm.MethodName) jdk_43_method_21_code (1 : Nat) (Option.some Jvm.ClassFile.FieldType.int)).before args0 about1 = true := code_word (m := ⟨10, 2⟩) (meth := k10m2) (c := k10c2) (by decide +kernel) rfl rfl rfl (by decide +kernel)
set_option maxRecDepth 65536 in
theorem w_c11 : (Jvm.Cond.code ({ cls := "jdk/internal/util/ArraysSupport", name := "vectorizedHashCode", desc := "(Ljava/lang/Object;IIII)I" } : Jvm.MethodName) jdk_48_method_4_code (5 : Nat) (Option.some Jvm.ClassFile.FieldType.int)).before args0 about1 = true := code_word (m := ⟨11, 1⟩) (meth := k11m1) (c := k11c1) (by decide +kernel) rfl rfl rfl (by decide +kernel)
set_option maxRecDepth 65536 in
theorem w_c12 : (Jvm.Cond.code ({ cls := "jdk/internal/util/ArraysSupport", name := "signedHashCode", desc := "(I[BII)I" } : Jvm.MethodName) jdk_48_method_5_code (6 : Nat) (Option.some Jvm.ClassFile.FieldType.int)).before args0 about1 = true := code_word (m := ⟨11, 2⟩) (meth := k11m2) (c := k11c2) (by decide +kernel) rfl rfl rfl (by decide +kernel)
set_option maxRecDepth 65536 in
theorem w_c13 : (Jvm.Cond.code ({ cls := "java/lang/String", name := "equals", desc := "(Ljava/lang/Object;)Z" } : Jvm.MethodName) jdk_42_method_66_code (3 : Nat) (Option.some Jvm.ClassFile.FieldType.boolean)).before args0 about1 = true := code_word (m := ⟨7, 2⟩) (meth := k7m2) (c := k7c2) (by decide +kernel) rfl rfl rfl (by decide +kernel)
set_option maxRecDepth 65536 in
theorem w_c14 : (Jvm.Cond.code ({ cls := "java/lang/StringLatin1", name := "equals", desc := "([B[B)Z" } : Jvm.MethodName) jdk_43_method_13_code (3 : Nat) (Option.some Jvm.ClassFile.FieldType.boolean)).before args0 about1 = true := code_word (m := ⟨10, 1⟩) (meth := k10m1) (c := k10c1) (by decide +kernel) rfl rfl rfl (by decide +kernel)
set_option maxRecDepth 65536 in
theorem w_c15 : (Jvm.Cond.code ({ cls := "castworks/bench/WidgetFactory$Dark", name := "<init>", desc := "()V" } : Jvm.MethodName) prog_43_method_1_code (1 : Nat) (Option.none : Option Jvm.ClassFile.FieldType)).before args0 about1 = true := code_word (m := ⟨12, 0⟩) (meth := k12m0) (c := k12c0) (by decide +kernel) rfl rfl rfl (by decide +kernel)
set_option maxRecDepth 65536 in
theorem w_c16 : (Jvm.Cond.code ({ cls := "castworks/bench/WidgetFactory$Night", name := "<init>", desc := "()V" } : Jvm.MethodName) prog_45_method_1_code (1 : Nat) (Option.none : Option Jvm.ClassFile.FieldType)).before args0 about1 = true := code_word (m := ⟨13, 0⟩) (meth := k13m0) (c := k13c0) (by decide +kernel) rfl rfl rfl (by decide +kernel)
set_option maxRecDepth 65536 in
theorem w_c17 : (Jvm.Cond.code ({ cls := "castworks/bench/WidgetFactory$Light", name := "<init>", desc := "()V" } : Jvm.MethodName) prog_44_method_1_code (1 : Nat) (Option.none : Option Jvm.ClassFile.FieldType)).before args0 about1 = true := code_word (m := ⟨14, 0⟩) (meth := k14m0) (c := k14c0) (by decide +kernel) rfl rfl rfl (by decide +kernel)
def codes1 : List Jvm.Cond := [Jvm.Cond.code x code maxLocals ret, Jvm.Cond.code ({ cls := "java/lang/String", name := "<init>", desc := "([C)V" } : Jvm.MethodName) jdk_42_method_3_code (2 : Nat) (Option.none : Option Jvm.ClassFile.FieldType), Jvm.Cond.code ({ cls := "java/lang/String", name := "<init>", desc := "([CIILjava/lang/Void;)V" } : Jvm.MethodName) jdk_42_method_149_code (6 : Nat) (Option.none : Option Jvm.ClassFile.FieldType), Jvm.Cond.code ({ cls := "java/lang/Object", name := "<init>", desc := "()V" } : Jvm.MethodName) object_method_1_code (1 : Nat) (Option.none : Option Jvm.ClassFile.FieldType), Jvm.Cond.code ({ cls := "java/lang/StringUTF16", name := "compress", desc := "([CII)[B" } : Jvm.MethodName) jdk_52_method_16_code (6 : Nat) (Option.some (Jvm.ClassFile.FieldType.array Jvm.ClassFile.FieldType.byte)), Jvm.Cond.code ({ cls := "java/lang/StringUTF16", name := "compress", desc := "([CI[BII)I" } : Jvm.MethodName) jdk_52_method_21_code (7 : Nat) (Option.some Jvm.ClassFile.FieldType.int), Jvm.Cond.code ({ cls := "java/lang/StringUTF16", name := "coderFromArrayLen", desc := "([BI)B" } : Jvm.MethodName) jdk_52_method_15_code (2 : Nat) (Option.some Jvm.ClassFile.FieldType.byte), Jvm.Cond.code ({ cls := "castworks/bench/WidgetFactory", name := "of", desc := "(Ljava/lang/String;)Lcastworks/bench/WidgetFactory;" } : Jvm.MethodName) prog_42_method_4_code (3 : Nat) (Option.some (Jvm.ClassFile.FieldType.object "castworks/bench/WidgetFactory")), Jvm.Cond.code ({ cls := "java/lang/String", name := "hashCode", desc := "()I" } : Jvm.MethodName) jdk_42_method_78_code (2 : Nat) (Option.some Jvm.ClassFile.FieldType.int), Jvm.Cond.code ({ cls := "java/lang/String", name := "isLatin1", desc := "()Z" } : Jvm.MethodName) jdk_42_method_154_code (1 : Nat) (Option.some Jvm.ClassFile.FieldType.boolean), Jvm.Cond.code ({ cls := "java/lang/StringLatin1", name := "hashCode", desc := "([B)I" } : Jvm.MethodName) jdk_43_method_21_code (1 : Nat) (Option.some Jvm.ClassFile.FieldType.int), Jvm.Cond.code ({ cls := "jdk/internal/util/ArraysSupport", name := "vectorizedHashCode", desc := "(Ljava/lang/Object;IIII)I" } : Jvm.MethodName) jdk_48_method_4_code (5 : Nat) (Option.some Jvm.ClassFile.FieldType.int), Jvm.Cond.code ({ cls := "jdk/internal/util/ArraysSupport", name := "signedHashCode", desc := "(I[BII)I" } : Jvm.MethodName) jdk_48_method_5_code (6 : Nat) (Option.some Jvm.ClassFile.FieldType.int), Jvm.Cond.code ({ cls := "java/lang/String", name := "equals", desc := "(Ljava/lang/Object;)Z" } : Jvm.MethodName) jdk_42_method_66_code (3 : Nat) (Option.some Jvm.ClassFile.FieldType.boolean), Jvm.Cond.code ({ cls := "java/lang/StringLatin1", name := "equals", desc := "([B[B)Z" } : Jvm.MethodName) jdk_43_method_13_code (3 : Nat) (Option.some Jvm.ClassFile.FieldType.boolean), Jvm.Cond.code ({ cls := "castworks/bench/WidgetFactory$Dark", name := "<init>", desc := "()V" } : Jvm.MethodName) prog_43_method_1_code (1 : Nat) (Option.none : Option Jvm.ClassFile.FieldType), Jvm.Cond.code ({ cls := "castworks/bench/WidgetFactory$Night", name := "<init>", desc := "()V" } : Jvm.MethodName) prog_45_method_1_code (1 : Nat) (Option.none : Option Jvm.ClassFile.FieldType), Jvm.Cond.code ({ cls := "castworks/bench/WidgetFactory$Light", name := "<init>", desc := "()V" } : Jvm.MethodName) prog_44_method_1_code (1 : Nat) (Option.none : Option Jvm.ClassFile.FieldType)]
set_option maxRecDepth 65536 in
theorem codes_eq : words1.filter isCode = codes1 := rfl
theorem w_codes : ∀ c ∈ words1.filter isCode, c.before args0 about1 = true := by
  rw [codes_eq]
  intro c hc
  simp only [codes1, List.mem_cons, List.not_mem_nil, or_false] at hc
  rcases hc with rfl | rfl | rfl | rfl | rfl | rfl | rfl | rfl | rfl | rfl | rfl | rfl | rfl | rfl | rfl | rfl | rfl | rfl
  · exact w_c0
  · exact w_c1
  · exact w_c2
  · exact w_c3
  · exact w_c4
  · exact w_c5
  · exact w_c6
  · exact w_c7
  · exact w_c8
  · exact w_c9
  · exact w_c10
  · exact w_c11
  · exact w_c12
  · exact w_c13
  · exact w_c14
  · exact w_c15
  · exact w_c16
  · exact w_c17
set_option maxRecDepth 65536 in
theorem w_t1 : (words1.take 24).all (fun c => isCode c || c.before args0 about1) = true := by decide +kernel
set_option maxRecDepth 65536 in
theorem w_t2 : ((words1.drop 24).take 24).all (fun c => isCode c || c.before args0 about1) = true := by decide +kernel
set_option maxRecDepth 65536 in
theorem w_t3 : (((words1.drop 24).drop 24).take 24).all (fun c => isCode c || c.before args0 about1) = true := by decide +kernel
set_option maxRecDepth 65536 in
theorem w_t4 : ((((words1.drop 24).drop 24).drop 24).take 24).all (fun c => isCode c || c.before args0 about1) = true := by decide +kernel
set_option maxRecDepth 65536 in
theorem w_t5 : ((((words1.drop 24).drop 24).drop 24).drop 24).all (fun c => isCode c || c.before args0 about1) = true := by decide +kernel
theorem w_tables : (allAtoms (Jvm.Cond.code x code maxLocals ret :: tables_1)).before args0 about1 = true := by
  rw [allAtoms_all]
  show words1.all (fun c => c.before args0 about1) = true
  refine all_split ?_ w_codes
  rw [← List.take_append_drop 24 words1, List.all_append, w_t1, ← List.take_append_drop 24 (words1.drop 24), List.all_append, w_t2, ← List.take_append_drop 24 ((words1.drop 24).drop 24), List.all_append, w_t3, ← List.take_append_drop 24 (((words1.drop 24).drop 24).drop 24), List.all_append, w_t4, w_t5]
  rfl
set_option maxRecDepth 65536 in
theorem w_rest : rest_1_c.before args0 about1 = true := by decide +kernel
set_option maxRecDepth 65536 in
theorem w_case : (Jvm.Cond.and given_1 narrow_1).before args0 about1 = true := by decide +kernel
set_option maxRecDepth 65536 in
theorem w_consts : constsHeld consts_1 about1 := Jvm.Lit.constsHeldB_iff.mp (by decide +kernel)
theorem w_applies : (headSpec (Jvm.Cond.code x code maxLocals ret :: tables_1) room_1).applies x e0.platform about1 = true :=
  (Spec.applies_iff w_frames).mpr ⟨w_running, w_runnable, w_alone, w_named, w_hears, w_ripe, w_room, w_tables⟩
theorem atStart : AtStart classFile x code maxLocals ret World_1 tables_1 room_1 Calls_1 rest_1 Pre_1 launch0 p0 e0 about1 theMethod args0 below0 :=
  ⟨lists_1, trivial, launch0.admits_env _ _ _, launch0.least_env, fairChoices_fair.cas, fairChoices_fair.clock, w_frames, w_args, w_heap, w_applies, ⟨w_consts, trivial⟩, w_rest, w_case⟩
end start1
theorem witness_1 : WitnessClaimed_1 := ⟨start1.p0, start1.e0, start1.about1, start1.theMethod, start1.args0, start1.below0, start1.atStart⟩
end Jvm.Pilot.@@N@@
