import JvmDerived
import JvmDerived.Pilot.@@N@@Statement
import JvmDerived.Pilot.@@N@@Code
set_option linter.unusedVariables false
set_option linter.unusedSimpArgs false
namespace Jvm.RoadKit
open Sem ClassFile Op Lib Jvm.Stand Jvm.Free Jvm.LawKit
section New
variable {p : Program} {l : Launch} {e : Env} {R : Room} {s : State} {m : MethodId} {args : Array Value} {below : List Frame} {meth : Method} {c : Code} {T : State} {locs : List Loc} {cells slots : Nat}
theorem retI (X : Stand p l e R s m args below meth c T locs cells slots) (hx : p.tables.exec = Jvm.exec) {pc : Nat} {Ls : Array Slot} {z : Int32} {rest : List Value} (hret : meth.sig.returnType = some .int) (hd : decode c.code pc = .ok (.ireturn, 1)) {fs : List Frame}
    (hl : ∀ (f : JFrame) (acts : List Action), f.method = m → f.locked = none → f.entered = [] → (doReturn e (T.setTop f) acts (some (.int z))).1 = T.setFrames fs) : Steps p.tables e below (T.setTop (mkF m pc Ls (.int z :: rest))) (T.setFrames fs) := by
  have hm' : T.vm.method? m = some meth := X.method'
  have hn : narrow .int (.int z) = .int z := rfl
  show Steps p.tables e below (T.setTop { method := m, pc := pc, locals := Ls, stack := _ :: rest, locked := none }) _
  jvm_step X.here [X.here.top, hx, hd, hm', hret, hn]
  first | (intro acts; rw [hl _ acts rfl rfl rfl]) | rw [hl _ _ rfl rfl rfl]
  exact Steps.refl _
end New
end Jvm.RoadKit
@@BLOCK:TracedD.lean.txt@@
/- laws to paste: Road.lenW, Road.chN (cut by pick.py; bodies as the Statement names them) -/
namespace Jvm.Pilot.@@N@@
namespace StrChars
open Jvm Sem ClassFile Op Lib Jvm.Stand Jvm.Free.XT Jvm.Free.ALB Jvm.Free.JM Jvm.Free
open Jvm.Lib.Cold (StaticIs)
/-- the byte that i2b leaves of a char -/
def lo8 (x : Int32) : Int32 := x.toInt8.toInt32
def U16 : String := "java/lang/StringUTF16"
namespace Cmp5
def yN : MethodName := ⟨"java/lang/StringUTF16", "compress", "([CI[BII)I"⟩
abbrev yB : ByteArray := jdk_52_method_21_code
end Cmp5
namespace Cmp3
def yN : MethodName := ⟨"java/lang/StringUTF16", "compress", "([CII)[B"⟩
abbrev yB : ByteArray := jdk_52_method_16_code
end Cmp3
namespace CodL
def yN : MethodName := ⟨"java/lang/StringUTF16", "coderFromArrayLen", "([BI)B"⟩
abbrev yB : ByteArray := jdk_52_method_15_code
end CodL
namespace New4
def yN : MethodName := ⟨"java/lang/String", "<init>", "([CIILjava/lang/Void;)V"⟩
abbrev yB : ByteArray := jdk_42_method_149_code
end New4
namespace New1
def yN : MethodName := ⟨"java/lang/String", "<init>", "([C)V"⟩
abbrev yB : ByteArray := jdk_42_method_3_code
end New1
/-- the byte, read back as charAt reads it, is the char -/
theorem lo8_mask {x : Int32} (h0 : ¬ x < 0) (h1 : ¬ 255 < x) : lo8 x &&& 255 = x := by
  have t : ∀ k : Fin 256, lo8 (Int32.ofNat k.val) &&& 255 = Int32.ofNat k.val := by decide +kernel
  rw [Int32.lt_iff_toInt_lt] at h0 h1
  have e0 : (0 : Int32).toInt = 0 := rfl
  have e1 : (255 : Int32).toInt = 255 := rfl
  obtain ⟨k, hk⟩ : ∃ k : Nat, x.toInt = k := ⟨x.toInt.toNat, by omega⟩
  have hx : x = Int32.ofNat k := Int32.toInt_inj.mp (by rw [hk, Int32.toInt_ofNat_small (by omega)])
  rw [hx]
  exact t ⟨k, by omega⟩
end StrChars
namespace StrChars.Road
open Jvm Sem ClassFile Op Lib Jvm.Stand Jvm.Free Jvm.Free.XT
open Jvm.Lib.Cold (StaticIs)
abbrev ST : String := "java/lang/String"
/-- every table word that New1's law asks, flat -/
abbrev words : List Jvm.Cond := [.code New1.yN New1.yB 2 none, .initialized ST, .methodLink ST 27 New4.yN, .instanceMethod New4.yN,
  .code New4.yN New4.yB 6 none, .fieldLink ST 38 ST "COMPACT_STRINGS" "Z", .laysFinal ST ST "value" "[B", .fieldLink ST 9 ST "value" "[B", .laysFinal ST ST "coder" "B", .fieldLink ST 15 ST "coder" "B",
  .methodLink ST 1 Lib.objectInit, .instanceMethod Lib.objectInit, .code Lib.objectInit ⟨#[0xb1]⟩ 1 none, .methodLink ST 177 Cmp3.yN, .static Cmp3.yN, .methodLink ST 47 CodL.yN, .static CodL.yN,
  .code Cmp3.yN Cmp3.yB 6 (some (.array .byte)), .initialized U16, .arrayClass .byte, .methodLink U16 115 Cmp5.yN, .static Cmp5.yN, .code Cmp5.yN Cmp5.yB 7 (some .int), .code CodL.yN CodL.yB 2 (some .byte)]
end StrChars.Road
namespace StrChars
open Jvm Sem ClassFile Op Lib Jvm.Stand Jvm.Free.XT Jvm.Free.ALB Jvm.Free.JM Jvm.Free
open Jvm.Lib.Cold (StaticIs)
def hi8 (x : Int32) : Int32 := lo8 (x >>> ((8 : Int32) &&& 31))
/-- what StringUTF16.getChar makes of two bytes -/
def pairCh (u v : Int32) : Int32 := (((u &&& 255) <<< ((0 : Int32) &&& 31)) ||| ((v &&& 255) <<< ((8 : Int32) &&& 31))).toUInt32.toUInt16.toUInt32.toInt32
theorem shr0 (c : Int32) : c >>> ((0 : Int32) &&& 31) = c := by
  have e : ((0 : Int32) &&& 31) = 0 := by decide
  rw [e]
  apply Int32.toBitVec_inj.mp
  rw [Int32.toBitVec_shiftRight]
  have e1 : ((0 : Int32).toBitVec.smod 32) = 0#32 := by decide
  rw [e1, BitVec.sshiftRight_eq']
  exact BitVec.sshiftRight_zero
theorem lo8_and (x : Int32) : (lo8 x &&& 255).toBitVec.toNat = x.toBitVec.toNat % 256 := by
  have h : (lo8 x).toBitVec = (x.toBitVec.signExtend 8).signExtend 32 := by rw [lo8, Int8.toBitVec_toInt32, Int32.toBitVec_toInt8]
  rw [Int32.toBitVec_and, BitVec.toNat_and, h]
  have e : ((x.toBitVec.signExtend 8).signExtend 32).toNat % 256 = x.toBitVec.toNat % 256 := by
    rw [BitVec.toNat_signExtend]
    have hlt := x.toBitVec.isLt
    simp only [BitVec.toNat_setWidth, BitVec.toNat_signExtend]
    split <;> split <;> omega
  rw [← e]
  exact Nat.and_two_pow_sub_one_eq_mod _ 8
theorem pair_says {c : Int32} (h0 : ¬ c < 0) (h1 : ¬ 65535 < c) : pairCh (lo8 c) (hi8 c) = c := by
  rw [Int32.lt_iff_toInt_lt] at h0 h1
  have e0 : (0 : Int32).toInt = 0 := rfl
  have e1 : (65535 : Int32).toInt = 65535 := rfl
  have hc : c.toInt = c.toBitVec.toNat := by
    have := c.toBitVec.isLt
    have e : c.toInt = c.toBitVec.toInt := rfl
    rw [e] at h0 h1
    rw [e]
    rw [BitVec.toInt_eq_toNat_cond] at h0 h1 ⊢
    split at h0 <;> split <;> omega
  have hn : c.toBitVec.toNat < 65536 := by omega
  have a1 := lo8_and c
  have a2 : (hi8 c &&& 255).toBitVec.toNat = c.toBitVec.toNat / 256 := by
    rw [hi8, lo8_and]
    have e : ((8 : Int32) &&& 31) = 8 := by decide
    rw [e, Int32.toBitVec_shiftRight]
    have e2 : ((8 : Int32).toBitVec.smod 32) = 8#32 := by decide
    rw [e2, BitVec.sshiftRight_eq', BitVec.toNat_sshiftRight_of_msb_false (by rw [BitVec.msb_eq_false_iff_two_mul_lt]; omega)]
    show c.toBitVec.toNat >>> 8 % 256 = _
    rw [Nat.shiftRight_eq_div_pow]
    omega
  unfold pairCh
  apply Int32.toBitVec_inj.mp
  apply BitVec.eq_of_toNat_eq
  have f0 : ((0 : Int32) &&& 31) = 0 := by decide
  have f8 : ((8 : Int32) &&& 31) = 8 := by decide
  rw [f0, f8]
  have g : (((lo8 c &&& 255) <<< (0 : Int32)) ||| ((hi8 c &&& 255) <<< (8 : Int32))).toBitVec.toNat = c.toBitVec.toNat := by
    rw [Int32.toBitVec_or, Int32.toBitVec_shiftLeft, Int32.toBitVec_shiftLeft]
    have s0 : ((0 : Int32).toBitVec.smod 32) = 0#32 := by decide
    have s8 : ((8 : Int32).toBitVec.smod 32) = 8#32 := by decide
    rw [s0, s8, BitVec.toNat_or]
    simp only [BitVec.shiftLeft_eq', BitVec.toNat_shiftLeft, a1, a2]
    show (c.toBitVec.toNat % 256) <<< 0 % 2 ^ 32 ||| (c.toBitVec.toNat / 256) <<< 8 % 2 ^ 32 = _
    rw [Nat.shiftLeft_zero, Nat.mod_eq_of_lt (show c.toBitVec.toNat % 256 < 2 ^ 32 by omega), Nat.mod_eq_of_lt (show (c.toBitVec.toNat / 256) <<< 8 < 2 ^ 32 by rw [Nat.shiftLeft_eq]; omega), Nat.or_comm, ← Nat.shiftLeft_add_eq_or_of_lt (by omega), Nat.shiftLeft_eq]
    omega
  show BitVec.toNat (((((lo8 c &&& 255) <<< (0 : Int32)) ||| ((hi8 c &&& 255) <<< (8 : Int32))).toBitVec.setWidth 16).setWidth 32) = _
  rw [BitVec.toNat_setWidth, BitVec.toNat_setWidth, g]
  omega
end StrChars
namespace StrChars
open Jvm Sem ClassFile Op Lib Jvm.Stand Jvm.Free.XT Jvm.Free.ALB Jvm.Free.JM Jvm.Free
open Jvm.Lib.Cold (StaticIs)
theorem shr1 {n : Nat} (h : 2 * n < 2 ^ 31) : Int32.ofNat (2 * n) >>> ((1 : Int32) &&& 31) = Int32.ofNat n := by
  have e : ((1 : Int32) &&& 31) = 1 := by decide
  rw [e]
  apply Int32.toBitVec_inj.mp
  rw [Int32.toBitVec_shiftRight]
  have e1 : ((1 : Int32).toBitVec.smod 32) = 1#32 := by decide
  have hm : (BitVec.ofNat 32 (2 * n)).toNat = 2 * n := by rw [BitVec.toNat_ofNat, Nat.mod_eq_of_lt (by omega)]
  rw [e1, BitVec.sshiftRight_eq']
  apply BitVec.eq_of_toNat_eq
  show ((BitVec.ofNat 32 (2 * n)).sshiftRight 1).toNat = (BitVec.ofNat 32 n).toNat
  rw [BitVec.toNat_sshiftRight_of_msb_false (by rw [BitVec.msb_eq_false_iff_two_mul_lt, hm]; omega), hm, BitVec.toNat_ofNat, Nat.shiftRight_eq_div_pow]
  omega
/-- charAt's cast of a byte read back -/
def chr8 (u : Int32) : Int32 := (u &&& 255).toUInt32.toUInt16.toUInt32.toInt32
theorem chr8_lo8 {c : Int32} (h0 : ¬ c < 0) (h1 : ¬ 255 < c) : chr8 (lo8 c) = c := by
  have t : ∀ k : Fin 256, (Int32.ofNat k.val).toUInt32.toUInt16.toUInt32.toInt32 = Int32.ofNat k.val := by decide +kernel
  unfold chr8
  rw [lo8_mask h0 h1]
  rw [Int32.lt_iff_toInt_lt] at h0 h1
  have e0 : (0 : Int32).toInt = 0 := rfl
  have e1 : (255 : Int32).toInt = 255 := rfl
  obtain ⟨k, hk⟩ : ∃ k : Nat, c.toInt = k := ⟨c.toInt.toNat, by omega⟩
  have hx : c = Int32.ofNat k := Int32.toInt_inj.mp (by rw [hk, Int32.toInt_ofNat_small (by omega)])
  rw [hx]
  exact t ⟨k, by omega⟩
theorem narrow_ch {c : Int32} (h0 : ¬ c < 0) (h1 : ¬ 65535 < c) : narrow .char (.int c) = .int c := by
  have q : narrow .char (.int (pairCh (lo8 c) (hi8 c))) = .int (pairCh (lo8 c) (hi8 c)) := narrow_c _
  rwa [pair_says h0 h1] at q
/-- the array's cell V codes the n chars f 0 .. f (n - 1) by the coder cd, as the JDK does: coder 1 just where some char is above 255 -/
def Cod (cd : Int32) (n : Nat) (f : Nat → Int32) (V : Cell) : Prop := (cd = 0 ∧ V.slots.size = n ∧ ∀ j, j < n → V.slots[j]? = some (.int (lo8 (f j))) ∧ ¬ 255 < f j) ∨ (cd = 1 ∧ V.slots.size = 2 * n ∧ (∀ j, j < n → V.slots[2 * j]? = some (.int (lo8 (f j))) ∧ V.slots[2 * j + 1]? = some (.int (hi8 (f j)))) ∧ ∃ j, j < n ∧ 255 < f j)
theorem Cod.cd {cd : Int32} {n : Nat} {f : Nat → Int32} {V : Cell} (h : Cod cd n f V) : cd = 0 ∨ cd = 1 := h.imp (fun q => q.1) fun q => q.1
theorem Cod.len {cd : Int32} {n : Nat} {f : Nat → Int32} {V : Cell} (h : Cod cd n f V) (hs : V.slots.size < 2 ^ 31) : Int32.ofNat V.slots.size >>> (cd &&& 31) = Int32.ofNat n := by
  rcases h with ⟨rfl, h, -⟩ | ⟨rfl, h, -⟩
  · rw [shr0, h]
  · rw [h, shr1 (by omega)]
/-- **x is a String of the n chars f 0 .. f (n - 1)**, Latin-1 or UTF-16; its array at t has the cell V -/
def Txt (x t : Addr) (V : Cell) (cd : Int32) (n : Nat) (f : Nat → Int32) (U : State) : Prop := Exact "java/lang/String" x U ∧ Has x "java/lang/String" "value" "[B" (.ref t) U ∧ Has x "java/lang/String" "coder" "B" (.int cd) U ∧ XT.Arr .byte t V U ∧ Cod cd n f V ∧ ∀ j, j < n → ¬ f j < 0 ∧ ¬ 65535 < f j
theorem Txt.mv {x t : Addr} {V : Cell} {cd : Int32} {n : Nat} {f : Nat → Int32} {U U' : State} (h : Txt x t V cd n f U) (hal : U.vm.Alike U'.vm) (hh : U'.heap = U.heap) : Txt x t V cd n f U' := ⟨h.1.mv hal hh, h.2.1.mv hal hh, h.2.2.1.mv hal hh, h.2.2.2.1.mv hal hh, h.2.2.2.2⟩
namespace Cdr
def yN : MethodName := ⟨"java/lang/String", "coder", "()B"⟩
abbrev yB : ByteArray := jdk_42_method_152_code
theorem d0 : decode yB 0 = .ok (.getstatic 38, 3) := by decide +kernel
theorem d3 : decode yB 3 = .ok (.ifCond (.eq) 10, 3) := by decide +kernel
theorem d6 : decode yB 6 = .ok (.aload_n 0, 1) := by decide +kernel
theorem d7 : decode yB 7 = .ok (.getfield 15, 3) := by decide +kernel
theorem d10 : decode yB 10 = .ok (.goto 4, 3) := by decide +kernel
theorem d14 : decode yB 14 = .ok (.ireturn, 1) := by decide +kernel
def site : List Cond := [.fieldLink "java/lang/String" 38 "java/lang/String" "COMPACT_STRINGS" "Z", .fieldLink "java/lang/String" 15 "java/lang/String" "coder" "B"]
def tab : Cond := tabOf yN yB 1 (some .byte) site
def P (x : Addr) (cd z : Int32) (args : Array Value) (s : State) : Prop := args = #[.ref x] ∧ Has x "java/lang/String" "coder" "B" (.int cd) s ∧ (cd = 0 ∨ cd = 1) ∧ StaticIs s "java/lang/String" "COMPACT_STRINGS" "Z" (.int z) ∧ ¬ z = 0
def E (cd : Int32) (r : Option Value) (s u : State) : Prop := XT.PureE (some (.int cd)) r s u
theorem law (l : Launch) (x : Addr) (cd z : Int32) : Law l yN 1 0 0 0 yB 1 (some .byte) site (P x cd z) (E cd) [] 0 0 := by
  refine Law.of_walk (plainFor_of_name (by decide +kernel)) (by decide +kernel) (by decide +kernel) (by decide) (fun _ _ h => by rw [h.1]; rfl) (fun _ U U' hal hh h => ⟨h.1, h.2.1.mv hal hh, h.2.2.1, h.2.2.2.1.there hal hh, h.2.2.2.2⟩) (fun r U U' V V' h1 hal h2 h => XT.PureE.mv r U U' V V' h1 hal h2 h) ?_
  intro p e s m args below meth c s₁ X0 hexec hbytes hml hret hlk hnm hown hh0 W hP
  obtain ⟨rfl, hx, hc, s1, hz⟩ := hP
  have c1 : Steps p.tables e below (s₁.setTop (entryFrame m #[.ref x] 1)) (s₁.setTop (mkF m 0 #[.val (.ref x)] [])) := entry rfl
  obtain ⟨T2, X2, q2, st2⟩ := X0.sget hexec hown (wk W (.fieldLink "java/lang/String" 38 "java/lang/String" "COMPACT_STRINGS" "Z")) s1 (fun _ _ h => by rw [hh0]; exact h) (g := (mkF m 0 #[.val (.ref x)] [])) rfl (hb hbytes d0)
  have hh2 := q2.trans hh0
  have c3 : Steps p.tables e below (s₁.setTop (entryFrame m #[.ref x] 1)) (T2.setTop (mkF m 7 #[.val (.ref x)] [.ref x])) := (c1.trans (st2 _ (Steps.refl _))).trans (by
    refine XS.ifNo X2.here hexec rfl (hb hbytes d3) rfl (i0_eq_f hz) ?_
    refine XS.aloadN X2.here hexec rfl (hb hbytes d6) rfl rfl ?_
    exact Steps.refl _)
  obtain ⟨T4, X4, q4, st4⟩ := X2.hget hexec hown (wk W (.fieldLink "java/lang/String" 15 "java/lang/String" "coder" "B")) (hx.mv X2.warmed.alike hh2) (g := (mkF m 7 #[.val (.ref x)] [.ref x])) rfl (rest := []) rfl (hb hbytes d7)
  have c5 : Steps p.tables e below (s₁.setTop (entryFrame m #[.ref x] 1)) (T4.setTop (mkF m 14 #[.val (.ref x)] [.int cd])) := (c3.trans (st4 _ (Steps.refl _))).trans (by
    refine XS.goto X4.here hexec rfl (pc0 := 10) rfl (hb hbytes d10) (by decide) rfl ?_
    exact Steps.refl _)
  exact ⟨T4, some (.int cd), _, _, _, X4, rfl, rfl, rfl, (fun h => by cases h), ⟨rfl, q4.trans hh2⟩, fun fs hl => c5.trans (X4.ireturnOut hexec hret (by rcases hc with rfl | rfl <;> rfl) (Or.inr (Or.inr (Or.inl rfl))) (hb hbytes d14) hl)⟩
end Cdr
namespace Len
def yN : MethodName := ⟨"java/lang/String", "length", "()I"⟩
abbrev yB : ByteArray := jdk_42_method_54_code
theorem d0 : decode yB 0 = .ok (.aload_n 0, 1) := by decide +kernel
theorem d1 : decode yB 1 = .ok (.getfield 9, 3) := by decide +kernel
theorem d4 : decode yB 4 = .ok (.arraylength, 1) := by decide +kernel
theorem d5 : decode yB 5 = .ok (.aload_n 0, 1) := by decide +kernel
theorem d6 : decode yB 6 = .ok (.invokevirtual 335, 3) := by decide +kernel
theorem d9 : decode yB 9 = .ok (.ishr, 1) := by decide +kernel
theorem d10 : decode yB 10 = .ok (.ireturn, 1) := by decide +kernel
def site : List Cond := [.fieldLink "java/lang/String" 9 "java/lang/String" "value" "[B", Cdr.tab] ++ virtW "java/lang/String" 335 "java/lang/String" Cdr.yN Cdr.yN
def tab : Cond := tabOf yN yB 1 (some .int) site
def P (x t : Addr) (V : Cell) (cd : Int32) (n : Nat) (f : Nat → Int32) (z : Int32) (args : Array Value) (s : State) : Prop := args = #[.ref x] ∧ Txt x t V cd n f s ∧ StaticIs s "java/lang/String" "COMPACT_STRINGS" "Z" (.int z) ∧ ¬ z = 0
def E (n : Nat) (r : Option Value) (s u : State) : Prop := XT.PureE (some (.int (Int32.ofNat n))) r s u
/-- length() of a String of n chars, in either coding -/
theorem law (l : Launch) (x t : Addr) (V : Cell) (cd : Int32) (n : Nat) (f : Nat → Int32) (z : Int32) : Law l yN 1 0 1 13 yB 1 (some .int) site (P x t V cd n f z) (E n) [] 0 0 := by
  refine Law.of_walk (plainFor_of_name (by decide +kernel)) (by decide +kernel) (by decide +kernel) (by decide) (fun _ _ h => by rw [h.1]; rfl) (fun _ U U' hal hh h => ⟨h.1, h.2.1.mv hal hh, h.2.2.1.there hal hh, h.2.2.2⟩) (fun r U U' V V' h1 hal h2 h => XT.PureE.mv r U U' V V' h1 hal h2 h) ?_
  intro p e s m args below meth c s₁ X0 hexec hbytes hml hret hlk hnm hown hh0 W hP
  obtain ⟨rfl, hx, s1, hz⟩ := hP
  have v31 := hx.2.2.2.1.2.2.2
  have c1 : Steps p.tables e below (s₁.setTop (entryFrame m #[.ref x] 1)) (s₁.setTop (mkF m 1 #[.val (.ref x)] [.ref x])) := Steps.trans (entry rfl) (by
    show Steps p.tables e below (s₁.setTop (mkF m 0 #[.val (.ref x)] [])) _
    refine XS.aloadN X0.here hexec rfl (hb hbytes d0) rfl rfl ?_
    exact Steps.refl _)
  obtain ⟨T2, X2, q2, st2⟩ := X0.hget hexec hown (wk W (.fieldLink "java/lang/String" 9 "java/lang/String" "value" "[B")) (hx.mv X0.warmed.alike hh0).2.1 (g := (mkF m 1 #[.val (.ref x)] [.ref x])) rfl (rest := []) rfl (hb hbytes d1)
  have hh2 := q2.trans hh0
  have hx2 := hx.mv X2.warmed.alike hh2
  have c3 : Steps p.tables e below (s₁.setTop (entryFrame m #[.ref x] 1)) (T2.setTop (mkF m 6 #[.val (.ref x)] [.ref x, .int (Int32.ofNat V.slots.size)])) := (c1.trans (st2 _ (Steps.refl _))).trans (by
    refine X2.alen hexec hx2.2.2.2.1 rfl rfl (hb hbytes d4) ?_
    refine XS.aloadN X2.here hexec rfl (hb hbytes d5) rfl rfl ?_
    exact Steps.refl _)
  obtain ⟨v4, T4, X4, E4, g4⟩ := X2.callV hexec (Cdr.law l x cd z) hown (wks W (virtW "java/lang/String" 335 "java/lang/String" Cdr.yN Cdr.yN)) rfl (by decide) (wk W Cdr.tab) (W := 1) (Nat.le_of_ble_eq_true rfl) (Nat.le_of_ble_eq_true rfl) (Nat.le_refl _) (Nat.le_refl _) (hx2.1.fc X2.warmed.alike) hx2.1.is (g := (mkF m 6 #[.val (.ref x)] [.ref x, .int (Int32.ofNat V.slots.size)])) rfl (by rw [hml]; rfl) c3 (argsL := []) (rest := [.int (Int32.ofNat V.slots.size)]) rfl rfl (by show 2 * 0 + (1 + 0) ≤ _; decide) (hb hbytes d6) (⟨rfl, hx2.2.2.1, hx.2.2.2.2.1.cd, s1.there X2.warmed.alike hh2, hz⟩)
  obtain ⟨rfl, q4⟩ := E4
  have c5 : Steps p.tables e below (s₁.setTop (entryFrame m #[.ref x] 1)) (T4.setTop (mkF m 10 #[.val (.ref x)] [.int (Int32.ofNat V.slots.size >>> (cd &&& 31))])) := Steps.trans g4 (by
    refine ishr X4.here hexec rfl (hb hbytes d9) rfl ?_
    exact Steps.refl _)
  rw [hx.2.2.2.2.1.len v31] at c5
  exact ⟨T4, some (.int (Int32.ofNat n)), _, _, _, X4, rfl, rfl, rfl, (fun h => by cases h), ⟨rfl, q4.trans hh2⟩, fun fs hl => c5.trans (X4.ireturnOut hexec hret rfl (Or.inl rfl) (hb hbytes d10) hl)⟩
theorem pays {l : Launch} {R : Room} {p : Program} {e : Env} {below : List Frame} {s : State} {sargs : Array Value} {len W : Nat} (x t : Addr) (V : Cell) (cd : Int32) (n : Nat) (f : Nat → Int32) (z : Int32) (htab : tab.before sargs s = true) (hfr : 2 ≤ R.frames) (hlo : W + 25 ≤ R.locals) :
    Back l R p e below s sargs yN len W (fun A₁ a₁ => A₁.cells + 0 ≤ R.cells ∧ A₁.slots + 0 ≤ R.slots ∧ P x t V cd n f z a₁ A₁.U) (fun A₁ _ v₁ B₁ => E n v₁ A₁.U B₁.U ∧ B₁.locs = A₁.locs ++ [] ∧ B₁.cells = A₁.cells + 0 ∧ B₁.slots = A₁.slots + 0) :=
  (law l x t V cd n f z).pays htab hfr (by omega)
end Len
namespace IsL
def yN : MethodName := ⟨"java/lang/String", "isLatin1", "()Z"⟩
abbrev yB : ByteArray := jdk_42_method_154_code
theorem d0 : decode yB 0 = .ok (.getstatic 38, 3) := by decide +kernel
theorem d3 : decode yB 3 = .ok (.ifCond (.eq) 14, 3) := by decide +kernel
theorem d6 : decode yB 6 = .ok (.aload_n 0, 1) := by decide +kernel
theorem d7 : decode yB 7 = .ok (.getfield 15, 3) := by decide +kernel
theorem d10 : decode yB 10 = .ok (.ifCond (.ne) 7, 3) := by decide +kernel
theorem d13 : decode yB 13 = .ok (.iconst 1, 1) := by decide +kernel
theorem d14 : decode yB 14 = .ok (.goto 4, 3) := by decide +kernel
theorem d17 : decode yB 17 = .ok (.iconst 0, 1) := by decide +kernel
theorem d18 : decode yB 18 = .ok (.ireturn, 1) := by decide +kernel
def site : List Cond := [.fieldLink "java/lang/String" 38 "java/lang/String" "COMPACT_STRINGS" "Z", .fieldLink "java/lang/String" 15 "java/lang/String" "coder" "B"]
def tab : Cond := tabOf yN yB 1 (some .boolean) site
def P (x : Addr) (cd z : Int32) (args : Array Value) (s : State) : Prop := args = #[.ref x] ∧ Has x "java/lang/String" "coder" "B" (.int cd) s ∧ (cd = 0 ∨ cd = 1) ∧ StaticIs s "java/lang/String" "COMPACT_STRINGS" "Z" (.int z) ∧ ¬ z = 0
def E (cd : Int32) (r : Option Value) (s u : State) : Prop := XT.PureE (some (.int (1 - cd))) r s u
theorem law (l : Launch) (x : Addr) (cd z : Int32) : Law l yN 1 0 0 0 yB 1 (some .boolean) site (P x cd z) (E cd) [] 0 0 := by
  refine Law.of_walk (plainFor_of_name (by decide +kernel)) (by decide +kernel) (by decide +kernel) (by decide) (fun _ _ h => by rw [h.1]; rfl) (fun _ U U' hal hh h => ⟨h.1, h.2.1.mv hal hh, h.2.2.1, h.2.2.2.1.there hal hh, h.2.2.2.2⟩) (fun r U U' V V' h1 hal h2 h => XT.PureE.mv r U U' V V' h1 hal h2 h) ?_
  intro p e s m args below meth c s₁ X0 hexec hbytes hml hret hlk hnm hown hh0 W hP
  obtain ⟨rfl, hx, hc, s1, hz⟩ := hP
  have c1 : Steps p.tables e below (s₁.setTop (entryFrame m #[.ref x] 1)) (s₁.setTop (mkF m 0 #[.val (.ref x)] [])) := entry rfl
  obtain ⟨T2, X2, q2, st2⟩ := X0.sget hexec hown (wk W (.fieldLink "java/lang/String" 38 "java/lang/String" "COMPACT_STRINGS" "Z")) s1 (fun _ _ h => by rw [hh0]; exact h) (g := (mkF m 0 #[.val (.ref x)] [])) rfl (hb hbytes d0)
  have hh2 := q2.trans hh0
  have c3 : Steps p.tables e below (s₁.setTop (entryFrame m #[.ref x] 1)) (T2.setTop (mkF m 7 #[.val (.ref x)] [.ref x])) := (c1.trans (st2 _ (Steps.refl _))).trans (by
    refine XS.ifNo X2.here hexec rfl (hb hbytes d3) rfl (i0_eq_f hz) ?_
    refine XS.aloadN X2.here hexec rfl (hb hbytes d6) rfl rfl ?_
    exact Steps.refl _)
  obtain ⟨T4, X4, q4, st4⟩ := X2.hget hexec hown (wk W (.fieldLink "java/lang/String" 15 "java/lang/String" "coder" "B")) (hx.mv X2.warmed.alike hh2) (g := (mkF m 7 #[.val (.ref x)] [.ref x])) rfl (rest := []) rfl (hb hbytes d7)
  have c5 : Steps p.tables e below (s₁.setTop (entryFrame m #[.ref x] 1)) (T4.setTop (mkF m 10 #[.val (.ref x)] [.int cd])) := c3.trans (st4 _ (Steps.refl _))
  have c6 : Steps p.tables e below (s₁.setTop (entryFrame m #[.ref x] 1)) (T4.setTop (mkF m 18 #[.val (.ref x)] [.int (1 - cd)])) := by
    rcases hc with rfl | rfl
    · exact c5.trans (by
        refine XS.ifNo X4.here hexec rfl (hb hbytes d10) rfl (i0_ne_f rfl) ?_
        refine iconstV X4.here hexec rfl 1 (hb hbytes d13) (by decide) ?_
        refine XS.goto X4.here hexec rfl (pc0 := 14) rfl (hb hbytes d14) (by decide) rfl ?_
        exact Steps.refl _)
    · exact c5.trans (by
        refine XS.ifYes X4.here hexec rfl (pc0 := 10) rfl (hb hbytes d10) rfl (i0_ne_t (by decide)) (by decide) rfl ?_
        refine iconstV X4.here hexec rfl 0 (hb hbytes d17) (by decide) ?_
        exact Steps.refl _)
  exact ⟨T4, some (.int (1 - cd)), _, _, _, X4, rfl, rfl, rfl, (fun h => by cases h), ⟨rfl, q4.trans hh2⟩, fun fs hl => c6.trans (X4.ireturnOut hexec hret (by rcases hc with rfl | rfl <;> rfl) (Or.inr (Or.inl rfl)) (hb hbytes d18) hl)⟩
end IsL
namespace LChA
def yN : MethodName := ⟨"java/lang/StringLatin1", "charAt", "([BI)C"⟩
abbrev yB : ByteArray := jdk_43_method_2_code
theorem d0 : decode yB 0 = .ok (.iload_n 1, 1) := by decide +kernel
theorem d1 : decode yB 1 = .ok (.aload_n 0, 1) := by decide +kernel
theorem d2 : decode yB 2 = .ok (.arraylength, 1) := by decide +kernel
theorem d3 : decode yB 3 = .ok (.invokestatic 9, 3) := by decide +kernel
theorem d6 : decode yB 6 = .ok (.aload_n 0, 1) := by decide +kernel
theorem d7 : decode yB 7 = .ok (.iload_n 1, 1) := by decide +kernel
theorem d8 : decode yB 8 = .ok (.baload, 1) := by decide +kernel
theorem d9 : decode yB 9 = .ok (.sipush 255, 3) := by decide +kernel
theorem d12 : decode yB 12 = .ok (.iand, 1) := by decide +kernel
theorem d13 : decode yB 13 = .ok (.i2c, 1) := by decide +kernel
theorem d14 : decode yB 14 = .ok (.ireturn, 1) := by decide +kernel
def site : List Cond := [JO.Str_checkIndex.tab] ++ staticW "java/lang/StringLatin1" 9 JO.Str_checkIndex.yN
def tab : Cond := tabOf yN yB 2 (some .char) site
def P (t : Addr) (V : Cell) (i : Nat) (u : Int32) (fm : Value) (args : Array Value) (s : State) : Prop := args = #[.ref t, .int (Int32.ofNat i)] ∧ XT.Arr .byte t V s ∧ V.slots[i]? = some (.int u) ∧ (StaticIs s "jdk/internal/util/Preconditions" "SIOOBE_FORMATTER" "Ljava/util/function/BiFunction;" fm ∧ fm.isRef = true)
def E (u : Int32) (r : Option Value) (s w : State) : Prop := XT.PureE (some (.int (chr8 u))) r s w
theorem law (l : Launch) (t : Addr) (V : Cell) (i : Nat) (u : Int32) (fm : Value) : Law l yN 2 2 2 27 yB 2 (some .char) site (P t V i u fm) (E u) [] 0 0 := by
  refine Law.of_walk (plainFor_of_name (by decide +kernel)) (by decide +kernel) (by decide +kernel) (by decide) (fun _ _ h => by rw [h.1]; rfl) (fun _ U U' hal hh h => ⟨h.1, h.2.1.mv hal hh, h.2.2.1, h.2.2.2.1.there hal hh, h.2.2.2.2⟩) (fun r U U' V V' h1 hal h2 h => XT.PureE.mv r U U' V V' h1 hal h2 h) ?_
  intro p e s m args below meth c s₁ X0 hexec hbytes hml hret hlk hnm hown hh0 W hP
  obtain ⟨rfl, hV, hu, s1, rf⟩ := hP
  have v31 := hV.2.2.2
  have hi : i < V.slots.size := (Array.getElem?_eq_some_iff.mp hu).1
  have c1 : Steps p.tables e below (s₁.setTop (entryFrame m #[.ref t, .int (Int32.ofNat i)] 2)) (s₁.setTop (mkF m 0 #[.val (.ref t), .val (.int (Int32.ofNat i))] [])) := entry rfl
  have c2 : Steps p.tables e below (s₁.setTop (entryFrame m #[.ref t, .int (Int32.ofNat i)] 2)) (s₁.setTop (mkF m 3 #[.val (.ref t), .val (.int (Int32.ofNat i))] [.int (Int32.ofNat V.slots.size), .int (Int32.ofNat i)])) := c1.trans (by
    refine XS.iloadN X0.here hexec rfl (hb hbytes d0) rfl ?_
    refine XS.aloadN X0.here hexec rfl (hb hbytes d1) rfl rfl ?_
    refine X0.alen hexec (hV.mv X0.warmed.alike hh0) rfl rfl (hb hbytes d2) ?_
    exact Steps.refl _)
  obtain ⟨v3, T3, X3, E3, g3⟩ := X0.callS hexec (JO.Str_checkIndex.law l (Int32.ofNat i) (Int32.ofNat V.slots.size) fm) hown (wks W (staticW "java/lang/StringLatin1" 9 JO.Str_checkIndex.yN)) (wk W JO.Str_checkIndex.tab) (W := 0) (Nat.le_of_ble_eq_true rfl) (Nat.le_of_ble_eq_true rfl) (Nat.le_refl _) (Nat.le_refl _) (g := (mkF m 3 #[.val (.ref t), .val (.int (Int32.ofNat i))] [.int (Int32.ofNat V.slots.size), .int (Int32.ofNat i)])) rfl (by rw [hml]; rfl) c2 (argsL := [.int (Int32.ofNat i), .int (Int32.ofNat V.slots.size)]) (rest := []) rfl rfl (by show 2 * 0 + 0 ≤ _; decide) (hb hbytes d3) (⟨rfl, rf, s1.there X0.warmed.alike hh0, Int32.ofNat_not_neg (by omega), lt32 v31 hi⟩)
  obtain ⟨rfl, q3⟩ := E3
  have hh3 := q3.trans hh0
  have c4 : Steps p.tables e below (s₁.setTop (entryFrame m #[.ref t, .int (Int32.ofNat i)] 2)) (T3.setTop (mkF m 14 #[.val (.ref t), .val (.int (Int32.ofNat i))] [.int (chr8 u)])) := Steps.trans g3 (by
    refine XS.aloadN X3.here hexec rfl (hb hbytes d6) rfl rfl ?_
    refine XS.iloadN X3.here hexec rfl (hb hbytes d7) rfl ?_
    refine X3.aget hexec (hV.mv X3.warmed.alike hh3) rfl hu rfl rfl (hb hbytes d8) ?_
    refine sipushV X3.here hexec rfl 255 (hb hbytes d9) (by decide) ?_
    refine XS.iand X3.here hexec rfl (hb hbytes d12) rfl ?_
    refine i2c X3.here hexec rfl (hb hbytes d13) rfl ?_
    exact Steps.refl _)
  exact ⟨T3, some (.int (chr8 u)), _, _, _, X3, rfl, rfl, rfl, (fun h => by cases h), ⟨rfl, hh3⟩, fun fs hl => c4.trans (X3.ireturnOut hexec hret (narrow_c _) (Or.inr (Or.inr (Or.inr (Or.inl rfl)))) (hb hbytes d14) hl)⟩
end LChA
end StrChars
namespace StrChars.Road
open Jvm Sem ClassFile Op Lib Jvm.Stand Jvm.Free Jvm.Free.XT
open Jvm.Lib.Cold (StaticIs)
theorem consq {a : Array Value} {s : State} {c : Jvm.Cond} {L : List Jvm.Cond} (h0 : c.before a s = true) (h : ∀ w ∈ L, w.before a s = true) : ∀ w ∈ c :: L, w.before a s = true := fun w hw => (List.mem_cons.mp hw).elim (fun e => e ▸ h0) (h w)
/-- the words of String.length(), either coding -/
abbrev wordsLen : List Jvm.Cond := [.code Len.yN Len.yB 1 (some .int), .initialized ST, .fieldLink ST 9 ST "value" "[B", .fieldLink ST 38 ST "COMPACT_STRINGS" "Z", .fieldLink ST 15 ST "coder" "B", .code Cdr.yN Cdr.yB 1 (some .byte), .methodLink ST 335 Cdr.yN, .declares Cdr.yN, .selects ST Cdr.yN Cdr.yN, .instanceMethod Cdr.yN]
theorem tabLen_of {a : Array Value} {s : State} (h : ∀ w ∈ wordsLen, w.before a s = true) : Len.tab.before a s = true := by
  have hc : Cdr.tab.before a s = true := unparts (wk h (.code Cdr.yN Cdr.yB 1 (some .byte))) (wks h (.initialized Cdr.yN.cls :: Cdr.site))
  have q := consq hc h
  exact unparts (wk q (.code Len.yN Len.yB 1 (some .int))) (wks q (.initialized Len.yN.cls :: Len.site))
theorem movedLen {Z s : State} {a0 args : Array Value} (hZ : Z.Warmed39 s.vm) (hw : ∀ d ∈ wordsLen, d.before a0 Z = true) : ∀ d ∈ wordsLen, d.before args s = true := fun d hd => by
  have q := hw d hd
  have t : ∀ d ∈ wordsLen, d = .arrayClass .byte ∨ (d.onTables && d.keepsFace) = true := by decide +kernel
  rcases t d hd with rfl | t
  · exact RoadKit.mvA hZ q
  · exact RoadKit.mv hZ q t
/-- the bytes of the chars cs, low before high -/
def wideBytes : List Int32 → List Value
  | [] => []
  | c :: cs => .int (lo8 c) :: .int (hi8 c) :: wideBytes cs
theorem wide_lo (d : Value) : ∀ (cs : List Int32) (j : Nat), j < cs.length → (wideBytes cs).getD (2 * j) d = .int (lo8 (cs.getD j 0))
  | [], j, h => absurd h (Nat.not_lt_zero j)
  | c :: cs, 0, _ => rfl
  | c :: cs, j + 1, h => by
    have q := wide_lo d cs j (by simpa using h)
    rw [show 2 * (j + 1) = 2 * j + 1 + 1 from by omega]
    simpa [wideBytes] using q
theorem wide_hi (d : Value) : ∀ (cs : List Int32) (j : Nat), j < cs.length → (wideBytes cs).getD (2 * j + 1) d = .int (hi8 (cs.getD j 0))
  | [], j, h => absurd h (Nat.not_lt_zero j)
  | c :: cs, 0, _ => rfl
  | c :: cs, j + 1, h => by
    have q := wide_hi d cs j (by simpa using h)
    rw [show 2 * (j + 1) + 1 = 2 * j + 1 + 1 + 1 from by omega]
    simpa [wideBytes] using q
theorem low_at (d : Value) (cs : List Int32) (j : Nat) (h : j < cs.length) : (cs.map fun c => Value.int (lo8 c)).getD j d = .int (lo8 (cs.getD j 0)) := by
  simp [List.getD_eq_getElem?_getD, h]
/-- an array of N2 bytes vs codes the chars cs by the coder cd -/
def CodA (cs : List Int32) (cd N2 : Int32) (vs : List Value) : Prop := (cd = 0 ∧ N2 = Int32.ofNat cs.length ∧ vs = (cs.map fun c => Value.int (lo8 c)) ∧ ∀ c ∈ cs, ¬ 255 < c) ∨ (cd = 1 ∧ N2 = Int32.ofNat (2 * cs.length) ∧ vs = wideBytes cs ∧ ∃ c ∈ cs, 255 < c)
theorem CodA.cod {cs : List Int32} {cd N2 : Int32} {vs : List Value} {V : Cell} (h : CodA cs cd N2 vs) (hn : 2 * cs.length < 2 ^ 31) (hs : V.slots.size = N2.toNatClampNeg) (hv : RoadKit.Has V vs (.int 0)) : Cod cd cs.length (fun j => cs.getD j 0) V := by
  rcases h with ⟨rfl, rfl, rfl, h⟩ | ⟨rfl, rfl, rfl, c, hc, hw⟩
  · rw [n32 (by omega)] at hs
    exact Or.inl ⟨rfl, hs, fun j hj => ⟨by rw [hv j (by omega), low_at _ _ _ hj], by
      have e : cs.getD j 0 = cs[j] := by simp [List.getD_eq_getElem?_getD, hj]
      show ¬ 255 < cs.getD j 0
      rw [e]; exact h _ (List.getElem_mem _)⟩⟩
  · rw [n32 (by omega)] at hs
    obtain ⟨j, hj, rfl⟩ := List.getElem_of_mem hc
    exact Or.inr ⟨rfl, hs, fun j hj => ⟨by rw [hv _ (by omega), wide_lo _ _ _ hj], by rw [hv _ (by omega), wide_hi _ _ _ hj]⟩, j, hj, by
      have e : cs.getD j 0 = cs[j] := by simp [List.getD_eq_getElem?_getD, hj]
      show 255 < cs.getD j 0
      rw [e]; exact hw⟩
/-- an object of exactly java/lang/String, its two fields found: as the laws ask it -/
theorem strObj {Z U : State} {a0 : Array Value} {kI : Nat} (wi : (Jvm.Cond.instantiable ST kI).before a0 Z = true) (al : Z.vm.Alike U.vm) {x : Addr} {v0 c0 : Value} (E : RoadKit.Exa Z U.heap x ST) (V : RoadKit.Fld Z U.heap x ST "value" "[B" v0) (C : RoadKit.Fld Z U.heap x ST "coder" "B" c0) :
    ∃ (D : Cell) (fV fC : Field), Blank ST x D U ∧ Found ST "value" "[B" fV U ∧ Found ST "coder" "B" fC U ∧ D.slots[fV.slot]? = some v0 ∧ D.slots[fC.slot]? = some c0 ∧ RoadKit.slotOf Z ST "value" "[B" = fV.slot ∧ RoadKit.slotOf Z ST "coder" "B" = fC.slot := by
  obtain ⟨D, cfV, kV, iV, fV, hD, gV, stV, knV, obV, asV, slV⟩ := V
  obtain ⟨D', cfC, kC, iC, fC, hD', gC, stC, -, -, asC, slC⟩ := C
  cases hD.symm.trans hD'
  obtain ⟨D2, kD, e1, e2, e3, e4, e5⟩ := E
  cases hD.symm.trans e1
  obtain ⟨c2, k2, i1, i2, i3, -⟩ := Cond.instantiable_spec wi
  cases e2.symm.trans i1
  cases e3.symm.trans i2
  obtain ⟨kU, u1, u2⟩ := al.2.2 _ _ e3
  exact ⟨D, fV, fC, ⟨hD, ⟨knV, fun q hq => by rw [hq] at obV; cases obV⟩, by rw [al.findClass]; exact e2, kU, u1, by rw [u2]; exact i3, by rw [u2]; exact e5 i3⟩, ⟨SBG.found_only al ⟨cfV, kV, iV, gV⟩, stV⟩, ⟨SBG.found_only al ⟨cfC, kC, iC, gC⟩, stC⟩, slV, slC, by simp [RoadKit.slotOf, gV], by simp [RoadKit.slotOf, gC]⟩
theorem sta_is {Z U : State} (al : Z.vm.Alike U.vm) {C n d : String} {v : Value} (S : RoadKit.Sta Z U.heap C n d v) : StaticIs U C n d v := by
  obtain ⟨cfS, iS, kS, fS, st, cS, t1, t2, t3, t4, t5, t6, t7⟩ := S
  exact StaticIs.there (s := { Z with heap := U.heap }) ⟨cfS, iS, kS, fS, st, cS, t1, t2, t3, t4, t5, (fun q => by rw [q] at t6; cases t6), t7⟩ al rfl
/-- **length() OF SUCH A STRING** -/
theorem lenW {p : Program} {l : Launch} {e : Env} {R : Room} {s : State} {args : Array Value} {below : List Frame} {len W : Nat} {Z : State} {a0 : Array Value} {h : Heap} (hZ : Z.Warmed39 s.vm) (hw : ∀ d ∈ wordsLen, d.before a0 Z = true) {kI : Nat} (wi : (Jvm.Cond.instantiable ST kI).before a0 Z = true)
    {x t : Addr} {kb : ClassId} {cs : List Int32} {cd N2 z : Int32} {vs : List Value} (E : RoadKit.Exa Z h x ST) (V : RoadKit.Fld Z h x ST "value" "[B" (.ref t)) (C : RoadKit.Fld Z h x ST "coder" "B" (.int cd)) (K : RoadKit.Arv Z h t kb .byte N2 vs (.int 0)) (hc : CodA cs cd N2 vs) (hb : ∀ c ∈ cs, ¬ c < 0 ∧ ¬ (65535 : Int32) < c)
    (S : RoadKit.Sta Z h ST "COMPACT_STRINGS" "Z" (.int z)) (hz : ¬ z = 0) (l2 : cs.length ≤ 4000) (hfr : 2 ≤ R.frames) (hlo : W + 25 ≤ R.locals) :
    Back l R p e below s args (⟨"java/lang/String", "length", "()I"⟩ : MethodName) len W (fun P a => a = #[.ref x] ∧ P.U.heap = h ∧ P.cells + 0 ≤ R.cells ∧ P.slots + 0 ≤ R.slots)
      (fun P _ v B => ∃ L, (v = some (.int (Int32.ofNat cs.length)) ∧ L = [] ∧ B.U.heap = h) ∧ B.locs = P.locs ++ L ∧ B.cells = P.cells + 0 ∧ B.slots = P.slots + 0) := by
  obtain ⟨A, K1, K2, K3, K4, K5, K6⟩ := K
  have hcod := hc.cod (by omega) K3 K5
  intro m meth c P g ig mk a X hg hsize hdg hW hn hp'
  obtain ⟨rfl, rfl, r1, r2⟩ := hp'
  have al : Z.vm.Alike P.U.vm := hZ.alike.trans X.warmed.alike
  obtain ⟨D, fV, fC, hB, F1, F2, g1, g2, -, -⟩ := strObj wi al E V C
  have hx : Txt x t A cd cs.length (fun j => cs.getD j 0) P.U := ⟨⟨_, hB.2.2.1, D, hB.1, rfl, by cases q : D.vm <;> first | rfl | exact absurd q (hB.2.1.2 _)⟩, Has.of hB F1 g1, Has.of hB F2 g2, ⟨K1.1, State.isArrayOf_alike al K1.2.1, K1.2.2, by rcases hcod with ⟨-, q, -⟩ | ⟨-, q, -⟩ <;> omega⟩, hcod, fun j hj => by
    have e : cs.getD j 0 = cs[j] := by simp [List.getD_eq_getElem?_getD, hj]
    show ¬ cs.getD j 0 < 0 ∧ ¬ 65535 < cs.getD j 0
    rw [e]; exact hb _ (List.getElem_mem _)⟩
  obtain ⟨v, B, X', ⟨⟨hv, hh⟩, hl, hk, hs⟩, st⟩ := Len.pays x t A cd cs.length (fun j => cs.getD j 0) z (tabLen_of (movedLen hZ hw)) hfr hlo m meth c P g ig mk _ X hg hsize hdg hW hn ⟨r1, r2, rfl, hx, sta_is al S, hz⟩
  exact ⟨v, B, X', ⟨[], ⟨hv, rfl, hh⟩, hl, hk, hs⟩, st⟩
end StrChars.Road
namespace StrChars.Road
open Jvm Sem ClassFile Op Lib Jvm.Stand Jvm.Free Jvm.Free.XT
open Jvm.Lib.Cold (StaticIs)
/-- the road's facts of a String, as the laws ask it -/
theorem txt_of {Z U : State} {a0 : Array Value} {kI : Nat} (wi : (Jvm.Cond.instantiable ST kI).before a0 Z = true) (al : Z.vm.Alike U.vm) {x t : Addr} {kb : ClassId} {cs : List Int32} {cd N2 : Int32} {vs : List Value} (E : RoadKit.Exa Z U.heap x ST) (V : RoadKit.Fld Z U.heap x ST "value" "[B" (.ref t)) (C : RoadKit.Fld Z U.heap x ST "coder" "B" (.int cd)) (K : RoadKit.Arv Z U.heap t kb .byte N2 vs (.int 0)) (hc : CodA cs cd N2 vs) (hb : ∀ c ∈ cs, ¬ c < 0 ∧ ¬ (65535 : Int32) < c) (l2 : cs.length ≤ 4000) :
    ∃ A, Txt x t A cd cs.length (fun j => cs.getD j 0) U := by
  obtain ⟨A, K1, K2, K3, K4, K5, K6⟩ := K
  have hcod := hc.cod (by omega) K3 K5
  obtain ⟨D, fV, fC, hB, F1, F2, g1, g2, -, -⟩ := strObj wi al E V C
  exact ⟨A, ⟨_, hB.2.2.1, D, hB.1, rfl, by cases q : D.vm <;> first | rfl | exact absurd q (hB.2.1.2 _)⟩, Has.of hB F1 g1, Has.of hB F2 g2, ⟨K1.1, State.isArrayOf_alike al K1.2.1, K1.2.2, by rcases hcod with ⟨-, q, -⟩ | ⟨-, q, -⟩ <;> omega⟩, hcod, fun j hj => by
    have e : cs.getD j 0 = cs[j] := by simp [List.getD_eq_getElem?_getD, hj]
    show ¬ cs.getD j 0 < 0 ∧ ¬ 65535 < cs.getD j 0
    rw [e]; exact hb _ (List.getElem_mem _)⟩
end StrChars.Road
namespace StrChars
open Jvm Sem ClassFile Op Lib Jvm.Stand Jvm.Free.XT Jvm.Free.ALB Jvm.Free.JM Jvm.Free
open Jvm.Lib.Cold (StaticIs)
namespace ChN
def yN : MethodName := ⟨"java/lang/String", "charAt", "(I)C"⟩
abbrev yB : ByteArray := jdk_42_method_56_code
theorem d0 : decode yB 0 = .ok (.aload_n 0, 1) := by decide +kernel
theorem d1 : decode yB 1 = .ok (.invokevirtual 492, 3) := by decide +kernel
theorem d4 : decode yB 4 = .ok (.ifCond (.eq) 12, 3) := by decide +kernel
theorem d7 : decode yB 7 = .ok (.aload_n 0, 1) := by decide +kernel
theorem d8 : decode yB 8 = .ok (.getfield 9, 3) := by decide +kernel
theorem d11 : decode yB 11 = .ok (.iload_n 1, 1) := by decide +kernel
theorem d12 : decode yB 12 = .ok (.invokestatic 495, 3) := by decide +kernel
theorem d15 : decode yB 15 = .ok (.ireturn, 1) := by decide +kernel
def site : List Cond := [.fieldLink "java/lang/String" 9 "java/lang/String" "value" "[B", IsL.tab, LChA.tab] ++ virtW "java/lang/String" 492 "java/lang/String" IsL.yN IsL.yN ++ staticW "java/lang/String" 495 LChA.yN
def tab : Cond := tabOf yN yB 2 (some .char) site
def P (x t : Addr) (V : Cell) (n : Nat) (f : Nat → Int32) (z : Int32) (fm : Value) (i : Nat) (args : Array Value) (s : State) : Prop := args = #[.ref x, .int (Int32.ofNat i)] ∧ Txt x t V 0 n f s ∧ i < n ∧ StaticIs s "java/lang/String" "COMPACT_STRINGS" "Z" (.int z) ∧ ¬ z = 0 ∧ StaticIs s "jdk/internal/util/Preconditions" "SIOOBE_FORMATTER" "Ljava/util/function/BiFunction;" fm ∧ fm.isRef = true
def E (f : Nat → Int32) (i : Nat) (r : Option Value) (s u : State) : Prop := XT.PureE (some (.int (f i))) r s u
/-- charAt(i) of a Latin-1 String of n chars, i < n: f i -/
theorem law (l : Launch) (x t : Addr) (V : Cell) (n : Nat) (f : Nat → Int32) (z : Int32) (fm : Value) (i : Nat) : Law l yN 2 1 3 40 yB 2 (some .char) site (P x t V n f z fm i) (E f i) [] 0 0 := by
  refine Law.of_walk (plainFor_of_name (by decide +kernel)) (by decide +kernel) (by decide +kernel) (by decide) (fun _ _ h => by rw [h.1]; rfl) (fun _ U U' hal hh h => ⟨h.1, h.2.1.mv hal hh, h.2.2.1, h.2.2.2.1.there hal hh, h.2.2.2.2.1, h.2.2.2.2.2.1.there hal hh, h.2.2.2.2.2.2⟩) (fun r U U' V V' h1 hal h2 h => XT.PureE.mv r U U' V V' h1 hal h2 h) ?_
  intro p e s m args below meth c s₁ X0 hexec hbytes hml hret hlk hnm hown hh0 W hP
  obtain ⟨rfl, hx, hi, s1, hz, s3, rf⟩ := hP
  have v31 := hx.2.2.2.1.2.2.2
  have hr := hx.2.2.2.2.2 i hi
  have hx0 := hx.mv X0.warmed.alike hh0
  have c1 : Steps p.tables e below (s₁.setTop (entryFrame m #[.ref x, .int (Int32.ofNat i)] 2)) (s₁.setTop (mkF m 1 #[.val (.ref x), .val (.int (Int32.ofNat i))] [.ref x])) := Steps.trans (entry rfl) (by
    show Steps p.tables e below (s₁.setTop (mkF m 0 #[.val (.ref x), .val (.int (Int32.ofNat i))] [])) _
    refine XS.aloadN X0.here hexec rfl (hb hbytes d0) rfl rfl ?_
    exact Steps.refl _)
  obtain ⟨v2, T2, X2, E2, g2⟩ := X0.callV hexec (IsL.law l x 0 z) hown (wks W (virtW "java/lang/String" 492 "java/lang/String" IsL.yN IsL.yN)) rfl (by decide) (wk W IsL.tab) (W := 0) (Nat.le_of_ble_eq_true rfl) (Nat.le_of_ble_eq_true rfl) (Nat.le_refl _) (Nat.le_refl _) (hx0.1.fc X0.warmed.alike) hx0.1.is (g := (mkF m 1 #[.val (.ref x), .val (.int (Int32.ofNat i))] [.ref x])) rfl (by rw [hml]; rfl) c1 (argsL := []) (rest := []) rfl rfl (by show 2 * 0 + 0 ≤ _; decide) (hb hbytes d1) (⟨rfl, hx0.2.2.1, hx.2.2.2.2.1.cd, s1.there X0.warmed.alike hh0, hz⟩)
  obtain ⟨rfl, q2⟩ := E2
  have hh2 := q2.trans hh0
  have hx2 := hx.mv X2.warmed.alike hh2
  obtain ⟨-, k1, k2⟩ | ⟨k0, -⟩ := hx.2.2.2.2.1
  · have c3 : Steps p.tables e below (s₁.setTop (entryFrame m #[.ref x, .int (Int32.ofNat i)] 2)) (T2.setTop (mkF m 8 #[.val (.ref x), .val (.int (Int32.ofNat i))] [.ref x])) := Steps.trans g2 (by
      refine XS.ifNo X2.here hexec rfl (hb hbytes d4) rfl (i0_eq_f (by decide)) ?_
      refine XS.aloadN X2.here hexec rfl (hb hbytes d7) rfl rfl ?_
      exact Steps.refl _)
    obtain ⟨T4, X4, q4, st4⟩ := X2.hget hexec hown (wk W (.fieldLink "java/lang/String" 9 "java/lang/String" "value" "[B")) hx2.2.1 (g := (mkF m 8 #[.val (.ref x), .val (.int (Int32.ofNat i))] [.ref x])) rfl (rest := []) rfl (hb hbytes d8)
    have hh4 := q4.trans hh2
    have c5 : Steps p.tables e below (s₁.setTop (entryFrame m #[.ref x, .int (Int32.ofNat i)] 2)) (T4.setTop (mkF m 12 #[.val (.ref x), .val (.int (Int32.ofNat i))] [.int (Int32.ofNat i), .ref t])) := (c3.trans (st4 _ (Steps.refl _))).trans (by
      refine XS.iloadN X4.here hexec rfl (hb hbytes d11) rfl ?_
      exact Steps.refl _)
    obtain ⟨v6, T6, X6, E6, g6⟩ := X4.callS hexec (LChA.law l t V i (lo8 (f i)) fm) hown (wks W (staticW "java/lang/String" 495 LChA.yN)) (wk W LChA.tab) (W := 0) (Nat.le_of_ble_eq_true rfl) (Nat.le_of_ble_eq_true rfl) (Nat.le_refl _) (Nat.le_refl _) (g := (mkF m 12 #[.val (.ref x), .val (.int (Int32.ofNat i))] [.int (Int32.ofNat i), .ref t])) rfl (by rw [hml]; rfl) c5 (argsL := [.ref t, .int (Int32.ofNat i)]) (rest := []) rfl rfl (by show 2 * 0 + 0 ≤ _; decide) (hb hbytes d12) (⟨rfl, hx.2.2.2.1.mv X4.warmed.alike hh4, (k2 i hi).1, s3.there X4.warmed.alike hh4, rf⟩)
    obtain ⟨rfl, q6⟩ := E6
    rw [chr8_lo8 hr.1 (k2 i hi).2] at g6
    exact ⟨T6, some (.int (f i)), _, _, _, X6, rfl, rfl, rfl, (fun h => by cases h), ⟨rfl, q6.trans hh4⟩, fun fs hl => Steps.trans g6 (X6.ireturnOut hexec hret (narrow_ch hr.1 hr.2) (Or.inr (Or.inr (Or.inr (Or.inl rfl)))) (hb hbytes d15) hl)⟩
  · exact absurd k0 (by decide)
theorem pays {l : Launch} {R : Room} {p : Program} {e : Env} {below : List Frame} {s : State} {sargs : Array Value} {len W : Nat} (x t : Addr) (V : Cell) (n : Nat) (f : Nat → Int32) (z : Int32) (fm : Value) (i : Nat) (htab : tab.before sargs s = true) (hfr : 4 ≤ R.frames) (hlo : W + 53 ≤ R.locals) :
    Back l R p e below s sargs yN len W (fun A₁ a₁ => A₁.cells + 0 ≤ R.cells ∧ A₁.slots + 0 ≤ R.slots ∧ P x t V n f z fm i a₁ A₁.U) (fun A₁ _ v₁ B₁ => E f i v₁ A₁.U B₁.U ∧ B₁.locs = A₁.locs ++ [] ∧ B₁.cells = A₁.cells + 0 ∧ B₁.slots = A₁.slots + 0) :=
  (law l x t V n f z fm i).pays htab hfr (by omega)
end ChN
end StrChars
namespace StrChars.Road
open Jvm Sem ClassFile Op Lib Jvm.Stand Jvm.Free Jvm.Free.XT
open Jvm.Lib.Cold (StaticIs)
/-- the words of String.charAt(int), the Latin-1 road alone -/
abbrev wordsChN : List Jvm.Cond := [.code ChN.yN ChN.yB 2 (some .char), .initialized ST, .fieldLink ST 9 ST "value" "[B", .fieldLink ST 38 ST "COMPACT_STRINGS" "Z", .fieldLink ST 15 ST "coder" "B", .code IsL.yN IsL.yB 1 (some .boolean), .methodLink ST 492 IsL.yN, .declares IsL.yN, .selects ST IsL.yN IsL.yN, .instanceMethod IsL.yN,
  .methodLink ST 495 LChA.yN, .static LChA.yN, .code LChA.yN LChA.yB 2 (some .char), .initialized "java/lang/StringLatin1", .methodLink "java/lang/StringLatin1" 9 JO.Str_checkIndex.yN, .static JO.Str_checkIndex.yN, .code JO.Str_checkIndex.yN JO.Str_checkIndex.yB 2 none,
  .fieldLink ST 1053 "jdk/internal/util/Preconditions" "SIOOBE_FORMATTER" "Ljava/util/function/BiFunction;", .methodLink ST 1059 JC.PreCheck.yN, .static JC.PreCheck.yN, .code JC.PreCheck.yN JC.PreCheck.yB 3 (some .int), .initialized "jdk/internal/util/Preconditions"]
theorem tabChN_of {a : Array Value} {s : State} (h : ∀ w ∈ wordsChN, w.before a s = true) : ChN.tab.before a s = true := by
  have hp : JC.PreCheck.tab.before a s = true := unparts (wk h (.code JC.PreCheck.yN JC.PreCheck.yB 3 (some .int))) (wks h (.initialized JC.PreCheck.yN.cls :: JC.PreCheck.site))
  have qk := consq hp h
  have hk : JO.Str_checkIndex.tab.before a s = true := unparts (wk qk (.code JO.Str_checkIndex.yN JO.Str_checkIndex.yB 2 none)) (wks qk (.initialized JO.Str_checkIndex.yN.cls :: JO.Str_checkIndex.site))
  have ql := consq hk h
  have hl : LChA.tab.before a s = true := unparts (wk ql (.code LChA.yN LChA.yB 2 (some .char))) (wks ql (.initialized LChA.yN.cls :: LChA.site))
  have hi : IsL.tab.before a s = true := unparts (wk h (.code IsL.yN IsL.yB 1 (some .boolean))) (wks h (.initialized IsL.yN.cls :: IsL.site))
  have q := consq hi (consq hl h)
  exact unparts (wk q (.code ChN.yN ChN.yB 2 (some .char))) (wks q (.initialized ChN.yN.cls :: ChN.site))
theorem movedChN {Z s : State} {a0 args : Array Value} (hZ : Z.Warmed39 s.vm) (hw : ∀ d ∈ wordsChN, d.before a0 Z = true) : ∀ d ∈ wordsChN, d.before args s = true := fun d hd => by
  have t : ∀ d ∈ wordsChN, (d.onTables && d.keepsFace) = true := by decide +kernel
  exact RoadKit.mv hZ (hw d hd) (t d hd)
/-- **charAt(i) OF A LATIN-1 STRING**, i < n: the char -/
theorem chN {p : Program} {l : Launch} {e : Env} {R : Room} {s : State} {args : Array Value} {below : List Frame} {len W : Nat} {Z : State} {a0 : Array Value} {h : Heap} (hZ : Z.Warmed39 s.vm) (hw : ∀ d ∈ wordsChN, d.before a0 Z = true) {kI : Nat} (wi : (Jvm.Cond.instantiable ST kI).before a0 Z = true)
    {x t : Addr} {kb : ClassId} {cs : List Int32} {N2 z : Int32} {vs : List Value} {fm : Value} {i : Nat} {j : Int32} (E : RoadKit.Exa Z h x ST) (V : RoadKit.Fld Z h x ST "value" "[B" (.ref t)) (C : RoadKit.Fld Z h x ST "coder" "B" (.int 0)) (K : RoadKit.Arv Z h t kb .byte N2 vs (.int 0)) (hc : CodA cs 0 N2 vs) (hb : ∀ c ∈ cs, ¬ c < 0 ∧ ¬ (65535 : Int32) < c)
    (S : RoadKit.Sta Z h ST "COMPACT_STRINGS" "Z" (.int z)) (hz : ¬ z = 0) (F : RoadKit.Sta Z h "jdk/internal/util/Preconditions" "SIOOBE_FORMATTER" "Ljava/util/function/BiFunction;" fm) (rf : fm.isRef = true) (l2 : cs.length ≤ 4000) (hi : i < cs.length) (hj : j = Int32.ofNat i) (hfr : 4 ≤ R.frames) (hlo : W + 53 ≤ R.locals) :
    Back l R p e below s args (⟨"java/lang/String", "charAt", "(I)C"⟩ : MethodName) len W (fun P a => a = #[.ref x, .int j] ∧ P.U.heap = h ∧ P.cells + 0 ≤ R.cells ∧ P.slots + 0 ≤ R.slots)
      (fun P _ v B => ∃ L, (v = some (.int (cs.getD i 0)) ∧ L = [] ∧ B.U.heap = h) ∧ B.locs = P.locs ++ L ∧ B.cells = P.cells + 0 ∧ B.slots = P.slots + 0) := by
  subst hj
  intro m meth c P g ig mk a X hg hsize hdg hW hn hp'
  obtain ⟨rfl, rfl, r1, r2⟩ := hp'
  have al : Z.vm.Alike P.U.vm := hZ.alike.trans X.warmed.alike
  obtain ⟨A, hx⟩ := txt_of wi al E V C K hc hb l2
  obtain ⟨v, B, X', ⟨⟨hv, hh⟩, hl, hk, hs⟩, st⟩ := ChN.pays x t A cs.length (fun j => cs.getD j 0) z fm i (tabChN_of (movedChN hZ hw)) hfr hlo m meth c P g ig mk _ X hg hsize hdg hW hn ⟨r1, r2, rfl, hx, hi, sta_is al S, hz, sta_is al F, rf⟩
  exact ⟨v, B, X', ⟨[], ⟨hv, rfl, hh⟩, hl, hk, hs⟩, st⟩
end StrChars.Road
end Jvm.Pilot.@@N@@
namespace Jvm.Pilot.@@N@@
open Jvm Jvm.ClassFile Sem Op Lib Jvm.Free Jvm.Stand Jvm.LawKit Jvm.RoadKit Bundle Jvm.Pilot.@@N@@.Jvm.D
abbrev si (x : Int32) : Slot := .val (.int x)
abbrev sr (x : Addr) : Slot := .val (.ref x)
theorem ww {a0 : Array Value} {Z : State} {d : Jvm.Cond} (hw : ∀ d ∈ tables_1, d.before a0 Z = true) (i : Nat) (h : tables_1[i]? = some d) : d.before a0 Z = true := hw _ (List.mem_of_getElem? h)
theorem mr0 {a b : Nat} (h : a = b) : a ≤ b := Nat.le_of_eq h
section Own
variable {p : Program} {l : Launch} {e : Env} {R : Room} {s : State} {m : MethodId} {args : Array Value} {below : List Frame} {meth : Method} {c : Code} {T : State} {locs : List Loc} {cells slots : Nat} {Z : State} {a0 : Array Value} {h : Heap}
/-- from S the run comes to an end that P speaks of -/
def Goes (tb : Tables) (e : Env) (below : List Frame) (P : State → Outcome → Prop) (S : State) : Prop := ∃ s₂ o, Steps tb e below S s₂ ∧ P s₂ o
theorem go {tb : Tables} {P : State → Outcome → Prop} {S S' : State} (st : ∀ t, Steps tb e below S' t → Steps tb e below S t) (h : Goes tb e below P S') : Goes tb e below P S := by
  obtain ⟨s₂, o, h1, h2⟩ := h
  exact ⟨s₂, o, st _ h1, h2⟩
/-- from S the run comes to the frame F, in a state that P speaks of -/
def Reach (tb : Tables) (e : Env) (below : List Frame) (F : JFrame) (P : State → Prop) (S : State) : Prop := ∃ T', P T' ∧ ∀ t, Steps tb e below (T'.setTop F) t → Steps tb e below S t
theorem goR {tb : Tables} {F : JFrame} {P : State → Prop} {S S' : State} (st : ∀ t, Steps tb e below S' t → Steps tb e below S t) (h : Reach tb e below F P S') : Reach tb e below F P S := by
  obtain ⟨T', h1, h2⟩ := h
  exact ⟨T', h1, fun t k => st t (h2 t k)⟩
def Same (X : Stand p l e R s m args below meth c T locs cells slots) (n0 : Nat) (h : Heap) : State → Prop := fun T' => ∃ locs', Stand p l e R s m args below meth c T' locs' cells slots ∧ Fr n0 locs' ∧ T'.heap = h
/-- the end of a body: it returned, and Q holds of the value, the heap, the written places -/
def EndP (s : State) (below : List Frame) (Q : Option Value → Heap → List Loc → Prop) (kc ks : Nat) (s₂ : State) (o : Outcome) : Prop :=
  s₂.status = .running ∧ Ended s₂ below o ∧ ∃ v L, o = .returned v ∧ Q v s₂.heap L ∧ FrameEnd s o s₂ L kc ks
variable {Q : Option Value → Heap → List Loc → Prop} {kc ks : Nat}
theorem finG {g : JFrame} (X : Stand p l e R s m args below meth c T locs cells slots) (hk : meth.locks = false) (v : Option Value) (hv : meth.sig.returnType = none → v = none)
    (st : ∀ fs, (∀ (f : JFrame) (acts : List Action), f.method = m → f.locked = none → f.entered = [] → (doReturn e (T.setTop f) acts v).1 = T.setFrames fs) → Steps p.tables e below (T.setTop g) (T.setFrames fs))
    (hc : cells ≤ kc) (hs : slots ≤ ks) (hQ : Q v T.heap locs) : Goes p.tables e below (EndP s below Q kc ks) (T.setTop g) := by
  obtain ⟨fs, hr, hrun, hended, hW, hsame⟩ := X.leave (v := v) hv hk
  exact ⟨_, _, st fs hr, hrun, hended, v, locs, rfl, hQ, ⟨_, rfl⟩, hW, hsame.mono hc hs⟩
theorem finV (X : Stand p l e R s m args below meth c T locs cells slots) (hx : p.tables.exec = Jvm.exec) (hk : meth.locks = false) (hret : meth.sig.returnType = none) {pc : Nat} {Ls : Array Slot} (hd : decode c.code pc = .ok (.return_, 1)) (hc : cells ≤ kc) (hs : slots ≤ ks) (hQ : Q none T.heap locs) :
    Goes p.tables e below (EndP s below Q kc ks) (T.setTop (mkF m pc Ls [])) := finG X hk none (fun _ => rfl) (fun _ hr => X.returnOut hx hret hd hr) hc hs hQ
theorem finI (X : Stand p l e R s m args below meth c T locs cells slots) (hx : p.tables.exec = Jvm.exec) (hk : meth.locks = false) (hret : meth.sig.returnType = some .int) {pc : Nat} {Ls : Array Slot} {z : Int32} {rest : List Value} (hd : decode c.code pc = .ok (.ireturn, 1)) (hc : cells ≤ kc) (hs : slots ≤ ks) (hQ : Q (some (.int z)) T.heap locs) :
    Goes p.tables e below (EndP s below Q kc ks) (T.setTop (mkF m pc Ls (.int z :: rest))) := finG X hk _ (fun q => by rw [hret] at q; cases q) (fun _ hr => retI X hx hret hd hr) hc hs hQ
theorem finN (X : Stand p l e R s m args below meth c T locs cells slots) (hx : p.tables.exec = Jvm.exec) (hk : meth.locks = false) {t : FieldType} (hret : meth.sig.returnType = some t) (ht : t = .boolean ∨ t = .byte ∨ t = .char ∨ t = .short) {pc : Nat} {Ls : Array Slot} {z : Int32} {rest : List Value} (hd : decode c.code pc = .ok (.ireturn, 1)) (hc : cells ≤ kc) (hs : slots ≤ ks) (hQ : Q (some (.int (nar t z))) T.heap locs) :
    Goes p.tables e below (EndP s below Q kc ks) (T.setTop (mkF m pc Ls (.int z :: rest))) := finG X hk _ (fun q => by rw [hret] at q; cases q) (fun _ hr => retN X hx hret ht hd hr) hc hs hQ
theorem finR (X : Stand p l e R s m args below meth c T locs cells slots) (hx : p.tables.exec = Jvm.exec) (hk : meth.locks = false) {t : FieldType} (hret : meth.sig.returnType = some t) (ht : t.isReference = true) {w : Value} (hw : w.isRef = true) {pc : Nat} {Ls : Array Slot} (hd : decode c.code pc = .ok (.areturn, 1)) (hc : cells ≤ kc) (hs : slots ≤ ks) (hQ : Q (some w) T.heap locs) :
    Goes p.tables e below (EndP s below Q kc ks) (T.setTop (mkF m pc Ls [w])) := finG X hk _ (fun q => by rw [hret] at q; cases q) (fun _ hr => X.areturnOut hx hw hret ht hd hr) hc hs hQ
theorem finJ (X : Stand p l e R s m args below meth c T locs cells slots) (hx : p.tables.exec = Jvm.exec) (hk : meth.locks = false) (hret : meth.sig.returnType = some .long) {pc : Nat} {Ls : Array Slot} {z : Int64} (hd : decode c.code pc = .ok (.lreturn, 1)) (hc : cells ≤ kc) (hs : slots ≤ ks) (hQ : Q (some (.long z)) T.heap locs) :
    Goes p.tables e below (EndP s below Q kc ks) (T.setTop (mkF m pc Ls [.long z])) := finG X hk _ (fun q => by rw [hret] at q; cases q) (fun _ hr => X.lreturnOut hx hret hd hr) hc hs hQ
theorem bodyOf {y : MethodName} {bytes : ByteArray} {maxL : Nat} {ret : Option FieldType} {ws : List Jvm.Cond} {rm : Room} {as' : Array Value} {Ls : Array Slot} {h0 : Heap}
    (pn : plainFor y = true) (ef : ∀ m, entryFrame m as' maxL = mkF m 0 Ls [])
    (body : ∀ (p : Program) (e : Env) (s : State) (m : MethodId) (below : List Frame) (meth : Method) (c : Code) (T : State), Stand p l e rm s m as' below meth c T [] 0 0 → p.tables.exec = Jvm.exec → c.code = bytes → c.maxLocals = maxL →
      s.vm.findClass y.cls = some m.cls → meth.name = y.name → meth.sig.returnType = ret → meth.locks = false → Z.Warmed39 s.vm → T.heap = h0 → Goes p.tables e below (EndP s below Q rm.cells rm.slots) (T.setTop (mkF m 0 Ls []))) :
    MetFree l y (head1 (Jvm.Cond.code y bytes maxL ret :: ws) rm) (fun a U => a = as' ∧ Z.Warmed39 U.vm ∧ U.heap = h0) (fun _ _ _ _ _ => True) (fun _ U o U' => ∃ v L, o = .returned v ∧ Q v U'.heap L ∧ FrameEnd U o U' L rm.cells rm.slots) := by
  refine MetFree.of_bodySF pn hisR ?_
  intro p e s m args below meth c s₁ Bd hml0 hP hK
  obtain ⟨rfl, hZ, hh⟩ := hP
  have e0 : s₁.heap = h0 := by rw [← hh, Bd.state]; rfl
  obtain ⟨s₂, o, st, hrun, hend, hq⟩ := body p e s m below meth c s₁ (Stand.of_body Bd) Bd.exec Bd.bytes hml0 (findClass_of_methodNamed Bd.named) (name_of_methodNamed Bd.named Bd.method).1 Bd.returns Bd.notSynchronized hZ e0
  exact ⟨s₂, o, castTop (ef m) st, hrun, hend, hq⟩
variable {y z : MethodName} {own C : String} {index W len : Nat} {bytes : ByteArray} {maxL : Nat} {ret : Option FieldType} {as' : Array Value} {argsL rest : List Value} {g : JFrame}
theorem callSt (X : Stand p l e R s m args below meth c T locs cells slots) (hx : p.tables.exec = Jvm.exec) (hZ : Z.Warmed39 s.vm) (hown : s.vm.findClass own = some m.cls)
    (w1 : (Jvm.Cond.methodLink own index y).before a0 Z = true) (w2 : (Jvm.Cond.static y).before a0 Z = true) (w3 : (Jvm.Cond.initialized y.cls).before a0 Z = true) (w4 : (Jvm.Cond.code y bytes maxL ret).before a0 Z = true)
    (hy : y.cls ≠ "java/lang/invoke/MethodHandle" ∧ y.cls ≠ "java/lang/invoke/VarHandle")
    (hB : Back l R p e below s args y 3 W (fun A a => a = argsL.toArray ∧ A.U.heap = h ∧ A.cells + kc ≤ R.cells ∧ A.slots + ks ≤ R.slots) (fun A _ v B => ∃ L, Q v B.U.heap L ∧ B.locs = A.locs ++ L ∧ B.cells = A.cells + kc ∧ B.slots = A.slots + ks))
    (hg : g.method = m) (hsize : g.locals.size = c.maxLocals) (hlen : ∀ sig, parseMethodDescriptor y.desc = some sig → argsL.length = sig.parameters.length) (hstack : g.stack = argsL.reverse ++ rest) (hW : 2 * g.monitorRoom + (rest.map fun v => v.category).sum ≤ W)
    (hd : decode c.code g.pc = .ok (.invokestatic index, 3)) (eT : T.heap = h) (hc : cells + kc ≤ R.cells) (hs : slots + ks ≤ R.slots) :
    ∃ v T' L, Stand p l e R s m args below meth c T' (locs ++ L) (cells + kc) (slots + ks) ∧ Q v T'.heap L ∧ ∀ t, Steps p.tables e below (T'.setTop { g with pc := g.pc + 3, stack := v.toList ++ rest }) t → Steps p.tables e below (T.setTop g) t := by
  obtain ⟨v, _, ⟨T1, L1, k1, n1⟩, -, X1, ⟨L, hQ, hl, hk, hn⟩, st⟩ := Jvm.LawKit.callS X hx hown (mvT hZ w1) (mvT hZ w2) (mvT hZ w3) (mvT hZ w4) hy hB hg hsize hlen hstack hW hd (fun _ _ => ⟨rfl, eT, hc, hs⟩)
  dsimp only [Pt.U, Pt.locs, Pt.cells, Pt.slots] at X1 hl hk hn st hQ
  subst hl hk hn
  exact ⟨v, T1, L, X1, hQ, st⟩
theorem callSp {a : Addr} (X : Stand p l e R s m args below meth c T locs cells slots) (hx : p.tables.exec = Jvm.exec) (hZ : Z.Warmed39 s.vm) (hy1 : y.name = "<init>") (hown : s.vm.findClass own = some m.cls)
    (w1 : (Jvm.Cond.methodLink own index y).before a0 Z = true) (w2 : (Jvm.Cond.instanceMethod y).before a0 Z = true) (w4 : (Jvm.Cond.code y bytes maxL none).before a0 Z = true)
    (hy : y.cls ≠ "java/lang/invoke/MethodHandle" ∧ y.cls ≠ "java/lang/invoke/VarHandle")
    (hB : Back l R p e below s args y 3 W (fun A b => b = (Value.ref a :: argsL).toArray ∧ A.U.heap = h ∧ A.cells + kc ≤ R.cells ∧ A.slots + ks ≤ R.slots) (fun A _ v B => ∃ L, Q v B.U.heap L ∧ B.locs = A.locs ++ L ∧ B.cells = A.cells + kc ∧ B.slots = A.slots + ks))
    (hg : g.method = m) (hsize : g.locals.size = c.maxLocals) (hlen : ∀ sig, parseMethodDescriptor y.desc = some sig → argsL.length = sig.parameters.length) (hstack : g.stack = argsL.reverse ++ .ref a :: rest) (hW : 2 * g.monitorRoom + (rest.map fun v => v.category).sum ≤ W)
    (hd : decode c.code g.pc = .ok (.invokespecial index, 3)) (eT : T.heap = h) (hc : cells + kc ≤ R.cells) (hs : slots + ks ≤ R.slots) :
    ∃ v T' L, Stand p l e R s m args below meth c T' (locs ++ L) (cells + kc) (slots + ks) ∧ Q v T'.heap L ∧ ∀ t, Steps p.tables e below (T'.setTop { g with pc := g.pc + 3, stack := v.toList ++ rest }) t → Steps p.tables e below (T.setTop g) t := by
  obtain ⟨v, _, ⟨T1, L1, k1, n1⟩, -, X1, ⟨L, hQ, hl, hk, hn⟩, st⟩ := X.specialBack hx hy1 hown (mvT hZ w1) (mvT hZ w2) (mvT hZ w4) hy hB hg hsize (Steps.refl _) hlen hstack hW hd (fun _ _ => ⟨rfl, eT, hc, hs⟩)
  dsimp only [Pt.U, Pt.locs, Pt.cells, Pt.slots] at X1 hl hk hn st hQ
  subst hl hk hn
  exact ⟨v, T1, L, X1, hQ, fun t k => st.trans k⟩
theorem callV {a : Addr} (X : Stand p l e R s m args below meth c T locs cells slots) (hx : p.tables.exec = Jvm.exec) (hZ : Z.Warmed39 s.vm) (hown : s.vm.findClass own = some m.cls)
    (w1 : (Jvm.Cond.methodLink own index y).before a0 Z = true) (w2 : (Jvm.Cond.declares y).before a0 Z = true) (nf : NotFace s y) (w3 : (Jvm.Cond.selects C y z).before a0 Z = true) (w4 : (Jvm.Cond.instanceMethod z).before a0 Z = true)
    (hy : y.cls ≠ "java/lang/invoke/MethodHandle" ∧ y.cls ≠ "java/lang/invoke/VarHandle")
    (hB : Back l R p e below s args z 3 W (fun A b => b = (Value.ref a :: argsL).toArray ∧ A.U.heap = h ∧ A.cells + kc ≤ R.cells ∧ A.slots + ks ≤ R.slots) (fun A _ v B => ∃ L, Q v B.U.heap L ∧ B.locs = A.locs ++ L ∧ B.cells = A.cells + kc ∧ B.slots = A.slots + ks))
    (E : Exa Z h a C) (hg : g.method = m) (hsize : g.locals.size = c.maxLocals) (hlen : ∀ sig, parseMethodDescriptor y.desc = some sig → argsL.length = sig.parameters.length) (hstack : g.stack = argsL.reverse ++ .ref a :: rest) (hW : 2 * g.monitorRoom + (rest.map fun v => v.category).sum ≤ W)
    (hd : decode c.code g.pc = .ok (.invokevirtual index, 3)) (eT : T.heap = h) (hc : cells + kc ≤ R.cells) (hs : slots + ks ≤ R.slots) :
    ∃ v T' L, Stand p l e R s m args below meth c T' (locs ++ L) (cells + kc) (slots + ks) ∧ Q v T'.heap L ∧ ∀ t, Steps p.tables e below (T'.setTop { g with pc := g.pc + 3, stack := v.toList ++ rest }) t → Steps p.tables e below (T.setTop g) t := by
  obtain ⟨cq, kq, qa, qb, qc⟩ := isOf hZ eT E
  obtain ⟨v, _, ⟨T1, L1, k1, n1⟩, -, X1, ⟨L, hQ, hl, hk, hn⟩, st⟩ := X.virtualBack hx hown (mvT hZ w1) (mvT hZ w2) nf (mvT hZ w3) (mvT hZ w4) hy hB qa qc hg hsize (Steps.refl _) hlen hstack hW hd (fun _ _ => ⟨rfl, eT, hc, hs⟩)
  dsimp only [Pt.U, Pt.locs, Pt.cells, Pt.slots] at X1 hl hk hn st hQ
  subst hl hk hn
  exact ⟨v, T1, L, X1, hQ, fun t k => st.trans k⟩
theorem nsRoot {O K : String} {n : Nat} (w : (Jvm.Cond.noSuperclass O).before a0 Z = true) (wk : (Jvm.Cond.instantiable K n).before a0 Z = true) (hn : O ≠ K) : NS Z O K := by
  obtain ⟨c, k, h1, h2, h3, -, -⟩ := Cond.noSuperclass_spec w
  obtain ⟨t, kt, g1, -⟩ := Cond.instantiable_spec wk
  have ne := ids_ne h1 g1 hn
  refine ⟨c, t, h1, g1, fun fuel => ?_⟩
  cases fuel with
  | zero => rfl
  | succ f => simp [Vm.isSubclassAux, ne, h2, h3]
theorem nsNo {C S K : String} {n : Nat} (w : (Jvm.Cond.superclass C S).before a0 Z = true) (wk : (Jvm.Cond.instantiable K n).before a0 Z = true) (n : NS Z C K) (hn : C ≠ K) : ∃ c t, Z.vm.findClass C = some c ∧ Z.vm.findClass K = some t ∧ Z.vm.assignable c t = false := by
  obtain ⟨c, t, h0, g0, n3⟩ := n
  obtain ⟨p, k, kp, h1, h2, h3, h4, h5, -, h7⟩ := Cond.superclass_spec h0 w
  obtain ⟨t', kt, g1, g2, g3, g4, -⟩ := Cond.instantiable_spec wk
  cases g0.symm.trans g1
  have g7 : kt.isInterface = false := (Bool.or_eq_false_iff.mp g4).1
  have ne := ids_ne h0 g0 hn
  refine ⟨c, t, h0, g0, ?_⟩
  show Z.vm.assignableAux (255 + 1) c t = false
  simp [Vm.assignableAux, ne, h2, g2, h5, g3, g7, Vm.isSubclass, n3]
theorem lsw {tb : Tables} [Ours tb] {target : State} {g : JFrame} (h : At T m c below) (hx : tb.exec = Jvm.exec) (hg : g.method = m) {dflt : Int} {pairs : Array (Int × Int)} {len : Nat} {pc0 pc' : Nat} (hpc : g.pc = pc0) (hd : decode c.code g.pc = .ok (.lookupswitch dflt pairs, len)) {i : Int32} {rest : List Value} (hs : g.stack = .int i :: rest)
    (hsrt : (pairs.toList.zip pairs.toList.tail).all (fun z => decide (z.1.1 < z.2.1)) = true) (ho : 0 ≤ (pc0 : Int) + lookupswitch.offset pairs.toList dflt i.toInt) (hp : ((pc0 : Int) + lookupswitch.offset pairs.toList dflt i.toInt).toNat = pc') (hr : Steps tb e below (T.setTop { g with pc := pc', stack := rest }) target) : Steps tb e below (T.setTop g) target := by
  subst hg hpc hp
  jvm_step h [h.top, hx, hd, hs, ho, lookupswitch.wp_chain]
  exact ⟨fun a b a1 b1 q => of_decide_eq_true (List.all_eq_true.mp hsrt _ q), hr⟩
theorem eqInt_v {t : Term} {n : Int32} (h : (Jvm.Cond.eq t (.int n)).value args s none s [] = some true) : t.eval args s none [] s = some (.int n) := by
  obtain ⟨x, y, hx, hy, k1, -⟩ := cmp_v (Or.inl h)
  have hy' : (Term.int n).eval args s none [] s = some (.int n) := Term.int_eval n
  have e : y = .int n := Option.some.inj (hy.symm.trans hy')
  subst e
  cases x <;> simp [Kin, Value.isRef] at k1
  rw [gotT (Cond.eq_ints hx hy') h] at hx
  exact hx
theorem putC (X : Stand p l e R s m args below meth c T locs cells slots) (hx : p.tables.exec = Jvm.exec) (hZ : Z.Warmed39 s.vm) (eT : T.heap = h) {b : Addr} {kB : ClassId} {nB : Int32} {vB : List Value} {dB : Value} (B : Arv Z h b kB .char nB vB dB) {j x : Int32} {i : Nat} (hn : nar .char x = x) (hj : ¬ j < 0 ∧ j < nB) (hi : j.toNatClampNeg = i) (hl : i < vB.length) (hg : g.method = m) (hs : g.stack = .int x :: .int j :: .ref b :: rest) (hd : decode c.code g.pc = .ok (.castore, 1)) :
    ∃ T' h', Stand p l e R s m args below meth c T' (locs ++ [⟨b, j.toNatClampNeg⟩]) cells slots ∧ T'.heap = h' ∧ Wr h h' b j.toNatClampNeg (.int x) ∧ Arv Z h' b kB .char nB (vB.set i (.int x)) dB ∧ ∀ t, Steps p.tables e below (T'.setTop { g with pc := g.pc + 1, stack := rest }) t → Steps p.tables e below (T.setTop g) t := by
  obtain ⟨cl, A, q1, S1, M1, H1, G1⟩ := B
  obtain ⟨T', h', X', e', W, st⟩ := stC X hx hZ eT A (inb_of S1 hj) hg hs hd
  rw [hn] at W
  exact ⟨T', h', X', e', W, Arv.set A q1 S1 M1 H1 G1 (by rw [← hn]; exact fits_nar_char _) W i hi hl, st⟩
theorem getC (X : Stand p l e R s m args below meth c T locs cells slots) (hx : p.tables.exec = Jvm.exec) (hZ : Z.Warmed39 s.vm) (eT : T.heap = h) {b : Addr} {kB : ClassId} {nB : Int32} {vB : List Value} {dB v : Value} (B : Arv Z h b kB .char nB vB dB) {j : Int32} (hj : ¬ j < 0 ∧ j < nB) (hv : vB.getD j.toNatClampNeg dB = v) (hg : g.method = m) (hs : g.stack = .int j :: .ref b :: rest) (hd : decode c.code g.pc = .ok (.caload, 1)) {t : State} (hr : Steps p.tables e below (T.setTop { g with pc := g.pc + 1, stack := v :: rest }) t) : Steps p.tables e below (T.setTop g) t := by
  obtain ⟨cl, A, q1, S1, M1, H1, G1⟩ := B
  have hin := inb_of S1 hj
  exact X.caload hx (j := j) (v := v) (by rw [eT]; exact A.1) (State.isArrayOf_alike hZ.alike A.2.1) A.2.2 hin (Has.at H1 hin hv) hg hs hd _ hr
theorem narc (x : Int32) : nar .char x.toUInt32.toUInt16.toUInt32.toInt32 = x.toUInt32.toUInt16.toUInt32.toInt32 := by
  have h1 := c_i2c x
  have h2 := c_i2c x.toUInt32.toUInt16.toUInt32.toInt32
  apply Int32.toInt_inj.mp
  show (x.toUInt32.toUInt16.toUInt32.toInt32).toUInt32.toUInt16.toUInt32.toInt32.toInt = _
  omega
end Own
end Jvm.Pilot.@@N@@
namespace Jvm.Pilot.@@N@@
open Jvm Jvm.ClassFile Sem Op Lib Jvm.Free Jvm.Stand Jvm.LawKit Jvm.RoadKit Bundle Jvm.Pilot.@@N@@.Jvm.D
theorem allI {P : Int32 → Prop} {y : Int32} {L : List Int32} (q : P y) (r : ∀ x ∈ L, P x) : ∀ x ∈ y :: L, P x := fun x z => (List.mem_cons.mp z).elim (fun u => u ▸ q) (r x)
theorem own_sub {L : List Jvm.Cond} {a0 : Array Value} {Z : State} (hs : ∀ d ∈ L, d ∈ tables_1) (hw : ∀ d ∈ tables_1, d.before a0 Z = true) : ∀ d ∈ L, d.before a0 Z = true := fun d hd => hw d (hs d hd)
set_option maxRecDepth 65536 in
theorem StrChars_wordsLen : ∀ d ∈ StrChars.Road.wordsLen, d ∈ tables_1 := by decide +kernel
set_option maxRecDepth 65536 in
theorem StrChars_wordsChN : ∀ d ∈ StrChars.Road.wordsChN, d ∈ tables_1 := by decide +kernel
end Jvm.Pilot.@@N@@
namespace Jvm.Pilot.@@N@@
open Jvm Jvm.ClassFile Sem Op Lib Jvm.Free Jvm.Stand Jvm.LawKit Jvm.RoadKit Bundle Jvm.Pilot.@@N@@.Jvm.D
section OwnW
variable {p : Program} {l : Launch} {e : Env} {R : Room} {s : State} {vm0 : Vm} {k0 : Nat} {m : MethodId} {args : Array Value} {below : List Frame} {meth : Method} {c : Code} {T : State} {locs : List Loc} {cells slots : Nat} {Z : State} {a0 : Array Value} {h : Heap} {EL : List (String × Nat)}
/-- the end of a body that may intern -/
def EndW (Z : State) (EL : List (String × Nat)) (s : State) (below : List Frame) (Q : Option Value → Heap → List Loc → Prop) (kc ks : Nat) (s₂ : State) (o : Outcome) : Prop :=
  s₂.status = .running ∧ Ended s₂ below o ∧ ∃ v L, o = .returned v ∧ Q v s₂.heap L ∧ CHr Z EL s.vm s.heap s₂.vm s₂.heap ∧ ReturnedEndW s o s₂ L kc ks
variable {Q : Option Value → Heap → List Loc → Prop} {kc ks : Nat}
theorem finGW {g : JFrame} (X : Stand p l e R (s.setVm vm0) m args below meth c T locs cells slots) (hk : meth.locks = false) (hS : s.Since vm0 k0) (hkS : k0 ≤ h.size) (hZ : Z.Warmed39 vm0) (hEL : EW Z a0 EL) (hC : CHr Z EL s.vm s.heap vm0 h) (eT : T.heap = h) (v : Option Value) (hv : meth.sig.returnType = none → v = none)
    (st : ∀ fs, (∀ (f : JFrame) (acts : List Action), f.method = m → f.locked = none → f.entered = [] → (doReturn e (T.setTop f) acts v).1 = T.setFrames fs) → Steps p.tables e below (T.setTop g) (T.setFrames fs))
    (hc : cells ≤ kc) (hs : slots ≤ ks) (hQ : Q v h locs) : Goes p.tables e below (EndW Z EL s below Q kc ks) (T.setTop g) := by
  subst eT
  obtain ⟨fs, hr, hrun, hended, hW⟩ := X.leaveW hS hkS (v := v) hv hk
  have q : CHr Z EL s.vm s.heap T.vm T.heap := hC.trans (CHv.at X hZ hEL hC.1)
  exact ⟨_, _, st fs hr, hrun, hended, v, locs, rfl, hQ, q, hW.1, hW.2.1, hW.2.2.1, hW.2.2.2.mono hc hs⟩
theorem finVW (X : Stand p l e R (s.setVm vm0) m args below meth c T locs cells slots) (hx : p.tables.exec = Jvm.exec) (hk : meth.locks = false) (hret : meth.sig.returnType = none) (hS : s.Since vm0 k0) (hkS : k0 ≤ h.size) (hZ : Z.Warmed39 vm0) (hEL : EW Z a0 EL) (hC : CHr Z EL s.vm s.heap vm0 h) (eT : T.heap = h) {pc : Nat} {Ls : Array Slot} (hd : decode c.code pc = .ok (.return_, 1)) (hc : cells ≤ kc) (hs : slots ≤ ks) (hQ : Q none h locs) :
    Goes p.tables e below (EndW Z EL s below Q kc ks) (T.setTop (mkF m pc Ls [])) := finGW X hk hS hkS hZ hEL hC eT none (fun _ => rfl) (fun _ hr => X.returnOut hx hret hd hr) hc hs hQ
theorem finIW (X : Stand p l e R (s.setVm vm0) m args below meth c T locs cells slots) (hx : p.tables.exec = Jvm.exec) (hk : meth.locks = false) (hret : meth.sig.returnType = some .int) (hS : s.Since vm0 k0) (hkS : k0 ≤ h.size) (hZ : Z.Warmed39 vm0) (hEL : EW Z a0 EL) (hC : CHr Z EL s.vm s.heap vm0 h) (eT : T.heap = h) {pc : Nat} {Ls : Array Slot} {z : Int32} {rest : List Value} (hd : decode c.code pc = .ok (.ireturn, 1)) (hc : cells ≤ kc) (hs : slots ≤ ks) (hQ : Q (some (.int z)) h locs) :
    Goes p.tables e below (EndW Z EL s below Q kc ks) (T.setTop (mkF m pc Ls (.int z :: rest))) := finGW X hk hS hkS hZ hEL hC eT _ (fun q => by rw [hret] at q; cases q) (fun _ hr => retI X hx hret hd hr) hc hs hQ
theorem finNW (X : Stand p l e R (s.setVm vm0) m args below meth c T locs cells slots) (hx : p.tables.exec = Jvm.exec) (hk : meth.locks = false) {t : FieldType} (hret : meth.sig.returnType = some t) (ht : t = .boolean ∨ t = .byte ∨ t = .char ∨ t = .short) (hS : s.Since vm0 k0) (hkS : k0 ≤ h.size) (hZ : Z.Warmed39 vm0) (hEL : EW Z a0 EL) (hC : CHr Z EL s.vm s.heap vm0 h) (eT : T.heap = h) {pc : Nat} {Ls : Array Slot} {z : Int32} {rest : List Value} (hd : decode c.code pc = .ok (.ireturn, 1)) (hc : cells ≤ kc) (hs : slots ≤ ks) (hQ : Q (some (.int (nar t z))) h locs) :
    Goes p.tables e below (EndW Z EL s below Q kc ks) (T.setTop (mkF m pc Ls (.int z :: rest))) := finGW X hk hS hkS hZ hEL hC eT _ (fun q => by rw [hret] at q; cases q) (fun _ hr => retN X hx hret ht hd hr) hc hs hQ
theorem finRW (X : Stand p l e R (s.setVm vm0) m args below meth c T locs cells slots) (hx : p.tables.exec = Jvm.exec) (hk : meth.locks = false) {t : FieldType} (hret : meth.sig.returnType = some t) (ht : t.isReference = true) {w : Value} (hw : w.isRef = true) (hS : s.Since vm0 k0) (hkS : k0 ≤ h.size) (hZ : Z.Warmed39 vm0) (hEL : EW Z a0 EL) (hC : CHr Z EL s.vm s.heap vm0 h) (eT : T.heap = h) {pc : Nat} {Ls : Array Slot} (hd : decode c.code pc = .ok (.areturn, 1)) (hc : cells ≤ kc) (hs : slots ≤ ks) (hQ : Q (some w) h locs) :
    Goes p.tables e below (EndW Z EL s below Q kc ks) (T.setTop (mkF m pc Ls [w])) := finGW X hk hS hkS hZ hEL hC eT _ (fun q => by rw [hret] at q; cases q) (fun _ hr => X.areturnOut hx hw hret ht hd hr) hc hs hQ
theorem bodyOfW {xs : List Addr} {y : MethodName} {bytes : ByteArray} {maxL : Nat} {ret : Option FieldType} {ws : List Jvm.Cond} {rm : Room} {as' : Array Value} {Ls : Array Slot} {h0 : Heap}
    (pn : plainFor y = true) (ef : ∀ m, entryFrame m as' maxL = mkF m 0 Ls [])
    (body : ∀ (p : Program) (e : Env) (s : State) (m : MethodId) (below : List Frame) (meth : Method) (c : Code) (T : State), Stand p l e rm (s.setVm s.vm) m as' below meth c T [] 0 0 → p.tables.exec = Jvm.exec → c.code = bytes → c.maxLocals = maxL →
      s.vm.findClass y.cls = some m.cls → meth.name = y.name → meth.sig.returnType = ret → meth.locks = false → Z.Warmed39 s.vm → T.heap = h0 → s.Since s.vm h0.size → CHr Z EL s.vm s.heap s.vm h0 → (∀ x ∈ xs, Safe Z EL s.vm h0 x) → Goes p.tables e below (EndW Z EL s below Q rm.cells rm.slots) (T.setTop (mkF m 0 Ls []))) :
    MetFree l y (head1 (Jvm.Cond.code y bytes maxL ret :: ws) rm) (fun a U => a = as' ∧ Z.Warmed39 U.vm ∧ U.heap = h0 ∧ CHv Z EL U.vm h0 ∧ ∀ x ∈ xs, Safe Z EL U.vm h0 x) (fun _ _ _ _ _ => True) (fun _ U o U' => ∃ v L, o = .returned v ∧ Q v U'.heap L ∧ CHr Z EL U.vm U.heap U'.vm U'.heap ∧ ReturnedEndW U o U' L rm.cells rm.slots) := by
  refine MetFree.of_bodySF pn hisR ?_
  intro p e s m args below meth c s₁ Bd hml0 hP hK
  obtain ⟨rfl, hZ, hh, hH, hsf⟩ := hP
  have e0 : s₁.heap = h0 := by rw [← hh, Bd.state]; rfl
  have hC : CHr Z EL s.vm s.heap s.vm h0 := by rw [hh]; exact CHr.refl hH
  obtain ⟨s₂, o, st, hrun, hend, hq⟩ := body p e s m below meth c s₁ (Stand.of_body Bd) Bd.exec Bd.bytes hml0 (findClass_of_methodNamed Bd.named) (name_of_methodNamed Bd.named Bd.method).1 Bd.returns Bd.notSynchronized hZ e0 ((State.WarmedH.refl s).since _) hC hsf
  exact ⟨s₂, o, castTop (ef m) st, hrun, hend, hq⟩
variable {y z : MethodName} {own C : String} {index W len : Nat} {bytes : ByteArray} {maxL : Nat} {ret : Option FieldType} {as' : Array Value} {argsL rest : List Value} {g : JFrame}
/-- what pays a call of a body that may intern; xs: cells that no booked String has -/
theorem backW {rm : Room} {xs : List Addr}
    (hM : MetFree l y (head1 [Jvm.Cond.code y bytes maxL ret] rm) (fun a U => a = as' ∧ Z.Warmed39 U.vm ∧ U.heap = h ∧ CHv Z EL U.vm h ∧ ∀ x ∈ xs, Safe Z EL U.vm h x) (fun _ _ _ _ _ => True) (fun _ U o U' => ∃ v L, o = .returned v ∧ Q v U'.heap L ∧ CHr Z EL U.vm U.heap U'.vm U'.heap ∧ ReturnedEndW U o U' L rm.cells rm.slots))
    (hZ : Z.Warmed39 vm0) (wc : (Jvm.Cond.code y bytes maxL ret).before a0 Z = true) (wz : (Jvm.Cond.initialized y.cls).before a0 Z = true) (hf : rm.frames + 1 ≤ R.frames) (hl : W + (maxL + 11) + rm.locals ≤ R.locals) (hEL : EW Z a0 EL) (H : CHv Z EL vm0 h) (hsf : ∀ x ∈ xs, Safe Z EL vm0 h x ∧ x < h.size) :
    BackS l R p e below (s.setVm vm0) args y len W (fun A a => a = as' ∧ A.U.heap = h ∧ A.cells + rm.cells ≤ R.cells ∧ A.slots + rm.slots ≤ R.slots)
      (fun A _ v B => ∃ L, Q v B.U.heap L ∧ B.locs = A.locs ++ L ∧ B.cells = A.cells + rm.cells ∧ B.slots = A.slots + rm.slots ∧ CHr Z EL vm0 h B.U.vm B.U.heap) := by
  refine BackS.of_freeW (bytes := bytes) (maxL := maxL) (ret := ret) (E := fun _ first o t L k n => k = rm.cells ∧ n = rm.slots ∧ (∃ v, o = .returned v ∧ Q v t.heap L) ∧ CHr Z EL first.vm first.heap t.vm t.heap) hM hf hl ?_ ?_ (fun _ _ _ _ _ _ _ _ _ => trivial) ?_ ?_
  · intro m meth c A a Y hp
    have hU : Z.Warmed39 A.U.vm := wtrans (s := s.setVm vm0) hZ Y.warmed
    exact ⟨by show (Jvm.Cond.and _ .tt).before a A.U = true; rw [Cond.before_and, mv hU wc]; rfl, mv hU wc, mv hU wz, hp.2.2.1, hp.2.2.2⟩
  · intro m meth c A a g mk Y hp
    have hC := CHv.at Y hZ hEL H
    exact ⟨hp.1, wtrans (s := s.setVm vm0) hZ Y.warmed, hp.2.1, hC.1, fun x hx => hC.safe (hsf x hx).2 (hsf x hx).1⟩
  · rintro a first o t ⟨v, L, h1, h2, h3, h4⟩
    exact ⟨L, _, _, h4, rfl, rfl, ⟨v, h1, h2⟩, h3⟩
  · rintro m meth c A a g mk v t L k n Y hp _ _ ⟨e1, e2, ⟨v', e3, e4⟩, e5⟩
    cases e3
    subst e1 e2
    refine ⟨L, e4, rfl, rfl, rfl, (CHv.at Y hZ hEL H).trans ?_⟩
    rw [← hp.2.1]; exact e5
theorem callStW (X : Stand p l e R (s.setVm vm0) m args below meth c T locs cells slots) (hx : p.tables.exec = Jvm.exec) (hZ : Z.Warmed39 vm0) (hown : vm0.findClass own = some m.cls)
    (w1 : (Jvm.Cond.methodLink own index y).before a0 Z = true) (w2 : (Jvm.Cond.static y).before a0 Z = true) (w3 : (Jvm.Cond.initialized y.cls).before a0 Z = true) (w4 : (Jvm.Cond.code y bytes maxL ret).before a0 Z = true)
    (hy : y.cls ≠ "java/lang/invoke/MethodHandle" ∧ y.cls ≠ "java/lang/invoke/VarHandle")
    (hB : BackS l R p e below (s.setVm vm0) args y 3 W (fun A a => a = argsL.toArray ∧ A.U.heap = h ∧ A.cells + kc ≤ R.cells ∧ A.slots + ks ≤ R.slots) (fun A _ v B => ∃ L, Q v B.U.heap L ∧ B.locs = A.locs ++ L ∧ B.cells = A.cells + kc ∧ B.slots = A.slots + ks ∧ CHr Z EL vm0 h B.U.vm B.U.heap))
    (hg : g.method = m) (hsize : g.locals.size = c.maxLocals) (hlen : ∀ sig, parseMethodDescriptor y.desc = some sig → argsL.length = sig.parameters.length) (hstack : g.stack = argsL.reverse ++ rest) (hW : 2 * g.monitorRoom + (rest.map fun v => v.category).sum ≤ W)
    (hd : decode c.code g.pc = .ok (.invokestatic index, 3)) (eT : T.heap = h) (hc : cells + kc ≤ R.cells) (hs : slots + ks ≤ R.slots) (hS : s.Since vm0 k0) (hkS : k0 ≤ h.size) :
    ∃ v T' L, Stand p l e R (s.setVm T'.vm) m args below meth c T' (locs ++ L) (cells + kc) (slots + ks) ∧ Q v T'.heap L ∧ s.Since T'.vm T'.heap.size ∧ Z.Warmed39 T'.vm ∧ T'.vm.findClass own = some m.cls ∧ CHr Z EL vm0 h T'.vm T'.heap ∧ ∀ t, Steps p.tables e below (T'.setTop { g with pc := g.pc + 3, stack := v.toList ++ rest }) t → Steps p.tables e below (T.setTop g) t := by
  obtain ⟨v, _, ⟨T1, L1, k1, n1⟩, -, X1, h2, hgr, ⟨L, hQ, hl, hk, hn, hC⟩, st⟩ := callSS X hx (s := s.setVm vm0) hown (mvT (s := s.setVm vm0) hZ w1) (mvT (s := s.setVm vm0) hZ w2) (mvT (s := s.setVm vm0) hZ w3) (mvT (s := s.setVm vm0) hZ w4) hy hB hg hsize hlen hstack hW hd (fun _ _ => ⟨rfl, eT, hc, hs⟩)
  dsimp only [Pt.U, Pt.locs, Pt.cells, Pt.slots] at X1 hl hk hn st hQ h2 hgr hC
  subst hl hk hn
  obtain ⟨X2, hS2, hZ2, hown2⟩ := rebS hS hkS X1 h2 (by rw [← eT]; exact hgr) hZ hown
  exact ⟨v, T1, L, X2, hQ, hS2, hZ2, hown2, hC, fun t k => st.trans k⟩
theorem callSpW {a : Addr} (X : Stand p l e R (s.setVm vm0) m args below meth c T locs cells slots) (hx : p.tables.exec = Jvm.exec) (hZ : Z.Warmed39 vm0) (hy1 : y.name = "<init>") (hown : vm0.findClass own = some m.cls)
    (w1 : (Jvm.Cond.methodLink own index y).before a0 Z = true) (w2 : (Jvm.Cond.instanceMethod y).before a0 Z = true) (w4 : (Jvm.Cond.code y bytes maxL none).before a0 Z = true)
    (hy : y.cls ≠ "java/lang/invoke/MethodHandle" ∧ y.cls ≠ "java/lang/invoke/VarHandle")
    (hB : BackS l R p e below (s.setVm vm0) args y 3 W (fun A b => b = (Value.ref a :: argsL).toArray ∧ A.U.heap = h ∧ A.cells + kc ≤ R.cells ∧ A.slots + ks ≤ R.slots) (fun A _ v B => ∃ L, Q v B.U.heap L ∧ B.locs = A.locs ++ L ∧ B.cells = A.cells + kc ∧ B.slots = A.slots + ks ∧ CHr Z EL vm0 h B.U.vm B.U.heap))
    (hg : g.method = m) (hsize : g.locals.size = c.maxLocals) (hlen : ∀ sig, parseMethodDescriptor y.desc = some sig → argsL.length = sig.parameters.length) (hstack : g.stack = argsL.reverse ++ .ref a :: rest) (hW : 2 * g.monitorRoom + (rest.map fun v => v.category).sum ≤ W)
    (hd : decode c.code g.pc = .ok (.invokespecial index, 3)) (eT : T.heap = h) (hc : cells + kc ≤ R.cells) (hs : slots + ks ≤ R.slots) (hS : s.Since vm0 k0) (hkS : k0 ≤ h.size) :
    ∃ v T' L, Stand p l e R (s.setVm T'.vm) m args below meth c T' (locs ++ L) (cells + kc) (slots + ks) ∧ Q v T'.heap L ∧ s.Since T'.vm T'.heap.size ∧ Z.Warmed39 T'.vm ∧ T'.vm.findClass own = some m.cls ∧ CHr Z EL vm0 h T'.vm T'.heap ∧ ∀ t, Steps p.tables e below (T'.setTop { g with pc := g.pc + 3, stack := v.toList ++ rest }) t → Steps p.tables e below (T.setTop g) t := by
  obtain ⟨v, _, ⟨T1, L1, k1, n1⟩, -, X1, h2, hgr, ⟨L, hQ, hl, hk, hn, hC⟩, st⟩ := X.specialBackS hx hy1 hown (mvT (s := s.setVm vm0) hZ w1) (mvT (s := s.setVm vm0) hZ w2) (mvT (s := s.setVm vm0) hZ w4) hy hB hg hsize (Steps.refl _) hlen hstack hW hd (fun _ _ => ⟨rfl, eT, hc, hs⟩)
  dsimp only [Pt.U, Pt.locs, Pt.cells, Pt.slots] at X1 hl hk hn st hQ h2 hgr hC
  subst hl hk hn
  obtain ⟨X2, hS2, hZ2, hown2⟩ := rebS hS hkS X1 h2 (by rw [← eT]; exact hgr) hZ hown
  exact ⟨v, T1, L, X2, hQ, hS2, hZ2, hown2, hC, fun t k => st.trans k⟩
theorem callVW {a : Addr} (X : Stand p l e R (s.setVm vm0) m args below meth c T locs cells slots) (hx : p.tables.exec = Jvm.exec) (hZ : Z.Warmed39 vm0) (hown : vm0.findClass own = some m.cls)
    (w1 : (Jvm.Cond.methodLink own index y).before a0 Z = true) (w2 : (Jvm.Cond.declares y).before a0 Z = true) (nf : NotFace (s.setVm vm0) y) (w3 : (Jvm.Cond.selects C y z).before a0 Z = true) (w4 : (Jvm.Cond.instanceMethod z).before a0 Z = true)
    (hy : y.cls ≠ "java/lang/invoke/MethodHandle" ∧ y.cls ≠ "java/lang/invoke/VarHandle")
    (hB : BackS l R p e below (s.setVm vm0) args z 3 W (fun A b => b = (Value.ref a :: argsL).toArray ∧ A.U.heap = h ∧ A.cells + kc ≤ R.cells ∧ A.slots + ks ≤ R.slots) (fun A _ v B => ∃ L, Q v B.U.heap L ∧ B.locs = A.locs ++ L ∧ B.cells = A.cells + kc ∧ B.slots = A.slots + ks ∧ CHr Z EL vm0 h B.U.vm B.U.heap))
    (E : Exa Z h a C) (hg : g.method = m) (hsize : g.locals.size = c.maxLocals) (hlen : ∀ sig, parseMethodDescriptor y.desc = some sig → argsL.length = sig.parameters.length) (hstack : g.stack = argsL.reverse ++ .ref a :: rest) (hW : 2 * g.monitorRoom + (rest.map fun v => v.category).sum ≤ W)
    (hd : decode c.code g.pc = .ok (.invokevirtual index, 3)) (eT : T.heap = h) (hc : cells + kc ≤ R.cells) (hs : slots + ks ≤ R.slots) (hS : s.Since vm0 k0) (hkS : k0 ≤ h.size) :
    ∃ v T' L, Stand p l e R (s.setVm T'.vm) m args below meth c T' (locs ++ L) (cells + kc) (slots + ks) ∧ Q v T'.heap L ∧ s.Since T'.vm T'.heap.size ∧ Z.Warmed39 T'.vm ∧ T'.vm.findClass own = some m.cls ∧ CHr Z EL vm0 h T'.vm T'.heap ∧ ∀ t, Steps p.tables e below (T'.setTop { g with pc := g.pc + 3, stack := v.toList ++ rest }) t → Steps p.tables e below (T.setTop g) t := by
  obtain ⟨cq, kq, qa, qb, qc⟩ := isOf (s := s.setVm vm0) hZ eT E
  obtain ⟨v, _, ⟨T1, L1, k1, n1⟩, -, X1, h2, hgr, ⟨L, hQ, hl, hk, hn, hC⟩, st⟩ := X.virtualBackS hx hown (mvT (s := s.setVm vm0) hZ w1) (mvT (s := s.setVm vm0) hZ w2) nf (mvT (s := s.setVm vm0) hZ w3) (mvT (s := s.setVm vm0) hZ w4) hy hB qa qc hg hsize (Steps.refl _) hlen hstack hW hd (fun _ _ => ⟨rfl, eT, hc, hs⟩)
  dsimp only [Pt.U, Pt.locs, Pt.cells, Pt.slots] at X1 hl hk hn st hQ h2 hgr hC
  subst hl hk hn
  obtain ⟨X2, hS2, hZ2, hown2⟩ := rebS hS hkS X1 h2 (by rw [← eT]; exact hgr) hZ hown
  exact ⟨v, T1, L, X2, hQ, hS2, hZ2, hown2, hC, fun t k => st.trans k⟩
theorem safeArv {vm : Vm} {x : Addr} {k : ClassId} {ty : FieldType} {n : Int32} {vs : List Value} {d : Value} (hal : Z.vm.Alike vm) (V : Arv Z h x k ty n vs d) (ht : ty ≠ .byte) : Safe Z EL vm h x := by
  obtain ⟨_, A, -⟩ := V
  exact Safe.arr hal A ht
end OwnW
end Jvm.Pilot.@@N@@
namespace Jvm.Pilot.@@N@@
open Jvm Jvm.ClassFile Sem Op Lib Jvm.Free Jvm.Stand Jvm.LawKit Jvm.RoadKit Bundle Jvm.Pilot.@@N@@.Jvm.D
/-- x is a String whose bytes, at t, spell the chars cs by the coder cd -/
def Str (Z : State) (h : Heap) (x t : Addr) (cd : Int32) (cs : List Int32) : Prop := ∃ (kb : ClassId) (N2 : Int32) (vs : List Value), Exa Z h x "java/lang/String" ∧ Fld Z h x "java/lang/String" "value" "[B" (.ref t) ∧ Fld Z h x "java/lang/String" "coder" "B" (.int cd) ∧ Arv Z h t kb .byte N2 vs (.int (0 : Int32)) ∧ StrChars.Road.CodA cs cd N2 vs ∧ (∀ c ∈ cs, ¬ c < 0 ∧ ¬ (65535 : Int32) < c) ∧ cs.length ≤ 4000
theorem own_codOf {cs : List Int32} {n : Nat} (hn : cs.length = n) (hb : ∀ c ∈ cs, ¬ (255 : Int32) < c) : StrChars.Road.CodA cs 0 (Int32.ofNat n) ((cs.map StrChars.lo8).map Value.int) := Or.inl ⟨rfl, by rw [hn], by simp [List.map_map, Function.comp_def], hb⟩
section StrF
variable {Z : State} {h h' : Heap} {x t a : Addr} {cd : Int32} {cs : List Int32} {sl : Nat} {v : Value} {ws : List Addr}
theorem Str.exa (F : Str Z h x t cd cs) : Exa Z h x "java/lang/String" := by obtain ⟨_, _, _, q, -⟩ := F; exact q
theorem Str.val (F : Str Z h x t cd cs) : Fld Z h x "java/lang/String" "value" "[B" (.ref t) := by obtain ⟨_, _, _, -, q, -⟩ := F; exact q
theorem Str.cod (F : Str Z h x t cd cs) : Fld Z h x "java/lang/String" "coder" "B" (.int cd) := by obtain ⟨_, _, _, -, -, q, -⟩ := F; exact q
theorem Str.lt1 (F : Str Z h x t cd cs) : x < h.size := F.exa.lt
theorem Str.lt2 (F : Str Z h x t cd cs) : t < h.size := by obtain ⟨_, _, _, -, -, -, q, -⟩ := F; exact q.lt
theorem Str.ext (F : Str Z h x t cd cs) (E : Ext h h') : Str Z h' x t cd cs := by obtain ⟨k, n, vs, a1, a2, a3, a4, r⟩ := F; exact ⟨k, n, vs, a1.ext E, a2.ext E, a3.ext E, a4.ext E, r⟩
theorem Str.keep (F : Str Z h x t cd cs) (K : Keep h h' ws) (q1 : x ∉ ws) (q2 : t ∉ ws) : Str Z h' x t cd cs := by obtain ⟨k, n, vs, a1, a2, a3, a4, r⟩ := F; exact ⟨k, n, vs, a1.keep K, a2.keep K q1, a3.keep K q1, a4.keep K q2, r⟩
theorem Str.wr (F : Str Z h x t cd cs) (W : Wr h h' a sl v) (q1 : x ≠ a) (q2 : t ≠ a) : Str Z h' x t cd cs := by obtain ⟨k, n, vs, a1, a2, a3, a4, r⟩ := F; exact ⟨k, n, vs, a1.wr W, Fld.other W a2 (Or.inl q1), Fld.other W a3 (Or.inl q1), a4.other W q2, r⟩
theorem Str.ne1 {b : Addr} {C : String} (F : Str Z h x t cd cs) (E : Exa Z h b C) (hC : "java/lang/String" ≠ C) : x ≠ b := F.exa.ne E hC
theorem Str.ne2 {b : Addr} {C : String} {n : Nat} {a0 : Array Value} (F : Str Z h x t cd cs) (E : Exa Z h b C) (w : (Jvm.Cond.instantiable C n).before a0 Z = true) : t ≠ b := by obtain ⟨_, _, _, -, -, -, q, -⟩ := F; exact Ne.symm (E.neArv q w)
end StrF
theorem up16 (cs : List Int32) (h : ∀ c ∈ cs, ¬ c < 0 ∧ ¬ (255 : Int32) < c) : ∀ c ∈ cs, ¬ c < 0 ∧ ¬ (65535 : Int32) < c := fun c hc => ⟨(h c hc).1, fun q => (h c hc).2 (by rw [Int32.lt_iff_toInt_lt] at q ⊢; have e1 : (65535 : Int32).toInt = 65535 := rfl; have e2 : (255 : Int32).toInt = 255 := rfl; omega)⟩
theorem oj_lt {i n : Nat} (h : i < n) (hn : n ≤ 8000) : Int32.ofNat i < Int32.ofNat n := (Int32.ofNat_lt_ofNat (by omega) (by omega)).mpr h
theorem oj_nlt {i n : Nat} (h : ¬ i < n) (hi : i ≤ 8000) (hn : n ≤ 8000) : ¬ Int32.ofNat i < Int32.ofNat n := fun q => h ((Int32.ofNat_lt_ofNat (by omega) (by omega)).mp q)
theorem oj_nn {n : Nat} (hn : n ≤ 8000) : ¬ Int32.ofNat n < 0 := Int32.ofNat_not_neg (by omega)
theorem oj_n {n : Nat} (hn : n ≤ 8000) : (Int32.ofNat n).toNatClampNeg = n := by
  rw [Int32.toNatClampNeg, Int32.toInt_ofNat_of_lt (by omega)]; rfl
theorem oj_inj {i n : Nat} (hi : i ≤ 8000) (hn : n ≤ 8000) (h : Int32.ofNat i = Int32.ofNat n) : i = n := by
  have := congrArg Int32.toNatClampNeg h
  rwa [oj_n hi, oj_n hn] at this
theorem oj_one (i : Nat) : Int32.ofNat i + (1 : Int32) = Int32.ofNat (i + 1) := (Int32.ofNat_add i 1).symm
theorem oj_in {c : Cell} {n i : Nat} {z : Int32} (S : c.slots.size = z.toNatClampNeg) (hz : z = Int32.ofNat n) (h : i < n) (hn : n ≤ 8000) : ¬ (Int32.ofNat i < 0 ∨ c.slots.size ≤ (Int32.ofNat i).toNatClampNeg) := by
  rw [S, hz, oj_n hn, oj_n (by omega)]
  exact fun q => q.elim (oj_nn (by omega)) (by omega)
theorem oj_dbl {n : Nat} (hn : n ≤ 4000) : (Int32.ofNat n) <<< ((1 : Int32) &&& 31) = Int32.ofNat (2 * n) := by
  have q := c_ishl (Int32.ofNat n) 1 1 (by decide)
  rw [Int32.toInt_ofNat_of_lt (by omega)] at q
  apply Int32.toInt_inj.mp
  rw [Int32.toInt_ofNat_of_lt (by omega)]
  have r := rng32 (Int32.ofNat n <<< ((1 : Int32) &&& 31))
  omega
theorem oj_half {n : Nat} (hn : n ≤ 4000) : (Int32.ofNat (2 * n)) >>> ((1 : Int32) &&& 31) = Int32.ofNat n := by
  have q := c_ishr (Int32.ofNat (2 * n)) 1 1 (by decide)
  rw [Int32.toInt_ofNat_of_lt (by omega)] at q
  apply Int32.toInt_inj.mp
  rw [Int32.toInt_ofNat_of_lt (by omega), q]
  omega
theorem oj_get (cs : List Int32) {i : Nat} (h : i < cs.length) (d : Value) : (cs.map Value.int).getD i d = .int (cs.getD i 0) := by
  simp [List.getD_eq_getElem?_getD, h]
theorem oj_take (cs : List Int32) {i : Nat} (h : i < cs.length) (f : Int32 → Value) : (cs.take i).map f ++ [f (cs.getD i 0)] = (cs.take (i + 1)).map f := by
  rw [List.take_add_one, List.map_append, List.getD_eq_getElem?_getD, List.getElem?_eq_getElem h]; rfl
theorem oj_narb (x : Int32) : nar .byte (x.toInt8.toInt32) = x.toInt8.toInt32 := by simp [nar]
theorem oj_shr0 (c : Int32) : c >>> ((0 : Int32) &&& 31) = c := by
  have q := c_ishr c 0 0 (by decide)
  apply Int32.toInt_inj.mp
  first | omega | (rw [q]; simp)
theorem oj_bb (x : Int32) : x.toInt8.toInt32.toInt8.toInt32 = x.toInt8.toInt32 := by simp
theorem arvSnoc {Z : State} {h h' : Heap} {a : Addr} {k : ClassId} {ty : FieldType} {z j : Int32} {vs : List Value} {dv v : Value} {c : Cell} (A : Arr Z h a c ty) (q1 : c.cls = k) (S : c.slots.size = z.toNatClampNeg) (q3 : ¬ z < 0) (H : Has c vs dv) (G : ∀ i, i < c.slots.size → fits ty (vs.getD i dv) = true) (hv : fits ty v = true) (W : Wr h h' a j.toNatClampNeg v) (hj : j.toNatClampNeg = vs.length) : Arv Z h' a k ty z (vs ++ [v]) dv := by
  have H' : Has c (vs ++ [dv]) dv := fun i hi => by rw [show [dv] = List.replicate 1 dv from rfl, pad_rep vs dv 1 i]; exact H i hi
  have G' : ∀ i, i < c.slots.size → fits ty ((vs ++ [dv]).getD i dv) = true := fun i hi => by rw [show [dv] = List.replicate 1 dv from rfl, pad_rep vs dv 1 i]; exact G i hi
  have q := Arv.set A q1 S q3 H' G' hv W vs.length hj (by simp)
  have e : (vs ++ [dv]).set vs.length v = vs ++ [v] := by simp
  rwa [e] at q
/-- how many chars ahead of the first above 255 -/
def own_k : List Int32 → Nat
  | [] => 0
  | c :: r => if (255 : Int32) < c then 0 else own_k r + 1
theorem own_k_at : ∀ (cs : List Int32) (i : Nat), (∀ j, j < i → ¬ (255 : Int32) < cs.getD j 0) → i < cs.length → (255 : Int32) < cs.getD i 0 → own_k cs = i
  | [], _, _, h, _ => absurd h (Nat.not_lt_zero _)
  | c :: r, 0, _, _, hc => by simp only [own_k]; exact if_pos hc
  | c :: r, i + 1, hb, h, hc => by
    have h0 : ¬ (255 : Int32) < c := hb 0 (Nat.succ_pos _)
    simp only [own_k, if_neg h0]
    rw [own_k_at r i (fun j hj => hb (j + 1) (by omega)) (by simpa using h) hc]
theorem own_k_all : ∀ (cs : List Int32), (∀ j, j < cs.length → ¬ (255 : Int32) < cs.getD j 0) → own_k cs = cs.length
  | [], _ => rfl
  | c :: r, hb => by
    have h0 : ¬ (255 : Int32) < c := hb 0 (Nat.succ_pos _)
    simp only [own_k, if_neg h0]
    rw [own_k_all r fun j hj => hb (j + 1) (by simpa using hj)]; rfl
theorem own_k_le : ∀ cs : List Int32, own_k cs ≤ cs.length
  | [] => Nat.le_refl _
  | c :: r => by
    simp only [own_k]
    split
    · exact Nat.zero_le _
    · exact Nat.succ_le_succ (own_k_le r)
theorem own_k_hi : ∀ cs : List Int32, own_k cs ≠ cs.length → own_k cs < cs.length ∧ (255 : Int32) < cs.getD (own_k cs) 0
  | [], h => absurd rfl h
  | c :: r, h => by
    by_cases q : (255 : Int32) < c
    · simp only [own_k, if_pos q]; exact ⟨Nat.succ_pos _, q⟩
    · simp only [own_k, if_neg q] at h ⊢
      obtain ⟨h1, h2⟩ := own_k_hi r fun e => h (congrArg (· + 1) e)
      exact ⟨Nat.succ_lt_succ h1, h2⟩
theorem own_k_lo (cs : List Int32) (h : own_k cs = cs.length) : ∀ c ∈ cs, ¬ (255 : Int32) < c := by
  induction cs with
  | nil => exact fun _ q => nomatch q
  | cons c r ih =>
    by_cases q : (255 : Int32) < c
    · simp only [own_k, if_pos q] at h; exact absurd h (Nat.succ_ne_zero _).symm
    · simp only [own_k, if_neg q] at h
      intro x hx
      rcases List.mem_cons.mp hx with rfl | hx
      · exact q
      · exact ih (Nat.succ.inj h) x hx
theorem oj_mem {cs : List Int32} {i : Nat} (h : i < cs.length) : cs.getD i 0 ∈ cs := by
  rw [List.getD_eq_getElem?_getD, List.getElem?_eq_getElem h]; exact List.getElem_mem h
theorem wide_len : ∀ cs : List Int32, (StrChars.Road.wideBytes cs).length = 2 * cs.length
  | [] => rfl
  | c :: r => by simp only [StrChars.Road.wideBytes, List.length_cons, wide_len r]; omega
theorem wide_snoc : ∀ (cs : List Int32) (c : Int32), StrChars.Road.wideBytes (cs ++ [c]) = StrChars.Road.wideBytes cs ++ [.int (StrChars.lo8 c)] ++ [.int (StrChars.hi8 c)]
  | [], _ => rfl
  | d :: r, c => by simp only [List.cons_append, StrChars.Road.wideBytes, wide_snoc r c]
theorem oj_take1 (cs : List Int32) {i : Nat} (h : i < cs.length) : cs.take i ++ [cs.getD i 0] = cs.take (i + 1) := by
  rw [List.take_add_one, List.getD_eq_getElem?_getD, List.getElem?_eq_getElem h]; rfl
theorem oj_cod0 {n : Nat} (h : n ≤ 4000) : nar .byte ((((Int32.ofNat n - Int32.ofNat n).toUInt32 >>> ((31 : Int32) &&& 31).toUInt32).toInt32).toInt8.toInt32) = 0 := by
  rw [Int32.sub_self]; decide
theorem oj_cod1 {n : Nat} (h0 : 0 < n) (h : n ≤ 4000) : nar .byte ((((Int32.ofNat n - Int32.ofNat (2 * n)).toUInt32 >>> ((31 : Int32) &&& 31).toUInt32).toInt32).toInt8.toInt32) = 1 := by
  have q := c_iushr (Int32.ofNat n - Int32.ofNat (2 * n)) 31 31 (by decide) (by decide)
  have e := c_isub (Int32.ofNat n) (Int32.ofNat (2 * n))
  have r := rng32 (Int32.ofNat n - Int32.ofNat (2 * n))
  rw [Int32.toInt_ofNat_of_lt (by omega), Int32.toInt_ofNat_of_lt (by omega)] at e
  have v : ((((Int32.ofNat n - Int32.ofNat (2 * n)).toUInt32 >>> ((31 : Int32) &&& 31).toUInt32).toInt32)) = 1 := by
    apply Int32.toInt_inj.mp
    rw [q]
    have : ((1 : Int32).toInt) = 1 := rfl
    omega
  rw [v]; decide
theorem oj_c16 {c : Int32} (h : ¬ c < 0 ∧ ¬ (65535 : Int32) < c) : nar .char c = c := by
  show c.toUInt32.toUInt16.toUInt32.toInt32 = c
  have q := c_i2c c
  have r := rng32 c
  obtain ⟨h0, h1⟩ := h
  rw [Int32.lt_iff_toInt_lt] at h0 h1
  have e0 : (0 : Int32).toInt = 0 := rfl
  have e1 : (65535 : Int32).toInt = 65535 := rfl
  apply Int32.toInt_inj.mp
  omega
theorem own_add (a b : Nat) : Int32.ofNat a + Int32.ofNat b = Int32.ofNat (a + b) := (Int32.ofNat_add a b).symm
theorem own_sub0 (x : Int32) : x - (0 : Int32) = x := by
  apply Int32.toInt_inj.mp
  have q := c_isub x 0
  have r := rng32 x
  have r2 := rng32 (x - (0 : Int32))
  have e0 : (0 : Int32).toInt = 0 := rfl
  omega
theorem own_shl0 (n : Nat) : (Int32.ofNat n) <<< ((0 : Int32) &&& 31) = Int32.ofNat n := by
  have e : ((0 : Int32) &&& 31) = 0 := by decide
  rw [e, Int32.shiftLeft_zero]
theorem own_in {c : Cell} {i : Nat} {z : Int32} (S : c.slots.size = z.toNatClampNeg) (h : i < z.toNatClampNeg) (hi : i ≤ 8000) : ¬ (Int32.ofNat i < 0 ∨ c.slots.size ≤ (Int32.ofNat i).toNatClampNeg) := by
  rw [S, oj_n hi]
  exact fun q => q.elim (oj_nn hi) (by omega)
theorem own_or : ∀ a, a ≤ 16 → ∀ b, b ≤ 16 → ¬ (((Int32.ofNat 16) ||| Int32.ofNat a) ||| Int32.ofNat b) < (0 : Int32) := by decide +kernel
theorem own_szs : ∀ a, a ≤ 16 → ∀ b, b ≤ 16 → a + b ≤ 16 → ¬ ((Int32.ofNat 16) - Int32.ofNat a) < Int32.ofNat b := by decide +kernel
theorem own_cap0 : ∀ n, n ≤ 16 → ¬ ((0 : Int32) < (Int32.ofNat n - ((16 : Int32) >>> ((0 : Int32) &&& 31)))) := by decide +kernel
theorem own_cap1 : ∀ n, n ≤ 16 → ¬ ((0 : Int32) < (Int32.ofNat n - ((Int32.ofNat (2 * 16)) >>> ((1 : Int32) &&& 31)))) := by decide +kernel
theorem wide_app : ∀ a b : List Int32, StrChars.Road.wideBytes a ++ StrChars.Road.wideBytes b = StrChars.Road.wideBytes (a ++ b)
  | [], _ => rfl
  | c :: r, b => by simp only [List.cons_append, StrChars.Road.wideBytes, wide_app r b]
theorem own_all {P : Int32 → Prop} {a b : List Int32} (ha : ∀ c ∈ a, P c) (hb : ∀ c ∈ b, P c) : ∀ c ∈ a ++ b, P c := fun c hc => (List.mem_append.mp hc).elim (ha c) (hb c)
theorem own_c16 (x : Int32) : ¬ x.toUInt32.toUInt16.toUInt32.toInt32 < 0 ∧ ¬ (65535 : Int32) < x.toUInt32.toUInt16.toUInt32.toInt32 := by
  have h := c_i2c x
  simp only [Int32.lt_iff_toInt_lt]
  have e0 : (0 : Int32).toInt = 0 := rfl
  have e1 : (65535 : Int32).toInt = 65535 := rfl
  omega
theorem own_three (x : Int32) : (x &&& (2147483647 : Int32)) % (3 : Int32) = 0 ∨ (x &&& (2147483647 : Int32)) % (3 : Int32) = 1 ∨ (x &&& (2147483647 : Int32)) % (3 : Int32) = 2 := by
  have h := c_mask x 2147483647 31 (by decide) (by decide)
  have r := (c_irem (x &&& 2147483647) 3 3 rfl).1 (by omega)
  have e0 : (0 : Int32).toInt = 0 := rfl
  have e1 : (1 : Int32).toInt = 1 := rfl
  have e2 : (2 : Int32).toInt = 2 := rfl
  simp only [← Int32.toInt_inj, e0, e1, e2]
  omega
/-- as 'new' left it, as far as the VM's marks go -/
def Unx (_ : State) (h : Heap) (x : Addr) : Prop := Unt h x
theorem Unx.ext {Z : State} {h h' : Heap} {x : Addr} (F : Unx Z h x) (E : Ext h h') : Unx Z h' x := Unt.ext E F
theorem Unx.wr {Z : State} {h h' : Heap} {x a : Addr} {sl : Nat} {v : Value} (F : Unx Z h x) (W : Wr h h' a sl v) : Unx Z h' x := Unt.wr W F
theorem Unx.keep {Z : State} {h h' : Heap} {x : Addr} {ws : List Addr} (F : Unx Z h x) (K : Keep h h' ws) (q : x ∉ ws) : Unx Z h' x := Unt.keep K q F
end Jvm.Pilot.@@N@@
namespace Jvm.Pilot.@@N@@
open Jvm Jvm.ClassFile Sem Op Lib Jvm.Free Jvm.Stand Jvm.LawKit Jvm.RoadKit Bundle Jvm.Pilot.@@N@@.Jvm.D
section OwnSB
variable {p : Program} {l : Launch} {e : Env} {R : Room} {s : State} {vm0 : Vm} {k0 : Nat} {m : MethodId} {args : Array Value} {below : List Frame} {meth : Method} {c : Code} {T : State} {locs : List Loc} {cells slots : Nat} {Z : State} {a0 : Array Value} {h : Heap} {EL : List (String × Nat)}
variable {Q : Option Value → Heap → List Loc → Prop} {kc ks : Nat} {y z : MethodName} {own C : String} {index W len : Nat} {bytes : ByteArray} {maxL : Nat} {ret : Option FieldType} {as' : Array Value} {argsL rest : List Value} {g : JFrame}
/-- an invokevirtual whose entry's method is the one that is run (a private one too) -/
theorem callVp {a : Addr} (X : Stand p l e R s m args below meth c T locs cells slots) (hx : p.tables.exec = Jvm.exec) (hZ : Z.Warmed39 s.vm) (hown : s.vm.findClass own = some m.cls)
    (w1 : (Jvm.Cond.methodLink own index y).before a0 Z = true) (w2 : (Jvm.Cond.instanceMethod y).before a0 Z = true) (w3 : (Jvm.Cond.selects C y y).before a0 Z = true) (w4 : (Jvm.Cond.code y bytes maxL ret).before a0 Z = true)
    (hy : y.cls ≠ "java/lang/invoke/MethodHandle" ∧ y.cls ≠ "java/lang/invoke/VarHandle")
    (hB : Back l R p e below s args y 3 W (fun A b => b = (Value.ref a :: argsL).toArray ∧ A.U.heap = h ∧ A.cells + kc ≤ R.cells ∧ A.slots + ks ≤ R.slots) (fun A _ v B => ∃ L, Q v B.U.heap L ∧ B.locs = A.locs ++ L ∧ B.cells = A.cells + kc ∧ B.slots = A.slots + ks))
    (E : Exa Z h a C) (hg : g.method = m) (hsize : g.locals.size = c.maxLocals) (hlen : ∀ sig, parseMethodDescriptor y.desc = some sig → argsL.length = sig.parameters.length) (hstack : g.stack = argsL.reverse ++ .ref a :: rest) (hW : 2 * g.monitorRoom + (rest.map fun v => v.category).sum ≤ W)
    (hd : decode c.code g.pc = .ok (.invokevirtual index, 3)) (eT : T.heap = h) (hc : cells + kc ≤ R.cells) (hs : slots + ks ≤ R.slots) :
    ∃ v T' L, Stand p l e R s m args below meth c T' (locs ++ L) (cells + kc) (slots + ks) ∧ Q v T'.heap L ∧ ∀ t, Steps p.tables e below (T'.setTop { g with pc := g.pc + 3, stack := v.toList ++ rest }) t → Steps p.tables e below (T.setTop g) t := by
  obtain ⟨cq, kq, qa, qb, cell, q1, q2, q3⟩ := isOf hZ eT E
  subst q2
  obtain ⟨v, _, ⟨T1, L1, k1, n1⟩, -, X1, ⟨L, hQ, hl, hk, hn⟩, st⟩ := Jvm.LawKit.callV X hx hown (mvT hZ w1) (mvT hZ w2) (mvT hZ w3) (mvT hZ w4) hy hB q1 q3 qa hg hsize hlen hstack hW hd (fun _ _ => ⟨rfl, eT, hc, hs⟩)
  dsimp only [Pt.U, Pt.locs, Pt.cells, Pt.slots] at X1 hl hk hn st hQ
  subst hl hk hn
  exact ⟨v, T1, L, X1, hQ, st⟩
theorem nf_sel {y' : MethodName} (hc : y.cls = y'.cls) (w : (Jvm.Cond.selects C y' y').before args s = true) : NotFace s y := fun r0 h0 => by
  obtain ⟨c2, r2, m2, q1, q2, q3, q4, kP, hkP, hkPi⟩ := Cond.selects_spec w
  have e1 := findClass_of_methodNamed h0
  have e2 := findClass_of_methodNamed q3
  rw [hc] at e1
  have e3 : r0.cls = m2.cls := Option.some.inj (e1.symm.trans e2)
  exact ⟨kP, by rw [e3]; exact hkP, hkPi⟩
theorem own_same (wi : (Jvm.Cond.instanceMethod y).before a0 Z = true) (nf : NotFace Z y) (hy : y.cls ≠ "java/lang/invoke/MethodHandle" ∧ y.cls ≠ "java/lang/invoke/VarHandle") : (Jvm.Cond.sameMethod y.cls y.cls y.name y.desc).before a0 Z = true := by
  obtain ⟨mk, methM, hnamed, hmethM, hstM, habM⟩ := Cond.instanceMethod_spec wi
  obtain ⟨kr, hk, hki⟩ := nf mk hnamed
  have e1 := findClass_of_methodNamed hnamed
  have e2 := State.methodFound?_of_named hnamed hy
  have e3 : Z.methodNamed? ⟨y.cls, y.name, y.desc⟩ = some mk := hnamed
  simp [Cond.before, Cond.holds, Cond.value, e1, e2, e3, hk, hki]
/-- super.m(..) -/
theorem callSu {a : Addr} {K : String} (X : Stand p l e R s m args below meth c T locs cells slots) (hx : p.tables.exec = Jvm.exec) (hZ : Z.Warmed39 s.vm) (hown : s.vm.findClass own = some m.cls)
    (w1 : (Jvm.Cond.methodLink own index y).before a0 Z = true) (w2 : (Jvm.Cond.sameMethod y.cls y.cls y.name y.desc).before a0 Z = true) (w3 : (Jvm.Cond.instanceMethod y).before a0 Z = true) (w4 : (Jvm.Cond.superclass own y.cls).before a0 Z = true) (wc : (Jvm.Cond.code y bytes maxL ret).before a0 Z = true) (hn0 : y.name ≠ "<init>")
    (hB : Back l R p e below s args y 3 W (fun A b => b = (Value.ref a :: argsL).toArray ∧ A.U.heap = h ∧ A.cells + kc ≤ R.cells ∧ A.slots + ks ≤ R.slots) (fun A _ v B => ∃ L, Q v B.U.heap L ∧ B.locs = A.locs ++ L ∧ B.cells = A.cells + kc ∧ B.slots = A.slots + ks))
    (F : Ins Z h a K true) (hg : g.method = m) (hsize : g.locals.size = c.maxLocals) (hlen : ∀ sig, parseMethodDescriptor y.desc = some sig → argsL.length = sig.parameters.length) (hstack : g.stack = argsL.reverse ++ .ref a :: rest) (hW : 2 * g.monitorRoom + (rest.map fun v => v.category).sum ≤ W)
    (hd : decode c.code g.pc = .ok (.invokespecial index, 3)) (eT : T.heap = h) (hc : cells + kc ≤ R.cells) (hs : slots + ks ≤ R.slots) :
    ∃ v T' L, Stand p l e R s m args below meth c T' (locs ++ L) (cells + kc) (slots + ks) ∧ Q v T'.heap L ∧ ∀ t, Steps p.tables e below (T'.setTop { g with pc := g.pc + 3, stack := v.toList ++ rest }) t → Steps p.tables e below (T.setTop g) t := by
  obtain ⟨v, _, ⟨T1, L1, k1, n1⟩, -, X1, ⟨L, hQ, hl, hk, hn⟩, st⟩ := superBack X hx hZ hown w1 w2 w3 w4 hn0 hB eT F hg hsize wc hlen hstack hW hd (fun _ _ => ⟨rfl, eT, hc, hs⟩)
  dsimp only [Pt.U, Pt.locs, Pt.cells, Pt.slots] at X1 hl hk hn st hQ
  subst hl hk hn
  exact ⟨v, T1, L, X1, hQ, fun t k => st.trans k⟩
/-- an invokevirtual through a subclass's name -/
theorem callVU {a : Addr} {owner : String} (X : Stand p l e R s m args below meth c T locs cells slots) (hx : p.tables.exec = Jvm.exec) (hZ : Z.Warmed39 s.vm) (hown : s.vm.findClass own = some m.cls)
    (w1 : (Jvm.Cond.methodLink own index y).before a0 Z = true) (w2 : (Jvm.Cond.sameMethod y.cls owner y.name y.desc).before a0 Z = true) (w5 : (Jvm.Cond.declares ⟨owner, y.name, y.desc⟩).before a0 Z = true) (w3 : (Jvm.Cond.selects C y z).before a0 Z = true) (w4 : (Jvm.Cond.instanceMethod z).before a0 Z = true)
    (hy : owner ≠ "java/lang/invoke/MethodHandle" ∧ owner ≠ "java/lang/invoke/VarHandle")
    (hB : Back l R p e below s args z 3 W (fun A b => b = (Value.ref a :: argsL).toArray ∧ A.U.heap = h ∧ A.cells + kc ≤ R.cells ∧ A.slots + ks ≤ R.slots) (fun A _ v B => ∃ L, Q v B.U.heap L ∧ B.locs = A.locs ++ L ∧ B.cells = A.cells + kc ∧ B.slots = A.slots + ks))
    (E : Exa Z h a C) (hg : g.method = m) (hsize : g.locals.size = c.maxLocals) (hlen : ∀ sig, parseMethodDescriptor y.desc = some sig → argsL.length = sig.parameters.length) (hstack : g.stack = argsL.reverse ++ .ref a :: rest) (hW : 2 * g.monitorRoom + (rest.map fun v => v.category).sum ≤ W)
    (hd : decode c.code g.pc = .ok (.invokevirtual index, 3)) (eT : T.heap = h) (hc : cells + kc ≤ R.cells) (hs : slots + ks ≤ R.slots) :
    ∃ v T' L, Stand p l e R s m args below meth c T' (locs ++ L) (cells + kc) (slots + ks) ∧ Q v T'.heap L ∧ ∀ t, Steps p.tables e below (T'.setTop { g with pc := g.pc + 3, stack := v.toList ++ rest }) t → Steps p.tables e below (T.setTop g) t := by
  obtain ⟨cq, kq, qa, qb, qc⟩ := isOf hZ eT E
  obtain ⟨v, _, ⟨T1, L1, k1, n1⟩, -, X1, ⟨L, hQ, hl, hk, hn⟩, st⟩ := X.virtualBackUp hx hown (mvT hZ w1) (mvT hZ w2) (mvT hZ w5) hy (mvT hZ w3) (mvT hZ w4) hB qa qc hg hsize (Steps.refl _) hlen hstack hW hd (fun _ _ => ⟨rfl, eT, hc, hs⟩)
  dsimp only [Pt.U, Pt.locs, Pt.cells, Pt.slots] at X1 hl hk hn st hQ
  subst hl hk hn
  exact ⟨v, T1, L, X1, hQ, fun t k => st.trans k⟩
theorem bodyOfK {y : MethodName} {bytes : ByteArray} {maxL : Nat} {ret : Option FieldType} {ws : List Jvm.Cond} {rm : Room} {as' : Array Value} {Ls : Array Slot} {h0 : Heap}
    (pn : plainFor y = true) (ef : ∀ m, entryFrame m as' maxL = mkF m 0 Ls [])
    (body : ∀ (p : Program) (e : Env) (s : State) (m : MethodId) (below : List Frame) (meth : Method) (c : Code) (T : State), Stand p l e rm s m as' below meth c T [] 0 0 → p.tables.exec = Jvm.exec → c.code = bytes → c.maxLocals = maxL →
      s.vm.findClass y.cls = some m.cls → meth.name = y.name → meth.sig.returnType = ret → meth.locks = false → Z.Warmed39 s.vm → T.heap = h0 → s.heap = h0 → s.vm.MethodsKnown ∧ s.vm.FramesKnown below → Goes p.tables e below (EndP s below Q rm.cells rm.slots) (T.setTop (mkF m 0 Ls []))) :
    MetFree l y (head1 (Jvm.Cond.code y bytes maxL ret :: ws) rm) (fun a U => a = as' ∧ Z.Warmed39 U.vm ∧ U.heap = h0) (fun _ _ bl s _ => s.vm.MethodsKnown ∧ s.vm.FramesKnown bl) (fun _ U o U' => ∃ v L, o = .returned v ∧ Q v U'.heap L ∧ FrameEnd U o U' L rm.cells rm.slots) := by
  refine MetFree.of_bodySF pn hisR ?_
  intro p e s m args below meth c s₁ Bd hml0 hP hK
  obtain ⟨rfl, hZ, hh⟩ := hP
  have e0 : s₁.heap = h0 := by rw [← hh, Bd.state]; rfl
  obtain ⟨s₂, o, st, hrun, hend, hq⟩ := body p e s m below meth c s₁ (Stand.of_body Bd) Bd.exec Bd.bytes hml0 (findClass_of_methodNamed Bd.named) (name_of_methodNamed Bd.named Bd.method).1 Bd.returns Bd.notSynchronized hZ e0 hh hK
  exact ⟨s₂, o, castTop (ef m) st, hrun, hend, hq⟩
theorem bodyOfWK {xs : List Addr} {y : MethodName} {bytes : ByteArray} {maxL : Nat} {ret : Option FieldType} {ws : List Jvm.Cond} {rm : Room} {as' : Array Value} {Ls : Array Slot} {h0 : Heap}
    (pn : plainFor y = true) (ef : ∀ m, entryFrame m as' maxL = mkF m 0 Ls [])
    (body : ∀ (p : Program) (e : Env) (s : State) (m : MethodId) (below : List Frame) (meth : Method) (c : Code) (T : State), Stand p l e rm (s.setVm s.vm) m as' below meth c T [] 0 0 → p.tables.exec = Jvm.exec → c.code = bytes → c.maxLocals = maxL →
      s.vm.findClass y.cls = some m.cls → meth.name = y.name → meth.sig.returnType = ret → meth.locks = false → Z.Warmed39 s.vm → T.heap = h0 → s.Since s.vm h0.size → CHr Z EL s.vm s.heap s.vm h0 → (∀ x ∈ xs, Safe Z EL s.vm h0 x) → s.vm.MethodsKnown ∧ s.vm.FramesKnown below → Goes p.tables e below (EndW Z EL s below Q rm.cells rm.slots) (T.setTop (mkF m 0 Ls []))) :
    MetFree l y (head1 (Jvm.Cond.code y bytes maxL ret :: ws) rm) (fun a U => a = as' ∧ Z.Warmed39 U.vm ∧ U.heap = h0 ∧ CHv Z EL U.vm h0 ∧ ∀ x ∈ xs, Safe Z EL U.vm h0 x) (fun _ _ bl s _ => s.vm.MethodsKnown ∧ s.vm.FramesKnown bl) (fun _ U o U' => ∃ v L, o = .returned v ∧ Q v U'.heap L ∧ CHr Z EL U.vm U.heap U'.vm U'.heap ∧ ReturnedEndW U o U' L rm.cells rm.slots) := by
  refine MetFree.of_bodySF pn hisR ?_
  intro p e s m args below meth c s₁ Bd hml0 hP hK
  obtain ⟨rfl, hZ, hh, hH, hsf⟩ := hP
  have e0 : s₁.heap = h0 := by rw [← hh, Bd.state]; rfl
  have hC : CHr Z EL s.vm s.heap s.vm h0 := by rw [hh]; exact CHr.refl hH
  obtain ⟨s₂, o, st, hrun, hend, hq⟩ := body p e s m below meth c s₁ (Stand.of_body Bd) Bd.exec Bd.bytes hml0 (findClass_of_methodNamed Bd.named) (name_of_methodNamed Bd.named Bd.method).1 Bd.returns Bd.notSynchronized hZ e0 ((State.WarmedH.refl s).since _) hC hsf hK
  exact ⟨s₂, o, castTop (ef m) st, hrun, hend, hq⟩
theorem backWK {rm : Room} {xs : List Addr}
    (hM : MetFree l y (head1 [Jvm.Cond.code y bytes maxL ret] rm) (fun a U => a = as' ∧ Z.Warmed39 U.vm ∧ U.heap = h ∧ CHv Z EL U.vm h ∧ ∀ x ∈ xs, Safe Z EL U.vm h x) (fun _ _ bl s _ => s.vm.MethodsKnown ∧ s.vm.FramesKnown bl) (fun _ U o U' => ∃ v L, o = .returned v ∧ Q v U'.heap L ∧ CHr Z EL U.vm U.heap U'.vm U'.heap ∧ ReturnedEndW U o U' L rm.cells rm.slots))
    (hZ : Z.Warmed39 vm0) (wc : (Jvm.Cond.code y bytes maxL ret).before a0 Z = true) (wz : (Jvm.Cond.initialized y.cls).before a0 Z = true) (hf : rm.frames + 1 ≤ R.frames) (hl : W + (maxL + 11) + rm.locals ≤ R.locals) (hEL : EW Z a0 EL) (H : CHv Z EL vm0 h) (hsf : ∀ x ∈ xs, Safe Z EL vm0 h x ∧ x < h.size) (hKn : vm0.MethodsKnown ∧ vm0.FramesKnown below) :
    BackS l R p e below (s.setVm vm0) args y len W (fun A a => a = as' ∧ A.U.heap = h ∧ A.cells + rm.cells ≤ R.cells ∧ A.slots + rm.slots ≤ R.slots)
      (fun A _ v B => ∃ L, Q v B.U.heap L ∧ B.locs = A.locs ++ L ∧ B.cells = A.cells + rm.cells ∧ B.slots = A.slots + rm.slots ∧ CHr Z EL vm0 h B.U.vm B.U.heap) := by
  refine BackS.of_freeWG (bytes := bytes) (maxL := maxL) (ret := ret) (E := fun _ first o t L k n => k = rm.cells ∧ n = rm.slots ∧ (∃ v, o = .returned v ∧ Q v t.heap L) ∧ CHr Z EL first.vm first.heap t.vm t.heap) hM hf hl ?_ ?_ (fun m meth c A a g mk Y _ hg => known_frames Y hg hKn.1 hKn.2) ?_ ?_
  · intro m meth c A a Y hp
    have hU : Z.Warmed39 A.U.vm := wtrans (s := s.setVm vm0) hZ Y.warmed
    exact ⟨by show (Jvm.Cond.and _ .tt).before a A.U = true; rw [Cond.before_and, mv hU wc]; rfl, mv hU wc, mv hU wz, hp.2.2.1, hp.2.2.2⟩
  · intro m meth c A a g mk Y hp
    have hC := CHv.at Y hZ hEL H
    exact ⟨hp.1, wtrans (s := s.setVm vm0) hZ Y.warmed, hp.2.1, hC.1, fun x hx => hC.safe (hsf x hx).2 (hsf x hx).1⟩
  · rintro a first o t ⟨v, L, h1, h2, h3, h4⟩
    exact ⟨L, _, _, h4, rfl, rfl, ⟨v, h1, h2⟩, h3⟩
  · rintro m meth c A a g mk v t L k n Y hp _ _ ⟨e1, e2, ⟨v', e3, e4⟩, e5⟩
    cases e3
    subst e1 e2
    refine ⟨L, e4, rfl, rfl, rfl, (CHv.at Y hZ hEL H).trans ?_⟩
    rw [← hp.2.1]; exact e5
/-- System.arraycopy of bytes behind what the array holds -/
theorem own_cpl (vs us : List Value) (dv : Value) : ((vs ++ List.replicate us.length dv).take vs.length ++ us ++ (vs ++ List.replicate us.length dv).drop (vs.length + us.length)) = vs ++ us := by
  rw [List.take_left', List.drop_of_length_le (by simp)]
  · simp
  · rfl
theorem own_rng (vs : List Value) (dv : Value) : (List.range vs.length).map (fun i => vs.getD (0 + i) dv) = vs := by
  apply List.ext_getElem
  · simp
  · intro i h1 h2
    simp at h1
    simp [List.getD_eq_getElem?_getD, h1]
theorem cpB (X : Stand p l e R s m args below meth c T locs cells slots) (hx : p.tables.exec = Jvm.exec) (hZ : Z.Warmed39 s.vm) (hown : s.vm.findClass own = some m.cls)
    (w1 : (Jvm.Cond.methodLink own index Jvm.Stand.acN).before a0 Z = true) (w2 : (Jvm.Cond.native Jvm.Stand.acN).before a0 Z = true) (w3 : (Jvm.Cond.static Jvm.Stand.acN).before a0 Z = true) (w4 : (Jvm.Cond.initialized "java/lang/System").before a0 Z = true) (eT : T.heap = h)
    {a b : Addr} {k k' : ClassId} {z z' dp nn : Int32} {vs vd : List Value} {dv : Value} (A : Arv Z h a k .byte z vs dv) (B : Arv Z h b k' .byte z' vd dv) (h2 : dp = Int32.ofNat vd.length) (h3 : nn = Int32.ofNat vs.length) (h4 : vs.length ≤ z.toNatClampNeg) (h5 : vd.length + vs.length ≤ z'.toNatClampNeg) (hb : vd.length + vs.length ≤ 8000) {n0 : Nat} (N : Fr n0 locs) (ge : n0 ≤ b)
    (hg : g.method = m) (hsize : g.locals.size = c.maxLocals) (hs : g.stack = .int nn :: .int dp :: .ref b :: .int (0 : Int32) :: .ref a :: rest) (hd : decode c.code g.pc = .ok (.invokestatic index, 3))
    (hf : 1 ≤ R.frames) (hW : 2 * g.monitorRoom + (rest.map fun v => v.category).sum ≤ W) (hlo : W + (nativeFrameWords "java/lang/System" "arraycopy" 5 + 11) ≤ R.locals) :
    ∃ T' h' L, Stand p l e R s m args below meth c T' L cells slots ∧ T'.heap = h' ∧ Fr n0 L ∧ Keep h h' [b] ∧ Arv Z h' b k' .byte z' (vd ++ vs) dv ∧
      ∀ target, Steps p.tables e below (T'.setTop { g with pc := g.pc + 3, stack := rest }) target → Steps p.tables e below (T.setTop g) target := by
  subst h2 h3
  have e1 : (Int32.ofNat vd.length).toNatClampNeg = vd.length := oj_n (by omega)
  have e2 : (Int32.ofNat vs.length).toNatClampNeg = vs.length := oj_n (by omega)
  have e0 : (0 : Int32).toNatClampNeg = 0 := rfl
  obtain ⟨T', h', L, X', eh, N', K, V, st⟩ := cpA X hx hZ hown w1 w2 w3 w4 eT A (B.pad (pad_rep vd dv vs.length)) (Or.inl ⟨rfl, rfl⟩) (by decide) (oj_nn (by omega)) (oj_nn (by omega)) (by rw [e0, e2]; omega) (by rw [e1, e2]; exact h5) (us := vs) (by rw [e0, e2]; exact (own_rng vs dv).symm) (by rw [e1, e2]; simp) N ge hg hsize hs hd hf hW hlo
  rw [e1, e2, own_cpl] at V
  exact ⟨T', h', L, X', eh, N', K, V, st⟩
end OwnSB
end Jvm.Pilot.@@N@@
namespace Jvm.Pilot.@@N@@
open Jvm Jvm.ClassFile Sem Op Lib Jvm.Free Jvm.Stand Jvm.LawKit Jvm.RoadKit Bundle Jvm.Pilot.@@N@@.Jvm.D
section StartX
variable {args : Array Value} {Z : State} {t : Term}
theorem eqRef_v {b : Term} {x : Addr} (hb : b.eval args Z none [] Z = some (.ref x)) (h : (Jvm.Cond.eq t b).value args Z none Z [] = some true) : t.eval args Z none [] Z = some (.ref x) := by
  cases ha : t.eval args Z none [] Z with
  | none => simp [Cond.value, ha] at h
  | some y => cases y <;> simp_all [Cond.value, ha, hb, Value.isRef]
theorem eqNull_v (h : (Jvm.Cond.eq t .null).value args Z none Z [] = some true) : t.eval args Z none [] Z = some .null := by
  have hb : (Term.null).eval args Z none [] Z = some .null := rfl
  cases ha : t.eval args Z none [] Z with
  | none => simp [Cond.value, ha] at h
  | some y => cases y <;> simp_all [Cond.value, ha, hb, Value.isRef]
theorem arvStart {a : Addr} {ty : FieldType} {n : Int32} {vs : List Value} {d : Value} (hf : Fit Z) (ev : t.eval args Z none [] Z = some (.ref a)) (ha : (Jvm.Cond.arrayOf t ty).value args Z none Z [] = some true) (hl : (Jvm.Cond.eq (.length t) (.int n)).value args Z none Z [] = some true) (hn : ¬ n < 0) (hs : n.toNatClampNeg = vs.length)
    (he : ∀ c : Cell, (∀ j : Int32, ¬ j < 0 → (Term.elem t (.int j)).eval args Z none [] Z = c.slots[j.toNatClampNeg]?) → HasL c 0 vs) : ∃ k, Arv Z Z.heap a k ty n vs d := by
  obtain ⟨c, A⟩ := Arr.start ev ha
  have L := eqInt_v hl
  have fin := A.fin (U := Z) (Vm.Alike.refl _)
  obtain ⟨x, cl, e1, e2, e3⟩ := Term.length_spec L
  cases ev.symm.trans e1
  cases fin.symm.trans e2
  have q := SBG.length_lt ev fin L
  exact ⟨c.cls, Arv.start hf A q (by injection e3 with e3; exact e3.symm) hn hs (he c fun j hj => elem_f ev (Term.int_eval j) fin hj)⟩
end StartX
end Jvm.Pilot.@@N@@
namespace Jvm.Pilot.@@N@@
open Jvm Jvm.ClassFile Sem Op Lib Jvm.Free Jvm.Stand Jvm.LawKit Jvm.RoadKit Bundle LibCode.Throwable Jvm.Pilot.@@N@@.Jvm.D
abbrev FCN : String := "com/example/neti/neti/cli/Failure"
set_option maxRecDepth 65536 in
set_option maxHeartbeats 40000000 in
theorem own_TL {Z s : State} {a0 args : Array Value} {pl : Platform} (hw : ∀ d ∈ tables_1, d.before a0 Z = true) (hT0 : ThS Z s.heap) (hZ : Z.Warmed39 s.vm) (howns : pl.frameOwnsMonitors = true) (hfin : pl.finalization = false) (hpl : pl.magicAccessors = ({} : Platform).magicAccessors) {cF0 : ClassId} {kF : Class} (hcF : s.vm.findClass FCN = some cF0) (hkF : s.vm.classes[cF0]? = some kF) :
    ∃ T : ThrowableC, T.Links pl s ∧ s.vm.findClass tN = some T.cT ∧ s.methodNamed? tFill = some T.fill ∧ s.methodNamed? tFill0 = some T.fill0 ∧ s.fieldFound? tN "stackTrace" steD = some (T.cT, T.kT, T.i17, T.fStack) ∧ s.fieldFound? tN "UNASSIGNED_STACK" steD = some (T.cT, T.kT, T.i13, T.fUnassigned) ∧ T.fStack.name = "stackTrace" ∧ T.fStack.type = .array (.object "java/lang/StackTraceElement") := by
  have wx : ∀ (i : Nat) (d : Jvm.Cond), tables_1[i]? = some d → xOk d = true → d.holds args s none s [] = true := fun i d h ok => mvX hT0 hZ ok (ww hw i h)
  obtain ⟨⟨c, i0⟩, meth0, hn0, hm0, hnat0, hcode0, hlocks0, hsig0⟩ := Cond.native_spec (wx 190 (.native tFill0) rfl rfl)
  have hc : s.vm.findClass tN = some c := findClass_of_methodNamed hn0
  obtain ⟨k, hk, hname⟩ := Vm.findClass_spec hc
  have hinit := Cond.initialized_spec hc hk (wx 169 (.initialized tN) rfl rfl)
  obtain ⟨_, k1, _, _, hk1, _, _, hord, _, hni⟩ := Cond.superclass_spec hc (wx 187 (.superclass tN "java/lang/Object") rfl rfl)
  cases hk.symm.trans hk1
  obtain ⟨iF, methF, hnF, hmF, hatF, hstF, habF, -, -⟩ := Cond.ownMethod (x := tFill) hc hk (wx 182 (.instanceMethod tFill) rfl rfl)
  obtain ⟨methF', cF, hmF', hcFc, hbF, hlF, hrF, hlkF, -, hsigF⟩ := Cond.codeSync_spec hnF (wx 188 (.codeSync tFill Fill.code 1 (some (.object tN))) rfl rfl)
  cases hmF.symm.trans hmF'
  obtain ⟨i0', meth0', hn0', hm0', hat0, hst0, hab0, hnm0, hds0⟩ := Cond.ownMethod (x := tFill0) hc hk (wx 189 (.instanceMethod tFill0) rfl rfl)
  obtain rfl : i0 = i0' := by have := Option.some.inj (hn0.symm.trans hn0'); simpa using this
  cases hm0.symm.trans hm0'
  obtain ⟨iZ, methZ, hnZ, hmZ, hatZ, -, -, -, -⟩ := Cond.ownMethod (x := tInit0) hc hk (wx 191 (.instanceMethod tInit0) rfl rfl)
  obtain ⟨methZ', cZ, hmZ', hcZ, hbZ, hlZ, -, hlkZ, -, -⟩ := Cond.code_spec hnZ (wx 192 (.code tInit0 Init0.code 1 none) rfl rfl)
  cases hmZ.symm.trans hmZ'
  obtain ⟨mO, methO, hnO, hmO, hstO, habO⟩ := Cond.instanceMethod_spec (wx 18 (.instanceMethod oInit) rfl rfl)
  obtain ⟨methO', cO, hmO', hcO, hbO, hlO, -, hlkO, -, hsigO⟩ := Cond.code_spec hnO (wx 19 (.code oInit ⟨#[0xb1]⟩ 1 none) rfl rfl)
  cases hmO.symm.trans hmO'
  obtain ⟨kO, hkO, hnameO⟩ := Vm.findClass_spec (findClass_of_methodNamed hnO)
  obtain ⟨hnmO, hdsO⟩ := name_of_methodNamed hnO hmO
  obtain ⟨ci1, n1, cf, hl1, hr1, hcf, hp1⟩ := Cond.linkedMethod hc hk hnO (wx 171 (.methodLink tN 1 oInit) rfl rfl) pl hpl
  obtain ⟨ci27, n27, cf', hl27, hr27, hcf', hp27⟩ := Cond.linkedMethod hc hk hnF (wx 180 (.methodLink tN 27 tFill) rfl rfl) pl hpl
  cases hcf.symm.trans hcf'
  obtain ⟨ci202, n202, cf', hl202, hr202, hcf', hp202⟩ := Cond.linkedMethod hc hk hn0 (wx 193 (.methodLink tN 202 tFill0) rfl rfl) pl hpl
  cases hcf.symm.trans hcf'
  obtain ⟨ci7, i7, f7, hk7, hg7, ha7, hs7, hf7, hn7, ht7, hff7⟩ := Cond.ownField (t := .object tN) hc hk (by decide +kernel) (wx 172 (.fieldLink tN 7 tN "cause" "Ljava/lang/Throwable;") rfl rfl) (wx 173 (.lays FCN tN "cause" "Ljava/lang/Throwable;") rfl rfl) pl hpl
  obtain ⟨ci17, i17, f17, hk17, hg17, ha17, hs17, hf17, hn17, ht17, hff17⟩ := Cond.ownField (t := .array (.object "java/lang/StackTraceElement")) hc hk (by decide +kernel) (wx 175 (.fieldLink tN 17 tN "stackTrace" steD) rfl rfl) (wx 176 (.lays FCN tN "stackTrace" steD) rfl rfl) pl hpl
  obtain ⟨ci24, i24, f24, hk24, hg24, ha24, hs24, hf24, hn24, ht24, hff24⟩ := Cond.ownField (t := .object "java/util/List") hc hk (by decide +kernel) (wx 178 (.fieldLink tN 24 tN "suppressedExceptions" listD) rfl rfl) (wx 179 (.lays FCN tN "suppressedExceptions" listD) rfl rfl) pl hpl
  obtain ⟨ci13, i13, f13, aS, cellS, hk13, hg13, ha13, hs13, -, -, hsta, hcellS, hissS, -, -, hff13⟩ := Cond.ownStatic (t := .array (.object "java/lang/StackTraceElement")) hc hk (by decide +kernel) (wx 174 (.fieldLink tN 13 tN "UNASSIGNED_STACK" steD) rfl rfl) (wx 200 (.laysStatic tN "UNASSIGNED_STACK" steD) rfl rfl) pl hpl
  obtain ⟨ci20, i20, f20, _, _, hk20, hg20, ha20, hs20, -, -, -, -, -, -, -, hff20⟩ := Cond.ownStatic (t := .object "java/util/List") hc hk (by decide +kernel) (wx 177 (.fieldLink tN 20 tN "SUPPRESSED_SENTINEL" listD) rfl rfl) (wx 201 (.laysStatic tN "SUPPRESSED_SENTINEL" listD) rfl rfl) pl hpl
  obtain ⟨_, dS, hdS, hdnS⟩ := Cond.laysAt hcF hkF hff17 (wx 176 (.lays FCN tN "stackTrace" steD) rfl rfl)
  obtain ⟨_, dP, hdP, hdnP⟩ := Cond.laysAt hcF hkF hff24 (wx 179 (.lays FCN tN "suppressedExceptions" listD) rfl rfl)
  have hapart := Cond.laysApart hdS hdP hdnS hdnP (by rw [hn17, hn24]; decide)
  have pF : methF.sig.parameters = [] := by
    have : (parseMethodDescriptor tFill.desc).map (·.parameters) = some [] := by decide +kernel
    rw [hsigF] at this; simpa using this
  have p0 : meth0.sig.parameters = [.int] := by
    have : (parseMethodDescriptor tFill0.desc).map (·.parameters) = some [.int] := by decide +kernel
    rw [hsig0] at this; simpa using this
  have pO : methO.sig.parameters.length = 0 := by
    have : (parseMethodDescriptor oInit.desc).map (·.parameters) = some [] := by decide +kernel
    rw [hsigO] at this
    have : methO.sig.parameters = [] := by simpa using this
    rw [this]; rfl
  refine ⟨{ cT := c, kT := k, cO := c, aS := aS, fillIdx := iF, fill0Idx := i0, initSIdx := iZ, obj := mO, kObj := kO, methFill := methF, methFill0 := meth0, methInitS := methZ, methObj := methO, codeFill := cF, codeInitS := cZ, codeObj := cO, fBack := f7, fDepth := f7, fStack := f17, fCause := f7, fSupp := f24, fMsg := f7, fUnassigned := f13, fSentinel := f20, cfT := cf, ci1 := ci1, n1 := n1, ci27 := ci27, n27 := n27, ci202 := ci202, n202 := n202, ci7 := ci7, i7 := i7, ci13 := ci13, i13 := i13, ci17 := ci17, i17 := i17, ci20 := ci20, i20 := i20, ci24 := ci24, i24 := i24 }, ?_, hc, hnF, hn0, hff17, hff13, hn17, ht17⟩
  exact { owns := howns, noFinalization := hfin, cls := hk, name := hname, boot := Vm.findClass_boot hc hk, notInterface := hni, initialized := hinit, statics := hsta, fillAt := hatF, fillCode := hcFc, fillBytes := hbF, fillLocals := hlF, fillLocks := hlkF, fillStatic := hstF, fillAbstract := habF, fillReturns := hrF, fillParams := pF, fill0At := hat0, fill0Name := hnm0, fill0Desc := hds0, fill0Params := p0, fill0Static := hst0, fill0Native := hnat0, fill0Code := hcode0, fill0Locks := hlocks0, fill0Abstract := hab0, stackInstance := hs17, stackNotFinal := hf17, unassignedStatic := hs13, objClass := hkO, objClassName := hnameO, objMethod := hmO, objName := hnmO, objStatic := hstO, objAbstract := habO, objFound := by rw [hdsO]; exact lookupSpecial_of_named hnO hmO hstO, objParams := pO, objCode := hcO, objBytes := hbO, objLocks := hlkO, causeInstance := hs7, causeNotFinal := hf7, sentinelStatic := hs20, suppInstance := hs24, suppNotFinal := hf24, msgInstance := hs7, msgNotFinal := hf7, stackApartSupp := hapart, file := hcf, mlink1 := hl1, mright1 := hr1, pool1 := hp1, mlink27 := hl27, mright27 := hr27, pool27 := hp27, mlink202 := hl202, mright202 := hr202, pool202 := hp202, link7 := hk7, right7 := hg7, at7 := ha7, link13 := hk13, right13 := hg13, at13 := ha13, link17 := hk17, right17 := hg17, at17 := ha17, link20 := hk20, right20 := hg20, at20 := ha20, link24 := hk24, right24 := hg24, at24 := ha24 }
theorem narV {ty : FieldType} {v : Value} (h : v.isRef = true) : narrow ty v = v := by
  cases v <;> first | (cases ty <;> rfl) | cases h
theorem fitV {ty : FieldType} {v : Value} (h : v.isRef = true) (ht : ty.isReference = true := by rfl) : fits ty v = true := by
  cases v <;> first | (cases h; done) | (cases ty <;> first | rfl | (cases ht; done))
theorem own_fr3 {n0 : Nat} {a : Addr} {x y z : Nat} (q : n0 ≤ a) : Fr n0 [⟨a, x⟩, ⟨a, y⟩, ⟨a, z⟩] := fun l hl => by
  simp only [List.mem_cons, List.not_mem_nil, or_false] at hl
  rcases hl with rfl | rfl | rfl <;> exact q
set_option maxRecDepth 65536 in
set_option maxHeartbeats 40000000 in
theorem own_snoc3 {p : Program} {l : Launch} {e : Env} {R : Room} {s : State} {m : MethodId} {args : Array Value} {below : List Frame} {meth : Method} {c : Code} {T : State} {locs : List Loc} {cells slots : Nat} {n0 : Nat} {a : Addr} {x y z : Nat} (_ : Stand p l e R s m args below meth c T (locs ++ [⟨a, x⟩, ⟨a, y⟩, ⟨a, z⟩]) cells slots) (N : Fr n0 locs) (q : n0 ≤ a) : Fr n0 (locs ++ [⟨a, x⟩, ⟨a, y⟩, ⟨a, z⟩]) := Fr.app N (own_fr3 q)
theorem own_fill {p : Program} {l : Launch} {e : Env} {R : Room} {s : State} {m : MethodId} {args : Array Value} {below : List Frame} {meth : Method} {c : Code} {T : State} {locs : List Loc} {cells slots : Nat} {Z : State} {a0 : Array Value} {h : Heap} {g : JFrame} {rest : List Value} {W : Nat} {a : Addr} {u : Value}
    (X : Stand p l e R s m args below meth c T locs cells slots) (hx : p.tables.exec = Jvm.exec) (hl : l.stackTraces = true) (hZ : Z.Warmed39 s.vm) (hw : ∀ d ∈ tables_1, d.before a0 Z = true) (hT0 : ThS Z s.heap) (hown : s.vm.findClass tN = some m.cls) (hKn : s.vm.MethodsKnown ∧ s.vm.FramesKnown below) (eT : T.heap = h)
    (E : Exa Z h a FCN) (N : Unt h a) (hu : u.isRef = true) (hun : u ≠ .null) (B : Fld Z h a tN "backtrace" "Ljava/lang/Object;" .null) (Fs : Fld Z h a tN "stackTrace" steD u) (S : Sta Z h tN "UNASSIGNED_STACK" steD u)
    (hg : g.method = m) (hsize : g.locals.size = c.maxLocals) (hs : g.stack = .ref a :: rest) (hW : 2 * g.monitorRoom + (rest.map fun v => v.category).sum ≤ W) (hd : decode c.code g.pc = .ok (.invokevirtual 27, 3)) (hf : 2 < R.frames) (hlo : W + 42 ≤ R.locals) (hc : cells + 1 ≤ R.cells) (hsl : slots + 2752 ≤ R.slots) :
    ∃ T' h1 h2 h3 h4 v1 v2, Stand p l e R s m args below meth c T' (locs ++ [⟨a, Jvm.RoadKit.slotOf Z tN "backtrace" "Ljava/lang/Object;"⟩, ⟨a, Jvm.RoadKit.slotOf Z tN "depth" "I"⟩, ⟨a, Jvm.RoadKit.slotOf Z tN "stackTrace" steD⟩]) (cells + 1) (slots + 2752) ∧ T'.heap = h4 ∧ Ext h h1 ∧ Wr h1 h2 a (Jvm.RoadKit.slotOf Z tN "backtrace" "Ljava/lang/Object;") v1 ∧ Wr h2 h3 a (Jvm.RoadKit.slotOf Z tN "depth" "I") v2 ∧ Wr h3 h4 a (Jvm.RoadKit.slotOf Z tN "stackTrace" steD) u ∧
      ∀ t, Steps p.tables e below (T'.setTop { g with pc := g.pc + 3, stack := .ref a :: rest }) t → Steps p.tables e below (T.setTop g) t := by
  have htr : e.platform.stackTraces = true := by rw [X.admits.platform]; exact hl
  have howns : e.platform.frameOwnsMonitors = true := by rw [X.admits.platform]
  have hfin : e.platform.finalization = false := by rw [X.admits.platform]
  have hpl : e.platform.magicAccessors = ({} : Platform).magicAccessors := by rw [X.admits.platform]
  have wx : ∀ (i : Nat) (d : Jvm.Cond), tables_1[i]? = some d → xOk d = true → d.holds args s none s [] = true := fun i d h ok => mvX hT0 hZ ok (ww hw i h)
  have hal : Z.vm.Alike s.vm := hZ.alike
  obtain ⟨cell, kc, h1, h2, h3, h4, h5⟩ := E
  obtain ⟨c2, u1, hvm, hmon⟩ := N
  cases h1.symm.trans u1
  have hfound : s.vm.findClass FCN = some cell.cls := by rw [hal.findClass]; exact h2
  obtain ⟨kX, hk, hek⟩ := hal.2.2 _ _ h3
  obtain ⟨c4, k2, i1, i2, i3, -⟩ := Cond.instantiable_spec (ww hw 44 rfl)
  cases h2.symm.trans i1
  cases h3.symm.trans i2
  have hord : kX.kind = .ordinary := by rw [hek]; exact i3
  have hsz : cell.slots.size = kX.instanceTypes.size := by rw [hek]; exact h5 i3
  obtain ⟨T0, L, Yf, Yfill, Yfill0, Ystack, Yun, Ysn, Yst⟩ := own_TL (args := args) hw hT0 hZ howns hfin hpl hfound hk
  have hsel0 : selectMethod e.platform s.vm cell.cls T0.fill0 = .method T0.fill0 := by
    obtain ⟨c2, r2, m2, q1, q2, q3, q4, -⟩ := Cond.selects_spec (wx 202 (.selects FCN tFill0 tFill0) rfl rfl)
    cases Option.some.inj (q1.symm.trans hfound)
    cases Option.some.inj (q2.symm.trans (State.methodFound?_of_named Yfill0 (by decide)))
    cases Option.some.inj (q3.symm.trans Yfill0)
    rw [Launch.admits_selectMethod X.admits]; exact q4
  obtain ⟨cfS, iS, kS, fS, st, cS, t1, t2, t3, t4, t5, t6, t7⟩ := S
  obtain ⟨kS', t1', ekS⟩ := State.fieldFound?_setVm (s := Z) hal t1
  have eU := Option.some.inj (Yun.symm.trans t1')
  simp only [Prod.mk.injEq] at eU
  obtain ⟨eU1, eU2, eU3, eU4⟩ := eU
  have hst : T0.aS = st := Option.some.inj (L.statics.symm.trans (by rw [eU2, ekS]; exact t4))
  have hneS : T0.aS ≠ a := fun q => by
    rw [hst] at q; subst q
    cases h1.symm.trans t5
    rw [hvm] at t6; cases t6
  obtain ⟨c3, cfT, kT, iT, fT, b1, b2, -, -, -, -, b7⟩ := Fs
  cases h1.symm.trans b1
  obtain ⟨kT', b2', -⟩ := State.fieldFound?_setVm (s := Z) hal b2
  have eT4 : T0.fStack = fT := by have q := Option.some.inj (Ystack.symm.trans b2'); simp only [Prod.mk.injEq] at q; exact q.2.2.2
  obtain ⟨ci198, i198, fB, hk198, hg198, ha198, hsB, -, hnB, htB, hffB⟩ := Cond.ownField (t := .object "java/lang/Object") Yf L.cls (by decide +kernel) (wx 198 (.fieldLink tN 198 tN "backtrace" "Ljava/lang/Object;") rfl rfl) (wx 204 (.lays FCN tN "backtrace" "Ljava/lang/Object;") rfl rfl) e.platform hpl
  obtain ⟨c5, cfB, kB, iB, fB2, d1, d2, -, -, -, -, d7⟩ := B
  cases h1.symm.trans d1
  obtain ⟨kB', d2', -⟩ := State.fieldFound?_setVm (s := Z) hal d2
  have eB4 : fB = fB2 := by have q := Option.some.inj (hffB.symm.trans d2'); simp only [Prod.mk.injEq] at q; exact q.2.2.2
  obtain ⟨cD1, kD1, cD, kD, iD, fD, -, -, hffD, hstD, -, -, -, -⟩ := Cond.lays_spec (wx 205 (.lays FCN tN "depth" "I") rfl rfl)
  cases Option.some.inj ((Cond.lays_declared (wx 205 (.lays FCN tN "depth" "I") rfl rfl) hffD).symm.trans Yf)
  obtain ⟨hkD, hatD⟩ := State.fieldFound?_spec hffD
  cases Option.some.inj (hkD.symm.trans L.cls)
  obtain ⟨hnD, htD⟩ := State.fieldFound?_type hffD (t := .int) (by decide +kernel)
  have hfb := Cond.soleField_find Yf L.cls (wx 185 (.soleField tN "backtrace") rfl rfl) ha198 hnB hsB
  have hfd := Cond.soleField_find Yf L.cls (wx 186 (.soleField tN "depth") rfl rfl) hatD hnD hstD
  obtain ⟨comp, cO, kO, -, -, hkO, hkindO, hO⟩ := Cond.arrayOver_spec (wx 184 (.arrayOver (.object "java/lang/Object")) rfl rfl)
  obtain ⟨tyS, dS, hdS, hdnS⟩ := Cond.laysAt hfound hk Ystack (wx 176 (.lays FCN tN "stackTrace" steD) rfl rfl)
  obtain ⟨tyB, dB, hdB, hdnB⟩ := Cond.laysAt hfound hk hffB (wx 204 (.lays FCN tN "backtrace" "Ljava/lang/Object;") rfl rfl)
  obtain ⟨tyD, dD, hdD, hdnD⟩ := Cond.laysAt hfound hk hffD (wx 205 (.lays FCN tN "depth" "I") rfl rfl)
  have tk : ∀ {f : Field} {v : Value}, kX.instanceTypes[f.slot]? = some f.type → fits f.type v = true → Jvm.Takes s cell f v := fun {f v} q1 q2 => by
    obtain ⟨r1, r2⟩ := Takes.of_laid (v := v) hk hord q1 q2
    exact ⟨by rw [hsz]; simpa using r1, by rw [hvm]; exact r2⟩
  obtain ⟨v6, vm6, ⟨T6, L6, c6, n6⟩, hW6, X6, ⟨hv6, vm', lines, hlines, hWv, hU, hL6, hc6, hn6⟩, come⟩ := X.virtualBack hx (own := tN) (C := FCN) (index := 27) (y := tFill) (z := tFill) hown (wx 180 (.methodLink tN 27 tFill) rfl rfl) (wx 181 (.declares tFill) rfl rfl) (notFace_of_selects (wx 183 (.selects FCN tFill tFill) rfl rfl)) (wx 183 (.selects FCN tFill tFill) rfl rfl) (wx 182 (.instanceMethod tFill) rfl rfl) (by decide)
    (Jvm.Free.Str.fillPays (l := l) (W := W) hx htr T0 L Yfill (u0 := ⟨u, hu⟩) hun (self := a) (cell := cell) (cellS := cS) (fun _ => by rw [hvm]; simp) (by rw [hvm]; simp) (by rw [hmon]) (by rw [hmon]) (by rw [eT4]; exact b7) hsel0 hneS (fun q => by rw [q] at t6; cases t6) (by rw [eU4]; exact t7) (tk tyS (by rw [Yst]; exact fits_refV_array _ ⟨u, hu⟩))
      ⟨{ ci198 := ci198, i198 := i198, fBack := fB }, ⟨hk198, hg198, ha198, hsB⟩, by rw [eB4]; exact d7⟩ hKn.1 hKn.2 Yf hO hkO hkindO hfb hfd (fun x => tk tyB (by rw [htB]; rfl)) (fun x => tk tyD (by rw [htD]; rfl)) hf hlo)
    (b := a) (cB := cell.cls) hfound ⟨cell, by rw [eT]; exact h1, rfl, by rw [hvm]; rfl⟩ hg hsize (Steps.refl _) (argsL := []) (rest := rest)
    (fun sig q => by rw [show parseMethodDescriptor tFill.desc = some ⟨[], some (.object tN)⟩ from by decide +kernel] at q; rw [← Option.some.inj q]; rfl) hs hW hd
    (fun vmx hWx => ⟨rfl, hc, hsl, by show T.heap[a]? = _; rw [eT]; exact h1, by show T.heap[T0.aS]? = _; rw [eT, hst]; exact t5⟩)
  dsimp only [Pt.U, Pt.locs, Pt.cells, Pt.slots] at X6 hU hL6 hc6 hn6 come
  subst hv6 hL6 hc6 hn6
  have hlt : a < h.size := (Array.getElem?_eq_some_iff.mp h1).1
  have sB : Jvm.RoadKit.slotOf Z tN "backtrace" "Ljava/lang/Object;" = fB.slot := by rw [eB4]; simp [Jvm.RoadKit.slotOf, d2]
  have sS : Jvm.RoadKit.slotOf Z tN "stackTrace" steD = T0.fStack.slot := by rw [eT4]; simp [Jvm.RoadKit.slotOf, b2]
  obtain ⟨kD2, hffZ, -⟩ := State.fieldFound?_setVm (s := s) hal.symm hffD
  have sD : Jvm.RoadKit.slotOf Z tN "depth" "I" = fD.slot := by simp [Jvm.RoadKit.slotOf, show Z.fieldFound? tN "depth" "I" = _ from hffZ]
  have lB : fB.slot < cell.slots.size := (tk (v := .null) tyB (by rw [htB]; rfl)).1
  have lD : fD.slot < cell.slots.size := (tk (v := .int 0) tyD (by rw [htD]; rfl)).1
  have lS : T0.fStack.slot < cell.slots.size := (tk (v := u) tyS (by rw [Yst]; exact fits_refV_array _ ⟨u, hu⟩)).1
  have hnst : cell.vm.isStatics = false := by rw [hvm]; rfl
  rw [sB, sD, sS]
  have h1' : (h.push (traceHolder cO lines))[a]? = some cell := (Array.getElem?_push_lt hlt).trans ((Array.getElem?_eq_getElem hlt).symm.trans h1)
  have hlt' : a < (h.push (traceHolder cO lines)).size := by rw [Array.size_push]; exact Nat.lt_succ_of_lt hlt
  refine ⟨T6, h.push (traceHolder cO lines), _, _, T6.heap, .ref h.size, .int lines.length.toInt32, X6.more (Nat.le_refl _) (by have q := traceHolder_size_le cO hlines; omega), rfl, ext_of fun b q => Array.getElem?_push_lt q |>.trans (Array.getElem?_eq_getElem q).symm,
    ⟨cell, h1', hnst, lB, rfl⟩, ⟨cell.setSlot fB.slot (.ref h.size), by simp [Array.getElem?_setIfInBounds]; exact Nat.lt_succ_of_lt hlt, hnst, by simpa [Cell.setSlot] using lD, rfl⟩, ⟨(cell.setSlot fB.slot (.ref h.size)).setSlot fD.slot (.int lines.length.toInt32), by simp [Array.getElem?_setIfInBounds]; exact Nat.lt_succ_of_lt hlt, hnst, by simpa [Cell.setSlot] using lS, ?_⟩, fun t k => come.trans k⟩
  rw [hU]
  show ((T.heap.push (traceHolder cO lines)).setIfInBounds a _) = _
  rw [eT]
  simp [Array.setIfInBounds_setIfInBounds, eT]
end Jvm.Pilot.@@N@@
namespace Jvm.Pilot.@@N@@
open Jvm Jvm.ClassFile Sem Op Lib Jvm.Free Jvm.Stand Jvm.LawKit Jvm.RoadKit Bundle Jvm.Pilot.@@N@@.Jvm.D
theorem own_EW {a0 : Array Value} {Z : State} (hw : ∀ d ∈ tables_1, d.before a0 Z = true) : EW Z a0 consts_1 := (EW.cons (ww hw 110 rfl) (by decide) (EW.cons (ww hw 111 rfl) (by decide) (EW.cons (ww hw 36 rfl) (by decide) EW.nil)))
set_option maxRecDepth 65536 in
theorem own_strAtoms : ∀ d ∈ Bundle.stringAtoms, d ∈ tables_1 := by decide +kernel
theorem safeBlank {Z : State} {EL : List (String × Nat)} {vm : Vm} {h : Heap} {x : Addr} (hal : Z.vm.Alike vm) (E : Exa Z h x "java/lang/String") (F : Fld Z h x "java/lang/String" "value" "[B" .null) : Safe Z EL vm h x := fun B => by
  obtain ⟨cell, k, e1, e2, e3, -, -⟩ := E
  obtain ⟨p, -, u, a, -, q, -, G, rfl | rfl⟩ := B
  · obtain ⟨cell', cf, kf, i, f, g1, g2, -, -, -, -, g7⟩ := F
    cases e1.symm.trans g1
    cases (show h[q.sa]? = some q.sC from G.ha).symm.trans e1
    obtain ⟨cS, ⟨⟨-, -, -, ⟨c1, k1, i1, f1, -⟩, -, -, -, v1, -⟩, -⟩, -⟩ := G
    obtain ⟨k3, e5, -⟩ := State.fieldFound?_setVm (s := Z) hal g2
    have e4 := (show (Wst Z vm h).fieldFound? _ _ _ = _ from e5).symm.trans f1
    simp only [Option.some.injEq, Prod.mk.injEq] at e4
    rw [← e4.2.2.2, g7] at v1
    simp at v1
  · cases (show h[q.sd]? = some q.SA from G.hd).symm.trans e1
    obtain ⟨cS, -, -, f, -⟩ := G
    have f' : Z.vm.findClass "[B" = some q.SA.cls := by rw [← hal.findClass]; exact f
    obtain ⟨k1, q1, q2⟩ := Vm.findClass_spec f'
    obtain ⟨k2, q3, q4⟩ := Vm.findClass_spec e2
    cases q1.symm.trans q3
    exact absurd (q2.symm.trans q4) (by decide)
end Jvm.Pilot.@@N@@
namespace Jvm.Pilot.@@N@@
open Jvm Jvm.ClassFile Sem Op Lib Jvm.Free Jvm.Stand Jvm.LawKit Jvm.RoadKit Bundle Jvm.Pilot.@@N@@.Jvm.D
abbrev un : Slot := .unset
theorem leB {n m : Nat} (h : Nat.ble n m = true) : n ≤ m := Nat.le_of_ble_eq_true h
abbrev dd (c : ByteArray) (n : Nat) (i : Instr) (k : Nat) : Prop := decode c n = .ok (i, k)
theorem d6_0 : dd jdk_52_method_21_code 0 (.iconst 0) 1 := by decide +kernel
theorem d6_1 : dd jdk_52_method_21_code 1 (.istore 5) 2 := by decide +kernel
theorem d6_3 : dd jdk_52_method_21_code 3 (.iload 5) 2 := by decide +kernel
theorem d6_5 : dd jdk_52_method_21_code 5 (.iload 4) 2 := by decide +kernel
theorem d6_7 : dd jdk_52_method_21_code 7 (.if_icmp .ge 37) 3 := by decide +kernel
theorem d6_44 : dd jdk_52_method_21_code 44 (.iload 4) 2 := by decide +kernel
theorem d6_46 : dd jdk_52_method_21_code 46 .ireturn 1 := by decide +kernel
theorem d6_10 : dd jdk_52_method_21_code 10 (.aload_n 0) 1 := by decide +kernel
theorem d6_11 : dd jdk_52_method_21_code 11 (.iload_n 1) 1 := by decide +kernel
theorem d6_12 : dd jdk_52_method_21_code 12 .caload 1 := by decide +kernel
theorem d6_13 : dd jdk_52_method_21_code 13 (.istore 6) 2 := by decide +kernel
theorem d6_15 : dd jdk_52_method_21_code 15 (.iload 6) 2 := by decide +kernel
theorem d6_17 : dd jdk_52_method_21_code 17 (.sipush 255) 3 := by decide +kernel
theorem d6_20 : dd jdk_52_method_21_code 20 (.if_icmp .le 6) 3 := by decide +kernel
theorem d6_23 : dd jdk_52_method_21_code 23 (.iload 5) 2 := by decide +kernel
theorem d6_25 : dd jdk_52_method_21_code 25 .ireturn 1 := by decide +kernel
theorem d6_26 : dd jdk_52_method_21_code 26 (.aload_n 2) 1 := by decide +kernel
theorem d6_27 : dd jdk_52_method_21_code 27 (.iload_n 3) 1 := by decide +kernel
theorem d6_28 : dd jdk_52_method_21_code 28 (.iload 6) 2 := by decide +kernel
theorem d6_30 : dd jdk_52_method_21_code 30 .i2b 1 := by decide +kernel
theorem d6_31 : dd jdk_52_method_21_code 31 .bastore 1 := by decide +kernel
theorem d6_32 : dd jdk_52_method_21_code 32 (.iinc 1 1) 3 := by decide +kernel
theorem d6_35 : dd jdk_52_method_21_code 35 (.iinc 3 1) 3 := by decide +kernel
theorem d6_38 : dd jdk_52_method_21_code 38 (.iinc 5 1) 3 := by decide +kernel
theorem d6_41 : dd jdk_52_method_21_code 41 (.goto (-38)) 3 := by decide +kernel
abbrev y_0 : MethodName := ⟨"java/lang/StringUTF16", "compress", "([CI[BII)I"⟩
theorem pn_0 : plainFor y_0 = true := by first | exact plainFor_of_name (by first | (simp [plainName, overriddenIn]; done) | decide +kernel) | decide +kernel
theorem ef_rmCmp5 (m : MethodId) (a1 : Addr) (a3 : Addr) (pn : Int32) : entryFrame m #[(.ref a1), (.int 0), (.ref a3), (.int 0), (.int pn)] 7 = mkF m 0 #[sr a1, si 0, sr a3, si 0, si pn, un, un] [] := by first | (simp [entryFrame, mkF, argsToLocals, Value.category]; done) | rfl
def Q_rmCmp5 (Z : State) (a1 : Addr) (a3 : Addr) (pn : Int32) (kC : ClassId) (kB : ClassId) (cs : List Int32) (dC : Value) (h0 : Heap) (n0 : Nat) (v : Option Value) (h : Heap) (L : List Loc) : Prop := v = some (.int (Int32.ofNat (own_k cs))) ∧ Fr n0 L ∧ Keep h0 h [a3] ∧ (Arv Z h a3 kB .byte pn ((cs.take (own_k cs)).map fun c => Value.int (StrChars.lo8 c)) (.int 0))
set_option maxRecDepth 65536 in
set_option maxHeartbeats 40000000 in
theorem rmCmp5 (l : Launch) (Z : State) (a0 : Array Value) (hw : ∀ d ∈ tables_1, d.before a0 Z = true) (ws : List Jvm.Cond) (a1 : Addr) (a3 : Addr) (pn : Int32) (kC : ClassId) (kB : ClassId) (cs : List Int32) (dC : Value) (h0 : Heap) (n0 : Nat) (Z0 : n0 ≤ h0.size) (hn : pn = Int32.ofNat cs.length) (hl : cs.length ≤ 16) (hp2 : Arv Z h0 a1 kC .char pn (cs.map Value.int) dC) (hp3 : Arv Z h0 a3 kB .byte pn [] (.int 0)) (hp4 : n0 ≤ a3) (hp5 : a1 ≠ a3) :
    MetFree l y_0 (head1 (Jvm.Cond.code y_0 jdk_52_method_21_code 7 (some .int) :: ws) ({ frames := 0, cells := 0, slots := 0, locals := 0 } : Room)) (fun a U => a = #[(.ref a1), (.int 0), (.ref a3), (.int 0), (.int pn)] ∧ Z.Warmed39 U.vm ∧ U.heap = h0) (fun _ _ _ _ _ => True) (fun _ U o U' => ∃ v L, o = .returned v ∧ Q_rmCmp5 Z a1 a3 pn kC kB cs dC h0 n0 v U'.heap L ∧ FrameEnd U o U' L ({ frames := 0, cells := 0, slots := 0, locals := 0 } : Room).cells ({ frames := 0, cells := 0, slots := 0, locals := 0 } : Room).slots) := by
 refine bodyOf pn_0 (fun m => ef_rmCmp5 m a1 a3 pn) ?_
 intro p e s m below meth c T0 X0 hx hby hml hown hnm hret hk hZ e0
 have N0 := Fr.nil n0
 have K0 : Keep h0 h0 [a3] := Keep.refl _ _
 have ne_a1_a3 := hp5
 refine go (S' := T0.setTop (mkF m 3 #[sr a1, si 0, sr a3, si 0, si pn, si 0, un] [])) (fun t k => XS.iconst X0.here hx rfl (hb hby d6_0) (XS.istore X0.here hx rfl (hb hby d6_1) rfl (l' := #[sr a1, si 0, sr a3, si 0, si pn, si 0, un]) rfl k)) ?_
 have loop5 : ∀ (r : Nat) (i : Nat) (s6 : Slot) (T : State) (locs : List Loc) (h : Heap), (i + r = cs.length) → (∀ j, j < i → ¬ (255 : Int32) < cs.getD j 0) → (One s6) → Stand p l e ({ frames := 0, cells := 0, slots := 0, locals := 0 } : Room) s m #[(.ref a1), (.int 0), (.ref a3), (.int 0), (.int pn)] below meth c T locs 0 0 → T.heap = h → Fr n0 locs → Keep h0 h [a3] → Arv Z h a1 kC .char pn (cs.map Value.int) dC → Arv Z h a3 kB .byte pn ((cs.take i).map fun c => Value.int (StrChars.lo8 c)) (.int 0) → Goes p.tables e below (EndP s below (Q_rmCmp5 Z a1 a3 pn kC kB cs dC h0 n0) ({ frames := 0, cells := 0, slots := 0, locals := 0 } : Room).cells ({ frames := 0, cells := 0, slots := 0, locals := 0 } : Room).slots) (T.setTop (mkF m 3 #[sr a1, si (Int32.ofNat i), sr a3, si (Int32.ofNat i), si pn, si (Int32.ofNat i), s6] [])) := by
  intro r
  induction r with
  | zero =>
   intro i s6 T locs h hi hbd hs6 X eT N K lf1_0 lf1_1
   refine go (S' := T.setTop (mkF m 7 #[sr a1, si (Int32.ofNat i), sr a3, si (Int32.ofNat i), si pn, si (Int32.ofNat i), s6] [(.int pn), (.int (Int32.ofNat i))])) (fun t k => XS.iload X.here hx rfl (hb hby d6_3) rfl (XS.iload X.here hx rfl (hb hby d6_5) rfl k)) ?_
   have hc2 : ¬ ((Int32.ofNat i) < pn) := by rw [hn]; exact oj_nlt (by omega) (by omega) (by omega)
   refine go (S' := T.setTop (mkF m 46 #[sr a1, si (Int32.ofNat i), sr a3, si (Int32.ofNat i), si pn, si (Int32.ofNat i), s6] [(.int pn)])) (fun t k => XS.icmpYes X.here hx rfl (pc0 := 7) (pc' := 44) rfl (hb hby d6_7) rfl (flt hc2).2.1 (by decide) (by decide) (XS.iload X.here hx rfl (hb hby d6_44) rfl k)) ?_
   refine finI X hx hk hret (hb hby d6_46) (by decide) (by decide) ?_
   have hk5 : own_k cs = i := (own_k_all cs (fun j hj => hbd j (by omega))).trans (by omega)
   rw [eT]
   refine ⟨?_, N, K, ?_⟩
   · rw [hk5, hn, ← (by omega : i = cs.length)]
   · rw [hk5]; exact lf1_1
  | succ r ih =>
   intro i s6 T locs h hi hbd hs6 X eT N K lf1_0 lf1_1
   refine go (S' := T.setTop (mkF m 7 #[sr a1, si (Int32.ofNat i), sr a3, si (Int32.ofNat i), si pn, si (Int32.ofNat i), s6] [(.int pn), (.int (Int32.ofNat i))])) (fun t k => XS.iload X.here hx rfl (hb hby d6_3) rfl (XS.iload X.here hx rfl (hb hby d6_5) rfl k)) ?_
   have hc3 : (Int32.ofNat i) < pn := by rw [hn]; exact oj_lt (by omega) (by omega)
   refine go (S' := T.setTop (mkF m 12 #[sr a1, si (Int32.ofNat i), sr a3, si (Int32.ofNat i), si pn, si (Int32.ofNat i), s6] [(.int (Int32.ofNat i)), (.ref a1)])) (fun t k => XS.icmpNo X.here hx rfl (hb hby d6_7) rfl (tlt hc3).2.1 (XS.aloadN X.here hx rfl (hb hby d6_10) rfl rfl (XS.iloadN X.here hx rfl (hb hby d6_11) rfl k))) ?_
   obtain ⟨cl4, Ar4, q4, S4, M4, H4, G4⟩ := id lf1_0
   have hin4 : ¬ ((Int32.ofNat i) < 0 ∨ cl4.slots.size ≤ ((Int32.ofNat i)).toNatClampNeg) := oj_in S4 hn (by omega) (by omega)
   have hat4 : cl4.slots[((Int32.ofNat i)).toNatClampNeg]? = some (.int (cs.getD i 0)) := Has.at H4 hin4 (by rw [oj_n (by omega)]; exact oj_get cs (by omega) _)
   refine go (S' := T.setTop (mkF m 20 #[sr a1, si (Int32.ofNat i), sr a3, si (Int32.ofNat i), si pn, si (Int32.ofNat i), si (cs.getD i 0)] [(.int 255), (.int (cs.getD i 0))])) (fun t k => X.caload hx (j := (Int32.ofNat i)) (v := (.int (cs.getD i 0))) (by rw [eT]; exact Ar4.1) (State.isArrayOf_alike hZ.alike Ar4.2.1) Ar4.2.2 hin4 hat4 (g := (mkF m 12 #[sr a1, si (Int32.ofNat i), sr a3, si (Int32.ofNat i), si pn, si (Int32.ofNat i), s6] [(.int (Int32.ofNat i)), (.ref a1)])) rfl rfl (hb hby d6_12) _ (XS.istore X.here hx rfl (hb hby d6_13) rfl (l' := #[sr a1, si (Int32.ofNat i), sr a3, si (Int32.ofNat i), si pn, si (Int32.ofNat i), si (cs.getD i 0)]) (XS.store1 rfl hs6 rfl) (XS.iload X.here hx rfl (hb hby d6_15) rfl (XS.sipush X.here hx rfl (hb hby d6_17) k)))) ?_
   by_cases hc5 : (255 : Int32) < (cs.getD i 0)
   ·
    refine go (S' := T.setTop (mkF m 25 #[sr a1, si (Int32.ofNat i), sr a3, si (Int32.ofNat i), si pn, si (Int32.ofNat i), si (cs.getD i 0)] [(.int (Int32.ofNat i))])) (fun t k => XS.icmpNo X.here hx rfl (hb hby d6_20) rfl (tlt hc5).2.2.2 (XS.iload X.here hx rfl (hb hby d6_23) rfl k)) ?_
    refine finI X hx hk hret (hb hby d6_25) (by decide) (by decide) ?_
    have hk5 : own_k cs = i := own_k_at cs i hbd (by omega) hc5
    rw [eT]
    refine ⟨?_, N, K, ?_⟩
    · rw [hk5]
    · rw [hk5]; exact lf1_1
   ·
    refine go (S' := T.setTop (mkF m 31 #[sr a1, si (Int32.ofNat i), sr a3, si (Int32.ofNat i), si pn, si (Int32.ofNat i), si (cs.getD i 0)] [(.int ((cs.getD i 0).toInt8.toInt32)), (.int (Int32.ofNat i)), (.ref a3)])) (fun t k => XS.icmpYes X.here hx rfl (pc0 := 20) (pc' := 26) rfl (hb hby d6_20) rfl (flt hc5).2.2.2 (by decide) (by decide) (XS.aloadN X.here hx rfl (hb hby d6_26) rfl rfl (XS.iloadN X.here hx rfl (hb hby d6_27) rfl (XS.iload X.here hx rfl (hb hby d6_28) rfl (XS.i2b X.here hx rfl (hb hby d6_30) rfl k))))) ?_
    obtain ⟨cl6, Ar6, q6, S6, M6, H6, G6⟩ := id lf1_1
    have hin6 : ¬ ((Int32.ofNat i) < 0 ∨ cl6.slots.size ≤ ((Int32.ofNat i)).toNatClampNeg) := oj_in S6 hn (by omega) (by omega)
    obtain ⟨T6, h6, X6, e6, W6, st6⟩ := stB X hx hZ eT Ar6 (j := (Int32.ofNat i)) hin6 (g := (mkF m 31 #[sr a1, si (Int32.ofNat i), sr a3, si (Int32.ofNat i), si pn, si (Int32.ofNat i), si (cs.getD i 0)] [(.int ((cs.getD i 0).toInt8.toInt32)), (.int (Int32.ofNat i)), (.ref a3)])) rfl rfl (hb hby d6_31)
    have V6 : Arv Z h6 a3 kB .byte pn ((cs.take (i + 1)).map fun c => Value.int (StrChars.lo8 c)) (.int 0) := by
     have q := arvSnoc Ar6 q6 S6 M6 H6 G6 (fits_nar_byte _) W6 (by rw [oj_n (by omega)]; simp; omega)
     (first | rw [oj_narb] at q | rw [oj_bb] at q); rw [← StrChars.lo8] at q; rw [← oj_take cs (by omega)]; exact q
    have K7 : Keep h0 h6 [a3] := K.wr W6 (Or.inl (List.mem_of_getElem? (i := 0) rfl))
    have N8 := Fr.snoc X6 N hp4
    refine go (S' := T6.setTop (mkF m 3 #[sr a1, si ((Int32.ofNat i) + (1 : Int32)), sr a3, si ((Int32.ofNat i) + (1 : Int32)), si pn, si ((Int32.ofNat i) + (1 : Int32)), si (cs.getD i 0)] [])) (fun t k => st6 _ (XS.iinc X6.here hx rfl (hb hby d6_32) rfl (l' := #[sr a1, si ((Int32.ofNat i) + (1 : Int32)), sr a3, si (Int32.ofNat i), si pn, si (Int32.ofNat i), si (cs.getD i 0)]) rfl (XS.iinc X6.here hx rfl (hb hby d6_35) rfl (l' := #[sr a1, si ((Int32.ofNat i) + (1 : Int32)), sr a3, si ((Int32.ofNat i) + (1 : Int32)), si pn, si (Int32.ofNat i), si (cs.getD i 0)]) rfl (XS.iinc X6.here hx rfl (hb hby d6_38) rfl (l' := #[sr a1, si ((Int32.ofNat i) + (1 : Int32)), sr a3, si ((Int32.ofNat i) + (1 : Int32)), si pn, si ((Int32.ofNat i) + (1 : Int32)), si (cs.getD i 0)]) rfl (XS.goto X6.here hx rfl (pc0 := 41) (pc' := 3) rfl (hb hby d6_41) (by decide) (by decide) k))))) ?_
    rw [oj_one i]
    have f9 : Arv Z h6 a1 kC .char pn (cs.map Value.int) dC := (lf1_0.other W6 ne_a1_a3)
    exact ih (i + 1) _ _ _ _ (by omega) (fun j hj => by by_cases qj : j < i; exact hbd j qj; rw [(by omega : j = i)]; exact hc5) (One.val rfl) X6 e6 N8 K7 f9 V6
 exact loop5 cs.length 0 _ _ _ _ (Nat.zero_add _) (fun j hj => absurd hj (Nat.not_lt_zero _)) One.u X0 e0 N0 K0 hp2 hp3
theorem d51_0 : dd jdk_52_method_3_code 0 (.iload_n 0) 1 := by decide +kernel
theorem d51_1 : dd jdk_52_method_3_code 1 (.ifCond .ge 11) 3 := by decide +kernel
theorem d51_12 : dd jdk_52_method_3_code 12 (.iload_n 0) 1 := by decide +kernel
theorem d51_13 : dd jdk_52_method_3_code 13 (.ldc 20) 2 := by decide +kernel
theorem d51_15 : dd jdk_52_method_3_code 15 (.if_icmp .lt 40) 3 := by decide +kernel
theorem d51_55 : dd jdk_52_method_3_code 55 (.iload_n 0) 1 := by decide +kernel
theorem d51_56 : dd jdk_52_method_3_code 56 (.iconst 1) 1 := by decide +kernel
theorem d51_57 : dd jdk_52_method_3_code 57 .ishl 1 := by decide +kernel
theorem d51_58 : dd jdk_52_method_3_code 58 .ireturn 1 := by decide +kernel
abbrev y_1 : MethodName := ⟨"java/lang/StringUTF16", "newBytesLength", "(I)I"⟩
theorem pn_1 : plainFor y_1 = true := by first | exact plainFor_of_name (by first | (simp [plainName, overriddenIn]; done) | decide +kernel) | decide +kernel
theorem ef_rmNbl (m : MethodId) (p1 : Int32) : entryFrame m #[(.int p1)] 1 = mkF m 0 #[si p1] [] := by first | (simp [entryFrame, mkF, argsToLocals, Value.category]; done) | rfl
def Q_rmNbl (Z : State) (p1 : Int32) (h0 : Heap) (n0 : Nat) (v : Option Value) (h : Heap) (L : List Loc) : Prop := v = some (.int (p1 <<< ((1 : Int32) &&& 31))) ∧ Fr n0 L ∧ h = h0
set_option maxRecDepth 65536 in
set_option maxHeartbeats 40000000 in
theorem rmNbl (l : Launch) (Z : State) (a0 : Array Value) (hw : ∀ d ∈ tables_1, d.before a0 Z = true) (ws : List Jvm.Cond) (p1 : Int32) (h0 : Heap) (n0 : Nat) (Z0 : n0 ≤ h0.size) (hz0 : ¬ (p1 < (0 : Int32))) (hz1 : p1 < (1073741823 : Int32)) :
    MetFree l y_1 (head1 (Jvm.Cond.code y_1 jdk_52_method_3_code 1 (some .int) :: ws) ({ frames := 0, cells := 0, slots := 0, locals := 0 } : Room)) (fun a U => a = #[(.int p1)] ∧ Z.Warmed39 U.vm ∧ U.heap = h0) (fun _ _ _ _ _ => True) (fun _ U o U' => ∃ v L, o = .returned v ∧ Q_rmNbl Z p1 h0 n0 v U'.heap L ∧ FrameEnd U o U' L ({ frames := 0, cells := 0, slots := 0, locals := 0 } : Room).cells ({ frames := 0, cells := 0, slots := 0, locals := 0 } : Room).slots) := by
 refine bodyOf pn_1 (fun m => ef_rmNbl m p1) ?_
 intro p e s m below meth c T0 X0 hx hby hml hown hnm hret hk hZ e0
 have N0 := Fr.nil n0
 have K0 : Keep h0 h0 [] := Keep.refl _ _
 refine go (S' := T0.setTop (mkF m 58 #[si p1] [(.int (p1 <<< ((1 : Int32) &&& 31)))])) (fun t k => XS.iloadN X0.here hx rfl (hb hby d51_0) rfl (XS.ifYes X0.here hx rfl (pc0 := 1) (pc' := 12) rfl (hb hby d51_1) rfl ((if0 _ _).trans (flt hz0).2.1) (by decide) (by decide) (XS.iloadN X0.here hx rfl (hb hby d51_12) rfl (X0.ldcInt hx hown (mvT hZ (ww hw 278 rfl)) (g := (mkF m 13 #[si p1] [(.int p1)])) rfl (hb hby d51_13) _ (XS.icmpYes X0.here hx rfl (pc0 := 15) (pc' := 55) rfl (hb hby d51_15) rfl (tlt hz1).1 (by decide) (by decide) (XS.iloadN X0.here hx rfl (hb hby d51_55) rfl (XS.iconst X0.here hx rfl (hb hby d51_56) (XS.ishl X0.here hx rfl (hb hby d51_57) rfl k)))))))) ?_
 refine finI X0 hx hk hret (hb hby d51_58) (by decide) (by decide) ?_
 rw [e0]
 exact ⟨rfl, N0, rfl⟩
theorem d50_0 : dd jdk_52_method_2_code 0 (.iload_n 0) 1 := by decide +kernel
theorem d50_1 : dd jdk_52_method_2_code 1 (.invokestatic 11) 3 := by decide +kernel
theorem pd_0 : parseMethodDescriptor "(I)I" = some ⟨[.int], some .int⟩ := by decide +kernel
theorem d50_4 : dd jdk_52_method_2_code 4 (.newarray .byte) 2 := by decide +kernel
theorem d50_6 : dd jdk_52_method_2_code 6 .areturn 1 := by decide +kernel
abbrev y_2 : MethodName := ⟨"java/lang/StringUTF16", "newBytesFor", "(I)[B"⟩
theorem pn_2 : plainFor y_2 = true := by first | exact plainFor_of_name (by first | (simp [plainName, overriddenIn]; done) | decide +kernel) | decide +kernel
theorem ef_rmNbf (m : MethodId) (p1 : Int32) : entryFrame m #[(.int p1)] 1 = mkF m 0 #[si p1] [] := by first | (simp [entryFrame, mkF, argsToLocals, Value.category]; done) | rfl
def Q_rmNbf (Z : State) (p1 : Int32) (n : Nat) (h0 : Heap) (n0 : Nat) (v : Option Value) (h : Heap) (L : List Loc) : Prop := ∃ (t : Addr), ∃ (kb : ClassId), v = some (.ref t) ∧ Fr n0 L ∧ Keep h0 h [] ∧ (h0.size ≤ t) ∧ (Arv Z h t kb .byte (Int32.ofNat (2 * n)) [] (.int 0))
set_option maxRecDepth 65536 in
set_option maxHeartbeats 40000000 in
theorem rmNbf (l : Launch) (Z : State) (a0 : Array Value) (hw : ∀ d ∈ tables_1, d.before a0 Z = true) (ws : List Jvm.Cond) (p1 : Int32) (n : Nat) (h0 : Heap) (n0 : Nat) (Z0 : n0 ≤ h0.size) (hn : p1 = Int32.ofNat n) (hl : n ≤ 16) :
    MetFree l y_2 (head1 (Jvm.Cond.code y_2 jdk_52_method_2_code 1 (some (.array .byte)) :: ws) ({ frames := 1, cells := 1, slots := 32, locals := 12 } : Room)) (fun a U => a = #[(.int p1)] ∧ Z.Warmed39 U.vm ∧ U.heap = h0) (fun _ _ _ _ _ => True) (fun _ U o U' => ∃ v L, o = .returned v ∧ Q_rmNbf Z p1 n h0 n0 v U'.heap L ∧ FrameEnd U o U' L ({ frames := 1, cells := 1, slots := 32, locals := 12 } : Room).cells ({ frames := 1, cells := 1, slots := 32, locals := 12 } : Room).slots) := by
 refine bodyOf pn_2 (fun m => ef_rmNbf m p1) ?_
 intro p e s m below meth c T0 X0 hx hby hml hown hnm hret hk hZ e0
 have N0 := Fr.nil n0
 have K0 : Keep h0 h0 [] := Keep.refl _ _
 have hz0 : ¬ (p1 < (0 : Int32)) := by rw [hn]; exact oj_nn (by omega)
 have hz1 : p1 < (1073741823 : Int32) := by rw [hn]; exact (Int32.ofNat_lt_ofNat (n := 1073741823) (by omega) (by omega)).mpr (by omega)
 refine go (S' := T0.setTop (mkF m 1 #[si p1] [(.int p1)])) (fun t k => XS.iloadN X0.here hx rfl (hb hby d50_0) rfl k) ?_
 obtain ⟨v10, T10, L10, X10, hQ10, st10⟩ := callSt X0 hx hZ (y := y_1) hown (ww hw 275 rfl) (ww hw 276 rfl) (ww hw 23 rfl) (ww hw 277 rfl) (by decide) (backOf (W := 0) (rmNbl l Z a0 hw [] p1 h0 n0 (Nat.le_trans Z0 K0.1) hz0 hz1) hZ (ww hw 277 rfl) (ww hw 23 rfl) (by decide) (by decide)) (g := (mkF m 1 #[si p1] [(.int p1)])) rfl (by rw [hml]; rfl) (kc := 0) (ks := 0) (argsL := [(.int p1)]) (rest := []) (lenOf pd_0 rfl) rfl (mr0 rfl) (hb hby d50_1) e0 (by decide) (by decide)
 obtain ⟨rfl, N10q, e10⟩ := hQ10
 have N10 := Fr.app N0 N10q
 refine go (S' := T10.setTop (mkF m 4 #[si p1] [(.int (p1 <<< ((1 : Int32) &&& 31)))])) st10 ?_
 rw [hn, oj_dbl (by omega)]
 obtain ⟨T11, h11, k11, X11, e11, E11, A11, st11⟩ := newP X10 hx hZ (ww hw 25 rfl) e10 (g := (mkF m 4 #[si (Int32.ofNat n)] [(.int (Int32.ofNat (2 * n)))])) rfl (hb hby d50_4) rfl (oj_nn (by omega)) (cap := 32) (by rw [oj_n (by omega)]; omega) (by decide) (by decide) (by decide)
 obtain ⟨b11, g11⟩ : ∃ z, z = h0.size := ⟨_, rfl⟩
 rw [← g11] at A11 st11
 have ge_b11 : n0 ≤ b11 := by rw [g11]; exact (Nat.le_trans Z0 K0.1)
 have sz_b11 : h0.size ≤ b11 := by rw [g11]; exact K0.1
 have K12 : Keep h0 h11 [] := K0.ext E11
 have V11 : Arv Z h11 b11 k11 .byte (Int32.ofNat (2 * n)) [] (.int 0) := Arv.new A11 (oj_nn (by omega))
 refine go (S' := T11.setTop (mkF m 6 #[si (Int32.ofNat n)] [(.ref b11)])) st11 ?_
 refine finR X11 hx hk hret rfl rfl (hb hby d50_6) (by decide) (by decide) ?_
 rw [e11]
 exact ⟨b11, k11, rfl, N10, K12, sz_b11, V11⟩
theorem d48_0 : dd jdk_52_method_4_code 0 (.getstatic 44) 3 := by decide +kernel
theorem d48_3 : dd jdk_52_method_4_code 3 (.ifCond .ne 25) 3 := by decide +kernel
theorem d48_28 : dd jdk_52_method_4_code 28 (.iload_n 1) 1 := by decide +kernel
theorem d48_29 : dd jdk_52_method_4_code 29 (.iconst 1) 1 := by decide +kernel
theorem d48_30 : dd jdk_52_method_4_code 30 .ishl 1 := by decide +kernel
theorem d48_31 : dd jdk_52_method_4_code 31 (.istore_n 1) 1 := by decide +kernel
theorem d48_32 : dd jdk_52_method_4_code 32 (.aload_n 0) 1 := by decide +kernel
theorem d48_33 : dd jdk_52_method_4_code 33 (.iload_n 1) 1 := by decide +kernel
theorem d48_34 : dd jdk_52_method_4_code 34 (.iinc 1 1) 3 := by decide +kernel
theorem d48_37 : dd jdk_52_method_4_code 37 (.iload_n 2) 1 := by decide +kernel
theorem d48_38 : dd jdk_52_method_4_code 38 (.getstatic 59) 3 := by decide +kernel
theorem d48_41 : dd jdk_52_method_4_code 41 .ishr 1 := by decide +kernel
theorem d48_42 : dd jdk_52_method_4_code 42 .i2b 1 := by decide +kernel
theorem d48_43 : dd jdk_52_method_4_code 43 .bastore 1 := by decide +kernel
theorem d48_44 : dd jdk_52_method_4_code 44 (.aload_n 0) 1 := by decide +kernel
theorem d48_45 : dd jdk_52_method_4_code 45 (.iload_n 1) 1 := by decide +kernel
theorem d48_46 : dd jdk_52_method_4_code 46 (.iload_n 2) 1 := by decide +kernel
theorem d48_47 : dd jdk_52_method_4_code 47 (.getstatic 63) 3 := by decide +kernel
theorem d48_50 : dd jdk_52_method_4_code 50 .ishr 1 := by decide +kernel
theorem d48_51 : dd jdk_52_method_4_code 51 .i2b 1 := by decide +kernel
theorem d48_52 : dd jdk_52_method_4_code 52 .bastore 1 := by decide +kernel
theorem d48_53 : dd jdk_52_method_4_code 53 .return_ 1 := by decide +kernel
abbrev y_3 : MethodName := ⟨"java/lang/StringUTF16", "putChar", "([BII)V"⟩
theorem pn_3 : plainFor y_3 = true := by first | exact plainFor_of_name (by first | (simp [plainName, overriddenIn]; done) | decide +kernel) | decide +kernel
theorem ef_rmPut (m : MethodId) (a1 : Addr) (p2 : Int32) (p3 : Int32) : entryFrame m #[(.ref a1), (.int p2), (.int p3)] 3 = mkF m 0 #[sr a1, si p2, si p3] [] := by first | (simp [entryFrame, mkF, argsToLocals, Value.category]; done) | rfl
def Q_rmPut (Z : State) (a1 : Addr) (p2 : Int32) (p3 : Int32) (kB : ClassId) (m_ : Nat) (n : Nat) (vs : List Value) (h0 : Heap) (n0 : Nat) (v : Option Value) (h : Heap) (L : List Loc) : Prop := v = none ∧ Fr n0 L ∧ Keep h0 h [a1] ∧ (Arv Z h a1 kB .byte (Int32.ofNat (2 * n)) (vs ++ [.int (StrChars.lo8 p3)] ++ [.int (StrChars.hi8 p3)]) (.int 0))
set_option maxRecDepth 65536 in
set_option maxHeartbeats 40000000 in
theorem rmPut (l : Launch) (Z : State) (a0 : Array Value) (hw : ∀ d ∈ tables_1, d.before a0 Z = true) (ws : List Jvm.Cond) (a1 : Addr) (p2 : Int32) (p3 : Int32) (kB : ClassId) (m_ : Nat) (n : Nat) (vs : List Value) (h0 : Heap) (n0 : Nat) (Z0 : n0 ≤ h0.size) (hp0 : Arv Z h0 a1 kB .byte (Int32.ofNat (2 * n)) vs (.int 0)) (hm : p2 = Int32.ofNat m_) (hv : vs.length = 2 * m_) (hmn : m_ < n) (hl : n ≤ 16) (hp5 : n0 ≤ a1) (hp6 : Sta Z Z.heap "java/lang/StringUTF16" "$assertionsDisabled" "Z" (.int 1)) (hp7 : Sta Z Z.heap "java/lang/StringUTF16" "HI_BYTE_SHIFT" "I" (.int 0)) (hp8 : Sta Z Z.heap "java/lang/StringUTF16" "LO_BYTE_SHIFT" "I" (.int 8)) (hp9 : Old Z n0 h0) :
    MetFree l y_3 (head1 (Jvm.Cond.code y_3 jdk_52_method_4_code 3 none :: ws) ({ frames := 0, cells := 0, slots := 0, locals := 0 } : Room)) (fun a U => a = #[(.ref a1), (.int p2), (.int p3)] ∧ Z.Warmed39 U.vm ∧ U.heap = h0) (fun _ _ _ _ _ => True) (fun _ U o U' => ∃ v L, o = .returned v ∧ Q_rmPut Z a1 p2 p3 kB m_ n vs h0 n0 v U'.heap L ∧ FrameEnd U o U' L ({ frames := 0, cells := 0, slots := 0, locals := 0 } : Room).cells ({ frames := 0, cells := 0, slots := 0, locals := 0 } : Room).slots) := by
 refine bodyOf pn_3 (fun m => ef_rmPut m a1 p2 p3) ?_
 intro p e s m below meth c T0 X0 hx hby hml hown hnm hret hk hZ e0
 have N0 := Fr.nil n0
 have K0 : Keep h0 h0 [a1] := Keep.refl _ _
 have O0 := hp9
 have O14 : Old Z n0 h0 := O0.keep K0 (allS hp5 all0)
 obtain ⟨T13, X13, e13, st13⟩ := getS2 X0 hx hZ hown (host := "") (Or.inl (ww hw 266 rfl)) Via.refl e0 (hp6.ext O14.2) (g := (mkF m 0 #[sr a1, si p2, si p3] [])) rfl (hb hby d48_0)
 refine go (S' := T13.setTop (mkF m 3 #[sr a1, si p2, si p3] [(.int 1)])) st13 ?_
 have hc15 : ¬ ((1 : Int32) = (0 : Int32)) := by decide
 refine go (S' := T13.setTop (mkF m 32 #[sr a1, si (p2 <<< ((1 : Int32) &&& 31)), si p3] [])) (fun t k => XS.ifYes X13.here hx rfl (pc0 := 3) (pc' := 28) rfl (hb hby d48_3) rfl ((if0 _ _).trans (feq hc15).2) (by decide) (by decide) (XS.iloadN X13.here hx rfl (hb hby d48_28) rfl (XS.iconst X13.here hx rfl (hb hby d48_29) (XS.ishl X13.here hx rfl (hb hby d48_30) rfl (XS.istoreN X13.here hx rfl (hb hby d48_31) rfl (l' := #[sr a1, si (p2 <<< ((1 : Int32) &&& 31)), si p3]) rfl k))))) ?_
 rw [hm, oj_dbl (by omega)]
 refine go (S' := T13.setTop (mkF m 37 #[sr a1, si ((Int32.ofNat (2 * m_)) + (1 : Int32)), si p3] [(.int (Int32.ofNat (2 * m_))), (.ref a1)])) (fun t k => XS.aloadN X13.here hx rfl (hb hby d48_32) rfl rfl (XS.iloadN X13.here hx rfl (hb hby d48_33) rfl (XS.iinc X13.here hx rfl (hb hby d48_34) rfl (l' := #[sr a1, si ((Int32.ofNat (2 * m_)) + (1 : Int32)), si p3]) rfl k))) ?_
 rw [oj_one]
 refine go (S' := T13.setTop (mkF m 38 #[sr a1, si (Int32.ofNat (2 * m_ + 1)), si p3] [(.int p3), (.int (Int32.ofNat (2 * m_))), (.ref a1)])) (fun t k => XS.iloadN X13.here hx rfl (hb hby d48_37) rfl k) ?_
 obtain ⟨T16, X16, e16, st16⟩ := getS2 X13 hx hZ hown (host := "") (Or.inl (ww hw 267 rfl)) Via.refl e13 (hp7.ext O14.2) (g := (mkF m 38 #[sr a1, si (Int32.ofNat (2 * m_ + 1)), si p3] [(.int p3), (.int (Int32.ofNat (2 * m_))), (.ref a1)])) rfl (hb hby d48_38)
 refine go (S' := T16.setTop (mkF m 43 #[sr a1, si (Int32.ofNat (2 * m_ + 1)), si p3] [(.int ((p3 >>> ((0 : Int32) &&& 31)).toInt8.toInt32)), (.int (Int32.ofNat (2 * m_))), (.ref a1)])) (fun t k => st16 _ (XS.ishr X16.here hx rfl (hb hby d48_41) rfl (XS.i2b X16.here hx rfl (hb hby d48_42) rfl k))) ?_
 obtain ⟨cl17, Ar17, q17, S17, M17, H17, G17⟩ := id hp0
 have hin17 : ¬ ((Int32.ofNat (2 * m_)) < 0 ∨ cl17.slots.size ≤ ((Int32.ofNat (2 * m_))).toNatClampNeg) := oj_in S17 rfl (by omega) (by omega)
 obtain ⟨T17, h17, X17, e17, W17, st17⟩ := stB X16 hx hZ e16 Ar17 (j := (Int32.ofNat (2 * m_))) hin17 (g := (mkF m 43 #[sr a1, si (Int32.ofNat (2 * m_ + 1)), si p3] [(.int ((p3 >>> ((0 : Int32) &&& 31)).toInt8.toInt32)), (.int (Int32.ofNat (2 * m_))), (.ref a1)])) rfl rfl (hb hby d48_43)
 have V17 : Arv Z h17 a1 kB .byte (Int32.ofNat (2 * n)) (vs ++ [.int (StrChars.lo8 p3)]) (.int 0) := by
  have q := arvSnoc Ar17 q17 S17 M17 H17 G17 (fits_nar_byte _) W17 (by rw [oj_n (by omega)]; exact hv.symm)
  (first | rw [oj_narb] at q | rw [oj_bb] at q); rw [oj_shr0, ← StrChars.lo8] at q; exact q
 have K18 : Keep h0 h17 [a1] := K0.wr W17 (Or.inl (List.mem_of_getElem? (i := 0) rfl))
 have N19 := Fr.snoc X17 N0 hp5
 refine go (S' := T17.setTop (mkF m 47 #[sr a1, si (Int32.ofNat (2 * m_ + 1)), si p3] [(.int p3), (.int (Int32.ofNat (2 * m_ + 1))), (.ref a1)])) (fun t k => st17 _ (XS.aloadN X17.here hx rfl (hb hby d48_44) rfl rfl (XS.iloadN X17.here hx rfl (hb hby d48_45) rfl (XS.iloadN X17.here hx rfl (hb hby d48_46) rfl k)))) ?_
 have O21 : Old Z n0 h17 := O0.keep K18 (allS hp5 all0)
 obtain ⟨T20, X20, e20, st20⟩ := getS2 X17 hx hZ hown (host := "") (Or.inl (ww hw 268 rfl)) Via.refl e17 (hp8.ext O21.2) (g := (mkF m 47 #[sr a1, si (Int32.ofNat (2 * m_ + 1)), si p3] [(.int p3), (.int (Int32.ofNat (2 * m_ + 1))), (.ref a1)])) rfl (hb hby d48_47)
 refine go (S' := T20.setTop (mkF m 52 #[sr a1, si (Int32.ofNat (2 * m_ + 1)), si p3] [(.int ((p3 >>> ((8 : Int32) &&& 31)).toInt8.toInt32)), (.int (Int32.ofNat (2 * m_ + 1))), (.ref a1)])) (fun t k => st20 _ (XS.ishr X20.here hx rfl (hb hby d48_50) rfl (XS.i2b X20.here hx rfl (hb hby d48_51) rfl k))) ?_
 obtain ⟨cl22, Ar22, q22, S22, M22, H22, G22⟩ := id V17
 have hin22 : ¬ ((Int32.ofNat (2 * m_ + 1)) < 0 ∨ cl22.slots.size ≤ ((Int32.ofNat (2 * m_ + 1))).toNatClampNeg) := oj_in S22 rfl (by omega) (by omega)
 obtain ⟨T22, h22, X22, e22, W22, st22⟩ := stB X20 hx hZ e20 Ar22 (j := (Int32.ofNat (2 * m_ + 1))) hin22 (g := (mkF m 52 #[sr a1, si (Int32.ofNat (2 * m_ + 1)), si p3] [(.int ((p3 >>> ((8 : Int32) &&& 31)).toInt8.toInt32)), (.int (Int32.ofNat (2 * m_ + 1))), (.ref a1)])) rfl rfl (hb hby d48_52)
 have V22 : Arv Z h22 a1 kB .byte (Int32.ofNat (2 * n)) (vs ++ [.int (StrChars.lo8 p3)] ++ [.int (StrChars.hi8 p3)]) (.int 0) := by
  have q := arvSnoc Ar22 q22 S22 M22 H22 G22 (fits_nar_byte _) W22 (by rw [oj_n (by omega)]; simp; omega)
  (first | rw [oj_narb] at q | rw [oj_bb] at q); rw [← StrChars.lo8, ← StrChars.hi8] at q; exact q
 have K23 : Keep h0 h22 [a1] := K18.wr W22 (Or.inl (List.mem_of_getElem? (i := 0) rfl))
 have N24 := Fr.snoc X22 N19 hp5
 refine go (S' := T22.setTop (mkF m 53 #[sr a1, si (Int32.ofNat (2 * m_ + 1)), si p3] [])) st22 ?_
 refine finV X22 hx hk hret (hb hby d48_53) (by decide) (by decide) ?_
 rw [e22]
 exact ⟨rfl, N24, K23, V22⟩
theorem d52_0 : dd jdk_52_method_5_code 0 (.getstatic 44) 3 := by decide +kernel
theorem d52_3 : dd jdk_52_method_5_code 3 (.ifCond .ne 25) 3 := by decide +kernel
theorem d52_28 : dd jdk_52_method_5_code 28 (.iload_n 1) 1 := by decide +kernel
theorem d52_29 : dd jdk_52_method_5_code 29 (.iconst 1) 1 := by decide +kernel
theorem d52_30 : dd jdk_52_method_5_code 30 .ishl 1 := by decide +kernel
theorem d52_31 : dd jdk_52_method_5_code 31 (.istore_n 1) 1 := by decide +kernel
theorem d52_32 : dd jdk_52_method_5_code 32 (.aload_n 0) 1 := by decide +kernel
theorem d52_33 : dd jdk_52_method_5_code 33 (.iload_n 1) 1 := by decide +kernel
theorem d52_34 : dd jdk_52_method_5_code 34 (.iinc 1 1) 3 := by decide +kernel
theorem d52_37 : dd jdk_52_method_5_code 37 .baload 1 := by decide +kernel
theorem d52_38 : dd jdk_52_method_5_code 38 (.sipush 255) 3 := by decide +kernel
theorem d52_41 : dd jdk_52_method_5_code 41 .iand 1 := by decide +kernel
theorem d52_42 : dd jdk_52_method_5_code 42 (.getstatic 59) 3 := by decide +kernel
theorem d52_45 : dd jdk_52_method_5_code 45 .ishl 1 := by decide +kernel
theorem d52_46 : dd jdk_52_method_5_code 46 (.aload_n 0) 1 := by decide +kernel
theorem d52_47 : dd jdk_52_method_5_code 47 (.iload_n 1) 1 := by decide +kernel
theorem d52_48 : dd jdk_52_method_5_code 48 .baload 1 := by decide +kernel
theorem d52_49 : dd jdk_52_method_5_code 49 (.sipush 255) 3 := by decide +kernel
theorem d52_52 : dd jdk_52_method_5_code 52 .iand 1 := by decide +kernel
theorem d52_53 : dd jdk_52_method_5_code 53 (.getstatic 63) 3 := by decide +kernel
theorem d52_56 : dd jdk_52_method_5_code 56 .ishl 1 := by decide +kernel
theorem d52_57 : dd jdk_52_method_5_code 57 .ior 1 := by decide +kernel
theorem d52_58 : dd jdk_52_method_5_code 58 .i2c 1 := by decide +kernel
theorem d52_59 : dd jdk_52_method_5_code 59 .ireturn 1 := by decide +kernel
abbrev y_4 : MethodName := ⟨"java/lang/StringUTF16", "getChar", "([BI)C"⟩
theorem pn_4 : plainFor y_4 = true := by first | exact plainFor_of_name (by first | (simp [plainName, overriddenIn]; done) | decide +kernel) | decide +kernel
theorem ef_rmGet (m : MethodId) (a1 : Addr) (p2 : Int32) : entryFrame m #[(.ref a1), (.int p2)] 2 = mkF m 0 #[sr a1, si p2] [] := by first | (simp [entryFrame, mkF, argsToLocals, Value.category]; done) | rfl
def Q_rmGet (Z : State) (a1 : Addr) (p2 : Int32) (kB : ClassId) (m_ : Nat) (n : Nat) (vs : List Value) (ch : Int32) (h0 : Heap) (n0 : Nat) (v : Option Value) (h : Heap) (L : List Loc) : Prop := v = some (.int ch) ∧ Fr n0 L ∧ h = h0
set_option maxRecDepth 65536 in
set_option maxHeartbeats 40000000 in
theorem rmGet (l : Launch) (Z : State) (a0 : Array Value) (hw : ∀ d ∈ tables_1, d.before a0 Z = true) (ws : List Jvm.Cond) (a1 : Addr) (p2 : Int32) (kB : ClassId) (m_ : Nat) (n : Nat) (vs : List Value) (ch : Int32) (h0 : Heap) (n0 : Nat) (Z0 : n0 ≤ h0.size) (hp0 : Arv Z h0 a1 kB .byte (Int32.ofNat (2 * n)) vs (.int 0)) (hm : p2 = Int32.ofNat m_) (hmn : m_ < n) (hl : n ≤ 16) (hlo : vs.getD (2 * m_) (.int 0) = .int (StrChars.lo8 ch)) (hhi : vs.getD (2 * m_ + 1) (.int 0) = .int (StrChars.hi8 ch)) (hch : ¬ ch < 0 ∧ ¬ (65535 : Int32) < ch) (hp7 : Sta Z Z.heap "java/lang/StringUTF16" "$assertionsDisabled" "Z" (.int 1)) (hp8 : Sta Z Z.heap "java/lang/StringUTF16" "HI_BYTE_SHIFT" "I" (.int 0)) (hp9 : Sta Z Z.heap "java/lang/StringUTF16" "LO_BYTE_SHIFT" "I" (.int 8)) (hp10 : Old Z n0 h0) :
    MetFree l y_4 (head1 (Jvm.Cond.code y_4 jdk_52_method_5_code 2 (some .char) :: ws) ({ frames := 0, cells := 0, slots := 0, locals := 0 } : Room)) (fun a U => a = #[(.ref a1), (.int p2)] ∧ Z.Warmed39 U.vm ∧ U.heap = h0) (fun _ _ _ _ _ => True) (fun _ U o U' => ∃ v L, o = .returned v ∧ Q_rmGet Z a1 p2 kB m_ n vs ch h0 n0 v U'.heap L ∧ FrameEnd U o U' L ({ frames := 0, cells := 0, slots := 0, locals := 0 } : Room).cells ({ frames := 0, cells := 0, slots := 0, locals := 0 } : Room).slots) := by
 refine bodyOf pn_4 (fun m => ef_rmGet m a1 p2) ?_
 intro p e s m below meth c T0 X0 hx hby hml hown hnm hret hk hZ e0
 have N0 := Fr.nil n0
 have K0 : Keep h0 h0 [] := Keep.refl _ _
 have O0 := hp10
 have O26 : Old Z n0 h0 := O0.keep K0 all0
 obtain ⟨T25, X25, e25, st25⟩ := getS2 X0 hx hZ hown (host := "") (Or.inl (ww hw 266 rfl)) Via.refl e0 (hp7.ext O26.2) (g := (mkF m 0 #[sr a1, si p2] [])) rfl (hb hby d52_0)
 refine go (S' := T25.setTop (mkF m 3 #[sr a1, si p2] [(.int 1)])) st25 ?_
 have hc27 : ¬ ((1 : Int32) = (0 : Int32)) := by decide
 refine go (S' := T25.setTop (mkF m 32 #[sr a1, si (p2 <<< ((1 : Int32) &&& 31))] [])) (fun t k => XS.ifYes X25.here hx rfl (pc0 := 3) (pc' := 28) rfl (hb hby d52_3) rfl ((if0 _ _).trans (feq hc27).2) (by decide) (by decide) (XS.iloadN X25.here hx rfl (hb hby d52_28) rfl (XS.iconst X25.here hx rfl (hb hby d52_29) (XS.ishl X25.here hx rfl (hb hby d52_30) rfl (XS.istoreN X25.here hx rfl (hb hby d52_31) rfl (l' := #[sr a1, si (p2 <<< ((1 : Int32) &&& 31))]) rfl k))))) ?_
 rw [hm, oj_dbl (by omega)]
 refine go (S' := T25.setTop (mkF m 37 #[sr a1, si ((Int32.ofNat (2 * m_)) + (1 : Int32))] [(.int (Int32.ofNat (2 * m_))), (.ref a1)])) (fun t k => XS.aloadN X25.here hx rfl (hb hby d52_32) rfl rfl (XS.iloadN X25.here hx rfl (hb hby d52_33) rfl (XS.iinc X25.here hx rfl (hb hby d52_34) rfl (l' := #[sr a1, si ((Int32.ofNat (2 * m_)) + (1 : Int32))]) rfl k))) ?_
 rw [oj_one]
 obtain ⟨cl28, Ar28, q28, S28, M28, H28, G28⟩ := id hp0
 have hin28 : ¬ ((Int32.ofNat (2 * m_)) < 0 ∨ cl28.slots.size ≤ ((Int32.ofNat (2 * m_))).toNatClampNeg) := oj_in S28 rfl (by omega) (by omega)
 have hat28 : cl28.slots[((Int32.ofNat (2 * m_))).toNatClampNeg]? = some (.int (StrChars.lo8 ch)) := Has.at H28 hin28 (by rw [oj_n (by omega)]; exact hlo)
 refine go (S' := T25.setTop (mkF m 42 #[sr a1, si (Int32.ofNat (2 * m_ + 1))] [(.int ((StrChars.lo8 ch) &&& (255 : Int32)))])) (fun t k => X25.baloadBytes hx (j := (Int32.ofNat (2 * m_))) (v := (.int (StrChars.lo8 ch))) (by rw [e25]; exact Ar28.1) (State.isArrayOf_alike hZ.alike Ar28.2.1) Ar28.2.2 hin28 hat28 (g := (mkF m 37 #[sr a1, si (Int32.ofNat (2 * m_ + 1))] [(.int (Int32.ofNat (2 * m_))), (.ref a1)])) rfl rfl (hb hby d52_37) _ (XS.sipush X25.here hx rfl (hb hby d52_38) (XS.iand X25.here hx rfl (hb hby d52_41) rfl k))) ?_
 obtain ⟨T29, X29, e29, st29⟩ := getS2 X25 hx hZ hown (host := "") (Or.inl (ww hw 267 rfl)) Via.refl e25 (hp8.ext O26.2) (g := (mkF m 42 #[sr a1, si (Int32.ofNat (2 * m_ + 1))] [(.int ((StrChars.lo8 ch) &&& (255 : Int32)))])) rfl (hb hby d52_42)
 refine go (S' := T29.setTop (mkF m 48 #[sr a1, si (Int32.ofNat (2 * m_ + 1))] [(.int (Int32.ofNat (2 * m_ + 1))), (.ref a1), (.int (((StrChars.lo8 ch) &&& (255 : Int32)) <<< ((0 : Int32) &&& 31)))])) (fun t k => st29 _ (XS.ishl X29.here hx rfl (hb hby d52_45) rfl (XS.aloadN X29.here hx rfl (hb hby d52_46) rfl rfl (XS.iloadN X29.here hx rfl (hb hby d52_47) rfl k)))) ?_
 obtain ⟨cl30, Ar30, q30, S30, M30, H30, G30⟩ := id hp0
 have hin30 : ¬ ((Int32.ofNat (2 * m_ + 1)) < 0 ∨ cl30.slots.size ≤ ((Int32.ofNat (2 * m_ + 1))).toNatClampNeg) := oj_in S30 rfl (by omega) (by omega)
 have hat30 : cl30.slots[((Int32.ofNat (2 * m_ + 1))).toNatClampNeg]? = some (.int (StrChars.hi8 ch)) := Has.at H30 hin30 (by rw [oj_n (by omega)]; exact hhi)
 refine go (S' := T29.setTop (mkF m 53 #[sr a1, si (Int32.ofNat (2 * m_ + 1))] [(.int ((StrChars.hi8 ch) &&& (255 : Int32))), (.int (((StrChars.lo8 ch) &&& (255 : Int32)) <<< ((0 : Int32) &&& 31)))])) (fun t k => X29.baloadBytes hx (j := (Int32.ofNat (2 * m_ + 1))) (v := (.int (StrChars.hi8 ch))) (by rw [e29]; exact Ar30.1) (State.isArrayOf_alike hZ.alike Ar30.2.1) Ar30.2.2 hin30 hat30 (g := (mkF m 48 #[sr a1, si (Int32.ofNat (2 * m_ + 1))] [(.int (Int32.ofNat (2 * m_ + 1))), (.ref a1), (.int (((StrChars.lo8 ch) &&& (255 : Int32)) <<< ((0 : Int32) &&& 31)))])) rfl rfl (hb hby d52_48) _ (XS.sipush X29.here hx rfl (hb hby d52_49) (XS.iand X29.here hx rfl (hb hby d52_52) rfl k))) ?_
 obtain ⟨T31, X31, e31, st31⟩ := getS2 X29 hx hZ hown (host := "") (Or.inl (ww hw 268 rfl)) Via.refl e29 (hp9.ext O26.2) (g := (mkF m 53 #[sr a1, si (Int32.ofNat (2 * m_ + 1))] [(.int ((StrChars.hi8 ch) &&& (255 : Int32))), (.int (((StrChars.lo8 ch) &&& (255 : Int32)) <<< ((0 : Int32) &&& 31)))])) rfl (hb hby d52_53)
 refine go (S' := T31.setTop (mkF m 59 #[sr a1, si (Int32.ofNat (2 * m_ + 1))] [(.int (((((StrChars.lo8 ch) &&& (255 : Int32)) <<< ((0 : Int32) &&& 31)) ||| (((StrChars.hi8 ch) &&& (255 : Int32)) <<< ((8 : Int32) &&& 31))).toUInt32.toUInt16.toUInt32.toInt32))])) (fun t k => st31 _ (XS.ishl X31.here hx rfl (hb hby d52_56) rfl (XS.ior X31.here hx rfl (hb hby d52_57) rfl (XS.i2c X31.here hx rfl (hb hby d52_58) rfl k)))) ?_
 refine finN X31 hx hk (t := .char) hret (by simp) (hb hby d52_59) (by decide) (by decide) ?_
 rw [e31]
 exact ⟨(by rw [narc]; exact congrArg (fun z => some (Value.int z)) (StrChars.pair_says hch.1 hch.2)), N0, rfl⟩
theorem d49_0 : dd jdk_52_method_14_code 0 (.iload_n 2) 1 := by decide +kernel
theorem d49_1 : dd jdk_52_method_14_code 1 (.invokestatic 107) 3 := by decide +kernel
theorem pd_1 : parseMethodDescriptor "(I)[B" = some ⟨[.int], some (.array .byte)⟩ := by decide +kernel
theorem d49_4 : dd jdk_52_method_14_code 4 (.astore_n 3) 1 := by decide +kernel
theorem d49_5 : dd jdk_52_method_14_code 5 (.iconst 0) 1 := by decide +kernel
theorem d49_6 : dd jdk_52_method_14_code 6 (.istore 4) 2 := by decide +kernel
theorem d49_8 : dd jdk_52_method_14_code 8 (.iload 4) 2 := by decide +kernel
theorem d49_10 : dd jdk_52_method_14_code 10 (.iload_n 2) 1 := by decide +kernel
theorem d49_11 : dd jdk_52_method_14_code 11 (.if_icmp .ge 21) 3 := by decide +kernel
theorem d49_32 : dd jdk_52_method_14_code 32 (.aload_n 3) 1 := by decide +kernel
theorem d49_33 : dd jdk_52_method_14_code 33 .areturn 1 := by decide +kernel
theorem d49_14 : dd jdk_52_method_14_code 14 (.aload_n 3) 1 := by decide +kernel
theorem d49_15 : dd jdk_52_method_14_code 15 (.iload 4) 2 := by decide +kernel
theorem d49_17 : dd jdk_52_method_14_code 17 (.aload_n 0) 1 := by decide +kernel
theorem d49_18 : dd jdk_52_method_14_code 18 (.iload_n 1) 1 := by decide +kernel
theorem d49_19 : dd jdk_52_method_14_code 19 .caload 1 := by decide +kernel
theorem d49_20 : dd jdk_52_method_14_code 20 (.invokestatic 111) 3 := by decide +kernel
theorem pd_2 : parseMethodDescriptor "([BII)V" = some ⟨[(.array .byte), .int, .int], none⟩ := by decide +kernel
theorem d49_23 : dd jdk_52_method_14_code 23 (.iinc 1 1) 3 := by decide +kernel
theorem d49_26 : dd jdk_52_method_14_code 26 (.iinc 4 1) 3 := by decide +kernel
theorem d49_29 : dd jdk_52_method_14_code 29 (.goto (-21)) 3 := by decide +kernel
abbrev y_5 : MethodName := ⟨"java/lang/StringUTF16", "toBytes", "([CII)[B"⟩
theorem pn_5 : plainFor y_5 = true := by first | exact plainFor_of_name (by first | (simp [plainName, overriddenIn]; done) | decide +kernel) | decide +kernel
theorem ef_rmTob (m : MethodId) (a1 : Addr) (pn : Int32) : entryFrame m #[(.ref a1), (.int 0), (.int pn)] 5 = mkF m 0 #[sr a1, si 0, si pn, un, un] [] := by first | (simp [entryFrame, mkF, argsToLocals, Value.category]; done) | rfl
def Q_rmTob (Z : State) (a1 : Addr) (pn : Int32) (kC : ClassId) (cs : List Int32) (dC : Value) (h0 : Heap) (n0 : Nat) (v : Option Value) (h : Heap) (L : List Loc) : Prop := ∃ (t : Addr), ∃ (kb : ClassId), v = some (.ref t) ∧ Fr n0 L ∧ Keep h0 h [] ∧ (h0.size ≤ t) ∧ (Arv Z h t kb .byte (Int32.ofNat (2 * cs.length)) (StrChars.Road.wideBytes cs) (.int 0))
set_option maxRecDepth 65536 in
set_option maxHeartbeats 40000000 in
theorem rmTob (l : Launch) (Z : State) (a0 : Array Value) (hw : ∀ d ∈ tables_1, d.before a0 Z = true) (ws : List Jvm.Cond) (a1 : Addr) (pn : Int32) (kC : ClassId) (cs : List Int32) (dC : Value) (h0 : Heap) (n0 : Nat) (Z0 : n0 ≤ h0.size) (hn : pn = Int32.ofNat cs.length) (hl : cs.length ≤ 16) (hp2 : Arv Z h0 a1 kC .char pn (cs.map Value.int) dC) (hp3 : Sta Z Z.heap "java/lang/StringUTF16" "$assertionsDisabled" "Z" (.int 1)) (hp4 : Sta Z Z.heap "java/lang/StringUTF16" "HI_BYTE_SHIFT" "I" (.int 0)) (hp5 : Sta Z Z.heap "java/lang/StringUTF16" "LO_BYTE_SHIFT" "I" (.int 8)) (hp6 : Old Z n0 h0) :
    MetFree l y_5 (head1 (Jvm.Cond.code y_5 jdk_52_method_14_code 5 (some (.array .byte)) :: ws) ({ frames := 2, cells := 1, slots := 32, locals := 24 } : Room)) (fun a U => a = #[(.ref a1), (.int 0), (.int pn)] ∧ Z.Warmed39 U.vm ∧ U.heap = h0) (fun _ _ _ _ _ => True) (fun _ U o U' => ∃ v L, o = .returned v ∧ Q_rmTob Z a1 pn kC cs dC h0 n0 v U'.heap L ∧ FrameEnd U o U' L ({ frames := 2, cells := 1, slots := 32, locals := 24 } : Room).cells ({ frames := 2, cells := 1, slots := 32, locals := 24 } : Room).slots) := by
 refine bodyOf pn_5 (fun m => ef_rmTob m a1 pn) ?_
 intro p e s m below meth c T0 X0 hx hby hml hown hnm hret hk hZ e0
 have N0 := Fr.nil n0
 have K0 : Keep h0 h0 [] := Keep.refl _ _
 have O0 := hp6
 refine go (S' := T0.setTop (mkF m 1 #[sr a1, si 0, si pn, un, un] [(.int pn)])) (fun t k => XS.iloadN X0.here hx rfl (hb hby d49_0) rfl k) ?_
 obtain ⟨v32, T32, L32, X32, hQ32, st32⟩ := callSt X0 hx hZ (y := y_2) hown (ww hw 272 rfl) (ww hw 273 rfl) (ww hw 23 rfl) (ww hw 274 rfl) (by decide) (backOf (W := 0) (rmNbf l Z a0 hw [] pn cs.length h0 n0 (Nat.le_trans Z0 K0.1) hn hl) hZ (ww hw 274 rfl) (ww hw 23 rfl) (by decide) (by decide)) (g := (mkF m 1 #[sr a1, si 0, si pn, un, un] [(.int pn)])) rfl (by rw [hml]; rfl) (kc := 1) (ks := 32) (argsL := [(.int pn)]) (rest := []) (lenOf pd_1 rfl) rfl (mr0 rfl) (hb hby d49_1) e0 (by decide) (by decide)
 obtain ⟨t_32, kb_32, rfl, N32q, Kq32, q32_0, q32_1⟩ := hQ32
 have N32 := Fr.app N0 N32q
 have K33 : Keep h0 T32.heap [] := K0.trans Kq32 all0
 have lt_a1_t_32 : a1 < t_32 := Nat.lt_of_lt_of_le hp2.lt q32_0
 have sz_t_32 : h0.size ≤ t_32 := Nat.le_trans K0.1 q32_0
 have ge_t_32 : n0 ≤ t_32 := Nat.le_trans Z0 sz_t_32
 refine go (S' := T32.setTop (mkF m 8 #[sr a1, si 0, si pn, sr t_32, si 0] [])) (fun t k => st32 _ (XS.astoreN X32.here hx rfl (hb hby d49_4) rfl rfl (l' := #[sr a1, si 0, si pn, sr t_32, un]) rfl (XS.iconst X32.here hx rfl (hb hby d49_5) (XS.istore X32.here hx rfl (hb hby d49_6) rfl (l' := #[sr a1, si 0, si pn, sr t_32, si 0]) rfl k)))) ?_
 have loopT : ∀ (r : Nat) (i : Nat) (T : State) (locs : List Loc) (h : Heap), (i + r = cs.length) → Stand p l e ({ frames := 2, cells := 1, slots := 32, locals := 24 } : Room) s m #[(.ref a1), (.int 0), (.int pn)] below meth c T locs 1 32 → T.heap = h → Fr n0 locs → Keep h0 h [] → Arv Z h a1 kC .char pn (cs.map Value.int) dC → Arv Z h t_32 kb_32 .byte (Int32.ofNat (2 * cs.length)) (StrChars.Road.wideBytes (cs.take i)) (.int 0) → Goes p.tables e below (EndP s below (Q_rmTob Z a1 pn kC cs dC h0 n0) ({ frames := 2, cells := 1, slots := 32, locals := 24 } : Room).cells ({ frames := 2, cells := 1, slots := 32, locals := 24 } : Room).slots) (T.setTop (mkF m 8 #[sr a1, si (Int32.ofNat i), si pn, sr t_32, si (Int32.ofNat i)] [])) := by
  intro r
  induction r with
  | zero =>
   intro i T locs h hi X eT N K lf34_0 lf34_1
   refine go (S' := T.setTop (mkF m 11 #[sr a1, si (Int32.ofNat i), si pn, sr t_32, si (Int32.ofNat i)] [(.int pn), (.int (Int32.ofNat i))])) (fun t k => XS.iload X.here hx rfl (hb hby d49_8) rfl (XS.iloadN X.here hx rfl (hb hby d49_10) rfl k)) ?_
   have hc35 : ¬ ((Int32.ofNat i) < pn) := by rw [hn]; exact oj_nlt (by omega) (by omega) (by omega)
   refine go (S' := T.setTop (mkF m 33 #[sr a1, si (Int32.ofNat i), si pn, sr t_32, si (Int32.ofNat i)] [(.ref t_32)])) (fun t k => XS.icmpYes X.here hx rfl (pc0 := 11) (pc' := 32) rfl (hb hby d49_11) rfl (flt hc35).2.1 (by decide) (by decide) (XS.aloadN X.here hx rfl (hb hby d49_32) rfl rfl k)) ?_
   refine finR X hx hk hret rfl rfl (hb hby d49_33) (by decide) (by decide) ?_
   have ht : cs.take i = cs := List.take_of_length_le (by omega)
   rw [eT]
   exact ⟨t_32, kb_32, rfl, N, K, sz_t_32, by have q := lf34_1; rw [ht] at q; exact q⟩
  | succ r ih =>
   intro i T locs h hi X eT N K lf34_0 lf34_1
   refine go (S' := T.setTop (mkF m 11 #[sr a1, si (Int32.ofNat i), si pn, sr t_32, si (Int32.ofNat i)] [(.int pn), (.int (Int32.ofNat i))])) (fun t k => XS.iload X.here hx rfl (hb hby d49_8) rfl (XS.iloadN X.here hx rfl (hb hby d49_10) rfl k)) ?_
   have hc36 : (Int32.ofNat i) < pn := by rw [hn]; exact oj_lt (by omega) (by omega)
   refine go (S' := T.setTop (mkF m 19 #[sr a1, si (Int32.ofNat i), si pn, sr t_32, si (Int32.ofNat i)] [(.int (Int32.ofNat i)), (.ref a1), (.int (Int32.ofNat i)), (.ref t_32)])) (fun t k => XS.icmpNo X.here hx rfl (hb hby d49_11) rfl (tlt hc36).2.1 (XS.aloadN X.here hx rfl (hb hby d49_14) rfl rfl (XS.iload X.here hx rfl (hb hby d49_15) rfl (XS.aloadN X.here hx rfl (hb hby d49_17) rfl rfl (XS.iloadN X.here hx rfl (hb hby d49_18) rfl k))))) ?_
   obtain ⟨cl37, Ar37, q37, S37, M37, H37, G37⟩ := id lf34_0
   have hin37 : ¬ ((Int32.ofNat i) < 0 ∨ cl37.slots.size ≤ ((Int32.ofNat i)).toNatClampNeg) := oj_in S37 hn (by omega) (by omega)
   have hat37 : cl37.slots[((Int32.ofNat i)).toNatClampNeg]? = some (.int (cs.getD i 0)) := Has.at H37 hin37 (by rw [oj_n (by omega)]; exact oj_get cs (by omega) _)
   refine go (S' := T.setTop (mkF m 20 #[sr a1, si (Int32.ofNat i), si pn, sr t_32, si (Int32.ofNat i)] [(.int (cs.getD i 0)), (.int (Int32.ofNat i)), (.ref t_32)])) (fun t k => X.caload hx (j := (Int32.ofNat i)) (v := (.int (cs.getD i 0))) (by rw [eT]; exact Ar37.1) (State.isArrayOf_alike hZ.alike Ar37.2.1) Ar37.2.2 hin37 hat37 (g := (mkF m 19 #[sr a1, si (Int32.ofNat i), si pn, sr t_32, si (Int32.ofNat i)] [(.int (Int32.ofNat i)), (.ref a1), (.int (Int32.ofNat i)), (.ref t_32)])) rfl rfl (hb hby d49_19) _ k) ?_
   have O38 : Old Z n0 h := O0.keep K all0
   obtain ⟨v39, T39, L39, X39, hQ39, st39⟩ := callSt X hx hZ (y := y_3) hown (ww hw 263 rfl) (ww hw 264 rfl) (ww hw 23 rfl) (ww hw 265 rfl) (by decide) (backOf (W := 0) (rmPut l Z a0 hw [] t_32 (Int32.ofNat i) (cs.getD i 0) kb_32 i cs.length (StrChars.Road.wideBytes (cs.take i)) h n0 (Nat.le_trans Z0 K.1) lf34_1 rfl (by rw [wide_len, List.length_take]; omega) (by omega) hl ge_t_32 hp3 hp4 hp5 O38) hZ (ww hw 265 rfl) (ww hw 23 rfl) (by decide) (by decide)) (g := (mkF m 20 #[sr a1, si (Int32.ofNat i), si pn, sr t_32, si (Int32.ofNat i)] [(.int (cs.getD i 0)), (.int (Int32.ofNat i)), (.ref t_32)])) rfl (by rw [hml]; rfl) (kc := 0) (ks := 0) (argsL := [(.ref t_32), (.int (Int32.ofNat i)), (.int (cs.getD i 0))]) (rest := []) (lenOf pd_2 rfl) rfl (mr0 rfl) (hb hby d49_20) eT (by decide) (by decide)
   obtain ⟨rfl, N39q, Kq39, q39_0⟩ := hQ39
   have N39 := Fr.app N N39q
   have K40 : Keep h0 T39.heap [] := K.trans Kq39 (allS (P := fun x => x ∈ [] ∨ h0.size ≤ x) (Or.inr sz_t_32) all0)
   refine go (S' := T39.setTop (mkF m 8 #[sr a1, si ((Int32.ofNat i) + (1 : Int32)), si pn, sr t_32, si ((Int32.ofNat i) + (1 : Int32))] [])) (fun t k => st39 _ (XS.iinc X39.here hx rfl (hb hby d49_23) rfl (l' := #[sr a1, si ((Int32.ofNat i) + (1 : Int32)), si pn, sr t_32, si (Int32.ofNat i)]) rfl (XS.iinc X39.here hx rfl (hb hby d49_26) rfl (l' := #[sr a1, si ((Int32.ofNat i) + (1 : Int32)), si pn, sr t_32, si ((Int32.ofNat i) + (1 : Int32))]) rfl (XS.goto X39.here hx rfl (pc0 := 29) (pc' := 8) rfl (hb hby d49_29) (by decide) (by decide) k)))) ?_
   have V41 : Arv Z T39.heap t_32 kb_32 .byte (Int32.ofNat (2 * cs.length)) (StrChars.Road.wideBytes (cs.take (i + 1))) (.int 0) := by rw [← oj_take1 cs (by omega), wide_snoc]; exact q39_0
   rw [oj_one i]
   have f42 : Arv Z T39.heap a1 kC .char pn (cs.map Value.int) dC := (lf34_0.keep Kq39 (ninS (Nat.ne_of_lt lt_a1_t_32) nin0))
   exact ih (i + 1) _ _ _ (by omega) X39 rfl N39 K40 f42 V41
 exact loopT cs.length 0 _ _ _ (Nat.zero_add _) X32 rfl N32 K33 (hp2.keep K33 nin0) q32_1
theorem d5_0 : dd jdk_52_method_16_code 0 (.iload_n 2) 1 := by decide +kernel
theorem d5_1 : dd jdk_52_method_16_code 1 (.newarray .byte) 2 := by decide +kernel
theorem d5_3 : dd jdk_52_method_16_code 3 (.astore_n 3) 1 := by decide +kernel
theorem d5_4 : dd jdk_52_method_16_code 4 (.aload_n 0) 1 := by decide +kernel
theorem d5_5 : dd jdk_52_method_16_code 5 (.iload_n 1) 1 := by decide +kernel
theorem d5_6 : dd jdk_52_method_16_code 6 (.aload_n 3) 1 := by decide +kernel
theorem d5_7 : dd jdk_52_method_16_code 7 (.iconst 0) 1 := by decide +kernel
theorem d5_8 : dd jdk_52_method_16_code 8 (.iload_n 2) 1 := by decide +kernel
theorem d5_9 : dd jdk_52_method_16_code 9 (.invokestatic 115) 3 := by decide +kernel
theorem pd_3 : parseMethodDescriptor "([CI[BII)I" = some ⟨[(.array .char), .int, (.array .byte), .int, .int], some .int⟩ := by decide +kernel
theorem d5_12 : dd jdk_52_method_16_code 12 (.istore 4) 2 := by decide +kernel
theorem d5_14 : dd jdk_52_method_16_code 14 (.iload 4) 2 := by decide +kernel
theorem d5_16 : dd jdk_52_method_16_code 16 (.iload_n 2) 1 := by decide +kernel
theorem d5_17 : dd jdk_52_method_16_code 17 (.if_icmp .eq 40) 3 := by decide +kernel
theorem d5_57 : dd jdk_52_method_16_code 57 (.aload_n 3) 1 := by decide +kernel
theorem d5_58 : dd jdk_52_method_16_code 58 .areturn 1 := by decide +kernel
theorem d5_20 : dd jdk_52_method_16_code 20 (.aload_n 0) 1 := by decide +kernel
theorem d5_21 : dd jdk_52_method_16_code 21 (.iload_n 1) 1 := by decide +kernel
theorem d5_22 : dd jdk_52_method_16_code 22 (.iload_n 2) 1 := by decide +kernel
theorem d5_23 : dd jdk_52_method_16_code 23 (.invokestatic 119) 3 := by decide +kernel
theorem pd_4 : parseMethodDescriptor "([CII)[B" = some ⟨[(.array .char), .int, .int], some (.array .byte)⟩ := by decide +kernel
theorem d5_26 : dd jdk_52_method_16_code 26 (.astore 5) 2 := by decide +kernel
theorem d5_28 : dd jdk_52_method_16_code 28 (.aload 5) 2 := by decide +kernel
theorem d5_30 : dd jdk_52_method_16_code 30 (.iload 4) 2 := by decide +kernel
theorem d5_32 : dd jdk_52_method_16_code 32 (.invokestatic 71) 3 := by decide +kernel
theorem pd_5 : parseMethodDescriptor "([BI)C" = some ⟨[(.array .byte), .int], some .char⟩ := by decide +kernel
theorem d5_35 : dd jdk_52_method_16_code 35 (.sipush 255) 3 := by decide +kernel
theorem d5_38 : dd jdk_52_method_16_code 38 (.if_icmp .gt 16) 3 := by decide +kernel
theorem d5_54 : dd jdk_52_method_16_code 54 (.aload 5) 2 := by decide +kernel
theorem d5_56 : dd jdk_52_method_16_code 56 .areturn 1 := by decide +kernel
abbrev y_6 : MethodName := ⟨"java/lang/StringUTF16", "compress", "([CII)[B"⟩
theorem pn_6 : plainFor y_6 = true := by first | exact plainFor_of_name (by first | (simp [plainName, overriddenIn]; done) | decide +kernel) | decide +kernel
theorem ef_rmCmp3 (m : MethodId) (a1 : Addr) (pn : Int32) : entryFrame m #[(.ref a1), (.int 0), (.int pn)] 6 = mkF m 0 #[sr a1, si 0, si pn, un, un, un] [] := by first | (simp [entryFrame, mkF, argsToLocals, Value.category]; done) | rfl
def Q_rmCmp3 (Z : State) (a1 : Addr) (pn : Int32) (kC : ClassId) (cs : List Int32) (dC : Value) (h0 : Heap) (n0 : Nat) (v : Option Value) (h : Heap) (L : List Loc) : Prop := ∃ (t : Addr), ∃ (kb : ClassId), ∃ (cd : Int32), ∃ (N2 : Int32), ∃ (vs : List Value), v = some (.ref t) ∧ Fr n0 L ∧ Keep h0 h [] ∧ (h0.size ≤ t) ∧ (Arv Z h t kb .byte N2 vs (.int 0)) ∧ (StrChars.Road.CodA cs cd N2 vs)
set_option maxRecDepth 65536 in
set_option maxHeartbeats 40000000 in
theorem rmCmp3 (l : Launch) (Z : State) (a0 : Array Value) (hw : ∀ d ∈ tables_1, d.before a0 Z = true) (ws : List Jvm.Cond) (a1 : Addr) (pn : Int32) (kC : ClassId) (cs : List Int32) (dC : Value) (h0 : Heap) (n0 : Nat) (Z0 : n0 ≤ h0.size) (hn : pn = Int32.ofNat cs.length) (hl : cs.length ≤ 16) (hpc : ∀ c ∈ cs, ¬ c < 0 ∧ ¬ (65535 : Int32) < c) (hp3 : Arv Z h0 a1 kC .char pn (cs.map Value.int) dC) (hp4 : Sta Z Z.heap "java/lang/StringUTF16" "$assertionsDisabled" "Z" (.int 1)) (hp5 : Sta Z Z.heap "java/lang/StringUTF16" "HI_BYTE_SHIFT" "I" (.int 0)) (hp6 : Sta Z Z.heap "java/lang/StringUTF16" "LO_BYTE_SHIFT" "I" (.int 8)) (hp7 : Old Z n0 h0) :
    MetFree l y_6 (head1 (Jvm.Cond.code y_6 jdk_52_method_16_code 6 (some (.array .byte)) :: ws) ({ frames := 3, cells := 2, slots := 48, locals := 40 } : Room)) (fun a U => a = #[(.ref a1), (.int 0), (.int pn)] ∧ Z.Warmed39 U.vm ∧ U.heap = h0) (fun _ _ _ _ _ => True) (fun _ U o U' => ∃ v L, o = .returned v ∧ Q_rmCmp3 Z a1 pn kC cs dC h0 n0 v U'.heap L ∧ FrameEnd U o U' L ({ frames := 3, cells := 2, slots := 48, locals := 40 } : Room).cells ({ frames := 3, cells := 2, slots := 48, locals := 40 } : Room).slots) := by
 refine bodyOf pn_6 (fun m => ef_rmCmp3 m a1 pn) ?_
 intro p e s m below meth c T0 X0 hx hby hml hown hnm hret hk hZ e0
 have N0 := Fr.nil n0
 have K0 : Keep h0 h0 [] := Keep.refl _ _
 have O0 := hp7
 refine go (S' := T0.setTop (mkF m 1 #[sr a1, si 0, si pn, un, un, un] [(.int pn)])) (fun t k => XS.iloadN X0.here hx rfl (hb hby d5_0) rfl k) ?_
 obtain ⟨T43, h43, k43, X43, e43, E43, A43, st43⟩ := newP X0 hx hZ (ww hw 25 rfl) e0 (g := (mkF m 1 #[sr a1, si 0, si pn, un, un, un] [(.int pn)])) rfl (hb hby d5_1) rfl (by rw [hn]; exact oj_nn (by omega)) (cap := 16) (by rw [hn, oj_n (by omega)]; omega) (by decide) (by decide) (by decide)
 obtain ⟨b43, g43⟩ : ∃ z, z = h0.size := ⟨_, rfl⟩
 rw [← g43] at A43 st43
 have lt_a1_b43 : a1 < b43 := by rw [g43]; exact hp3.lt
 have ge_b43 : n0 ≤ b43 := by rw [g43]; exact (Nat.le_trans Z0 K0.1)
 have sz_b43 : h0.size ≤ b43 := by rw [g43]; exact K0.1
 have K44 : Keep h0 h43 [] := K0.ext E43
 have V43 : Arv Z h43 b43 k43 .byte pn [] (.int 0) := Arv.new A43 (by rw [hn]; exact oj_nn (by omega))
 refine go (S' := T43.setTop (mkF m 9 #[sr a1, si 0, si pn, sr b43, un, un] [(.int pn), (.int 0), (.ref b43), (.int 0), (.ref a1)])) (fun t k => st43 _ (XS.astoreN X43.here hx rfl (hb hby d5_3) rfl rfl (l' := #[sr a1, si 0, si pn, sr b43, un, un]) rfl (XS.aloadN X43.here hx rfl (hb hby d5_4) rfl rfl (XS.iloadN X43.here hx rfl (hb hby d5_5) rfl (XS.aloadN X43.here hx rfl (hb hby d5_6) rfl rfl (XS.iconst X43.here hx rfl (hb hby d5_7) (XS.iloadN X43.here hx rfl (hb hby d5_8) rfl k))))))) ?_
 obtain ⟨v45, T45, L45, X45, hQ45, st45⟩ := callSt X43 hx hZ (y := y_0) hown (ww hw 26 rfl) (ww hw 27 rfl) (ww hw 23 rfl) (ww hw 28 rfl) (by decide) (backOf (W := 0) (rmCmp5 l Z a0 hw [] a1 b43 pn kC k43 cs dC h43 n0 (Nat.le_trans Z0 K44.1) hn hl (hp3.keep K44 nin0) V43 ge_b43 (Nat.ne_of_lt lt_a1_b43)) hZ (ww hw 28 rfl) (ww hw 23 rfl) (by decide) (by decide)) (g := (mkF m 9 #[sr a1, si 0, si pn, sr b43, un, un] [(.int pn), (.int 0), (.ref b43), (.int 0), (.ref a1)])) rfl (by rw [hml]; rfl) (kc := 0) (ks := 0) (argsL := [(.ref a1), (.int 0), (.ref b43), (.int 0), (.int pn)]) (rest := []) (lenOf pd_3 rfl) rfl (mr0 rfl) (hb hby d5_9) e43 (by decide) (by decide)
 obtain ⟨rfl, N45q, Kq45, q45_0⟩ := hQ45
 have N45 := Fr.app N0 N45q
 have K46 : Keep h0 T45.heap [] := K44.trans Kq45 (allS (P := fun x => x ∈ [] ∨ h0.size ≤ x) (Or.inr sz_b43) all0)
 refine go (S' := T45.setTop (mkF m 17 #[sr a1, si 0, si pn, sr b43, si (Int32.ofNat (own_k cs)), un] [(.int pn), (.int (Int32.ofNat (own_k cs)))])) (fun t k => st45 _ (XS.istore X45.here hx rfl (hb hby d5_12) rfl (l' := #[sr a1, si 0, si pn, sr b43, si (Int32.ofNat (own_k cs)), un]) rfl (XS.iload X45.here hx rfl (hb hby d5_14) rfl (XS.iloadN X45.here hx rfl (hb hby d5_16) rfl k)))) ?_
 by_cases hq : own_k cs = cs.length
 ·
  have hqq : (Int32.ofNat (own_k cs)) = pn := by rw [hn, hq]
  refine go (S' := T45.setTop (mkF m 58 #[sr a1, si 0, si pn, sr b43, si (Int32.ofNat (own_k cs)), un] [(.ref b43)])) (fun t k => XS.icmpYes X45.here hx rfl (pc0 := 17) (pc' := 57) rfl (hb hby d5_17) rfl (teq hqq).1 (by decide) (by decide) (XS.aloadN X45.here hx rfl (hb hby d5_57) rfl rfl k)) ?_
  refine finR X45 hx hk hret rfl rfl (hb hby d5_58) (by decide) (by decide) ?_
  have hV : (cs.take (own_k cs)) = cs := List.take_of_length_le (by omega)
  exact ⟨b43, k43, 0, pn, _, rfl, N45, K46, sz_b43, q45_0, Or.inl ⟨rfl, hn, by rw [hV], own_k_lo cs hq⟩⟩
 ·
  have hkk := own_k_hi cs hq
  have hqq : ¬ ((Int32.ofNat (own_k cs)) = pn) := fun q => hq (oj_inj (by omega) (by omega) (q.trans hn))
  refine go (S' := T45.setTop (mkF m 23 #[sr a1, si 0, si pn, sr b43, si (Int32.ofNat (own_k cs)), un] [(.int pn), (.int 0), (.ref a1)])) (fun t k => XS.icmpNo X45.here hx rfl (hb hby d5_17) rfl (feq hqq).1 (XS.aloadN X45.here hx rfl (hb hby d5_20) rfl rfl (XS.iloadN X45.here hx rfl (hb hby d5_21) rfl (XS.iloadN X45.here hx rfl (hb hby d5_22) rfl k)))) ?_
  have O47 : Old Z n0 T45.heap := O0.keep K46 all0
  obtain ⟨v48, T48, L48, X48, hQ48, st48⟩ := callSt X45 hx hZ (y := y_5) hown (ww hw 269 rfl) (ww hw 270 rfl) (ww hw 23 rfl) (ww hw 271 rfl) (by decide) (backOf (W := 0) (rmTob l Z a0 hw [] a1 pn kC cs dC T45.heap n0 (Nat.le_trans Z0 K46.1) hn hl (hp3.keep K46 nin0) hp4 hp5 hp6 O47) hZ (ww hw 271 rfl) (ww hw 23 rfl) (by decide) (by decide)) (g := (mkF m 23 #[sr a1, si 0, si pn, sr b43, si (Int32.ofNat (own_k cs)), un] [(.int pn), (.int 0), (.ref a1)])) rfl (by rw [hml]; rfl) (kc := 1) (ks := 32) (argsL := [(.ref a1), (.int 0), (.int pn)]) (rest := []) (lenOf pd_4 rfl) rfl (mr0 rfl) (hb hby d5_23) rfl (by decide) (by decide)
  obtain ⟨t_48, kb_48, rfl, N48q, Kq48, q48_0, q48_1⟩ := hQ48
  have N48 := Fr.app N45 N48q
  have K49 : Keep h0 T48.heap [] := K46.trans Kq48 all0
  have lt_a1_t_48 : a1 < t_48 := Nat.lt_of_lt_of_le (hp3.keep K46 nin0).lt q48_0
  have lt_b43_t_48 : b43 < t_48 := Nat.lt_of_lt_of_le q45_0.lt q48_0
  have sz_t_48 : h0.size ≤ t_48 := Nat.le_trans K46.1 q48_0
  have ge_t_48 : n0 ≤ t_48 := Nat.le_trans Z0 sz_t_48
  refine go (S' := T48.setTop (mkF m 32 #[sr a1, si 0, si pn, sr b43, si (Int32.ofNat (own_k cs)), sr t_48] [(.int (Int32.ofNat (own_k cs))), (.ref t_48)])) (fun t k => st48 _ (XS.astore X48.here hx rfl (hb hby d5_26) rfl rfl (l' := #[sr a1, si 0, si pn, sr b43, si (Int32.ofNat (own_k cs)), sr t_48]) rfl (XS.aload X48.here hx rfl (hb hby d5_28) rfl rfl (XS.iload X48.here hx rfl (hb hby d5_30) rfl k)))) ?_
  have O50 : Old Z n0 T48.heap := O0.keep K49 all0
  obtain ⟨v51, T51, L51, X51, hQ51, st51⟩ := callSt X48 hx hZ (y := y_4) hown (ww hw 279 rfl) (ww hw 280 rfl) (ww hw 23 rfl) (ww hw 281 rfl) (by decide) (backOf (W := 0) (rmGet l Z a0 hw [] t_48 (Int32.ofNat (own_k cs)) kb_48 (own_k cs) cs.length (StrChars.Road.wideBytes cs) (cs.getD (own_k cs) 0) T48.heap n0 (Nat.le_trans Z0 K49.1) q48_1 rfl hkk.1 hl (StrChars.Road.wide_lo _ cs _ hkk.1) (StrChars.Road.wide_hi _ cs _ hkk.1) (hpc _ (oj_mem hkk.1)) hp4 hp5 hp6 O50) hZ (ww hw 281 rfl) (ww hw 23 rfl) (by decide) (by decide)) (g := (mkF m 32 #[sr a1, si 0, si pn, sr b43, si (Int32.ofNat (own_k cs)), sr t_48] [(.int (Int32.ofNat (own_k cs))), (.ref t_48)])) rfl (by rw [hml]; rfl) (kc := 0) (ks := 0) (argsL := [(.ref t_48), (.int (Int32.ofNat (own_k cs)))]) (rest := []) (lenOf pd_5 rfl) rfl (mr0 rfl) (hb hby d5_32) rfl (by decide) (by decide)
  obtain ⟨rfl, N51q, e51⟩ := hQ51
  have N51 := Fr.app N48 N51q
  refine go (S' := T51.setTop (mkF m 56 #[sr a1, si 0, si pn, sr b43, si (Int32.ofNat (own_k cs)), sr t_48] [(.ref t_48)])) (fun t k => st51 _ (XS.sipush X51.here hx rfl (hb hby d5_35) (XS.icmpYes X51.here hx rfl (pc0 := 38) (pc' := 54) rfl (hb hby d5_38) rfl (tlt hkk.2).2.2.1 (by decide) (by decide) (XS.aload X51.here hx rfl (hb hby d5_54) rfl rfl k)))) ?_
  refine finR X51 hx hk hret rfl rfl (hb hby d5_56) (by decide) (by decide) ?_
  rw [e51]
  exact ⟨t_48, kb_48, 1, _, _, rfl, N51, K49, sz_t_48, q48_1, Or.inr ⟨rfl, rfl, rfl, _, oj_mem hkk.1, hkk.2⟩⟩
theorem d7_0 : dd jdk_52_method_15_code 0 (.iload_n 1) 1 := by decide +kernel
theorem d7_1 : dd jdk_52_method_15_code 1 (.aload_n 0) 1 := by decide +kernel
theorem d7_2 : dd jdk_52_method_15_code 2 .arraylength 1 := by decide +kernel
theorem d7_3 : dd jdk_52_method_15_code 3 .isub 1 := by decide +kernel
theorem d7_4 : dd jdk_52_method_15_code 4 (.bipush 31) 2 := by decide +kernel
theorem d7_6 : dd jdk_52_method_15_code 6 .iushr 1 := by decide +kernel
theorem d7_7 : dd jdk_52_method_15_code 7 .i2b 1 := by decide +kernel
theorem d7_8 : dd jdk_52_method_15_code 8 .ireturn 1 := by decide +kernel
abbrev y_7 : MethodName := ⟨"java/lang/StringUTF16", "coderFromArrayLen", "([BI)B"⟩
theorem pn_7 : plainFor y_7 = true := by first | exact plainFor_of_name (by first | (simp [plainName, overriddenIn]; done) | decide +kernel) | decide +kernel
theorem ef_rmCfl (m : MethodId) (a1 : Addr) (pn : Int32) : entryFrame m #[(.ref a1), (.int pn)] 2 = mkF m 0 #[sr a1, si pn] [] := by first | (simp [entryFrame, mkF, argsToLocals, Value.category]; done) | rfl
def Q_rmCfl (Z : State) (a1 : Addr) (pn : Int32) (kb : ClassId) (cd : Int32) (N2 : Int32) (vs : List Value) (cs : List Int32) (h0 : Heap) (n0 : Nat) (v : Option Value) (h : Heap) (L : List Loc) : Prop := v = some (.int cd) ∧ Fr n0 L ∧ h = h0
set_option maxRecDepth 65536 in
set_option maxHeartbeats 40000000 in
theorem rmCfl (l : Launch) (Z : State) (a0 : Array Value) (hw : ∀ d ∈ tables_1, d.before a0 Z = true) (ws : List Jvm.Cond) (a1 : Addr) (pn : Int32) (kb : ClassId) (cd : Int32) (N2 : Int32) (vs : List Value) (cs : List Int32) (h0 : Heap) (n0 : Nat) (Z0 : n0 ≤ h0.size) (hp0 : Arv Z h0 a1 kb .byte N2 vs (.int 0)) (hcod : StrChars.Road.CodA cs cd N2 vs) (hn : pn = Int32.ofNat cs.length) (hl : cs.length ≤ 4000) (hl0 : 0 < cs.length) :
    MetFree l y_7 (head1 (Jvm.Cond.code y_7 jdk_52_method_15_code 2 (some .byte) :: ws) ({ frames := 0, cells := 0, slots := 0, locals := 0 } : Room)) (fun a U => a = #[(.ref a1), (.int pn)] ∧ Z.Warmed39 U.vm ∧ U.heap = h0) (fun _ _ _ _ _ => True) (fun _ U o U' => ∃ v L, o = .returned v ∧ Q_rmCfl Z a1 pn kb cd N2 vs cs h0 n0 v U'.heap L ∧ FrameEnd U o U' L ({ frames := 0, cells := 0, slots := 0, locals := 0 } : Room).cells ({ frames := 0, cells := 0, slots := 0, locals := 0 } : Room).slots) := by
 refine bodyOf pn_7 (fun m => ef_rmCfl m a1 pn) ?_
 intro p e s m below meth c T0 X0 hx hby hml hown hnm hret hk hZ e0
 have N0 := Fr.nil n0
 have K0 : Keep h0 h0 [] := Keep.refl _ _
 refine go (S' := T0.setTop (mkF m 2 #[sr a1, si pn] [(.ref a1), (.int pn)])) (fun t k => XS.iloadN X0.here hx rfl (hb hby d7_0) rfl (XS.aloadN X0.here hx rfl (hb hby d7_1) rfl rfl k)) ?_
 obtain ⟨cl52, Ar52, -, S52, M52, -, -⟩ := id hp0
 refine go (S' := T0.setTop (mkF m 8 #[sr a1, si pn] [(.int ((((pn - N2).toUInt32 >>> ((31 : Int32) &&& 31).toUInt32).toInt32).toInt8.toInt32))])) (fun t k => X0.arraylength hx (by rw [e0]; exact Ar52.1) (State.isArrayOf_alike hZ.alike Ar52.2.1) (g := (mkF m 2 #[sr a1, si pn] [(.ref a1), (.int pn)])) rfl rfl (hb hby d7_2) _ (by rw [len_of S52 M52]; exact (XS.isub X0.here hx rfl (hb hby d7_3) rfl (XS.bipush X0.here hx rfl (hb hby d7_4) (XS.iushr X0.here hx rfl (hb hby d7_6) rfl (XS.i2b X0.here hx rfl (hb hby d7_7) rfl k)))))) ?_
 refine finN X0 hx hk (t := .byte) hret (by simp) (hb hby d7_8) (by decide) (by decide) ?_
 rw [e0]
 exact ⟨(congrArg (fun z => some (Value.int z)) (by rcases hcod with ⟨q1, q2, -⟩ | ⟨q1, q2, -⟩; rw [hn, q1, q2]; exact oj_cod0 hl; rw [hn, q1, q2]; exact oj_cod1 hl0 hl)), N0, rfl⟩
theorem d3_0 : dd jdk_42_method_149_code 0 (.aload_n 0) 1 := by decide +kernel
theorem d3_1 : dd jdk_42_method_149_code 1 (.invokespecial 1) 3 := by decide +kernel
theorem d3_4 : dd jdk_42_method_149_code 4 (.iload_n 3) 1 := by decide +kernel
theorem d3_5 : dd jdk_42_method_149_code 5 (.ifCond .ne 22) 3 := by decide +kernel
theorem d3_27 : dd jdk_42_method_149_code 27 (.getstatic 38) 3 := by decide +kernel
theorem d3_30 : dd jdk_42_method_149_code 30 (.ifCond .eq 28) 3 := by decide +kernel
theorem d3_33 : dd jdk_42_method_149_code 33 (.aload_n 1) 1 := by decide +kernel
theorem d3_34 : dd jdk_42_method_149_code 34 (.iload_n 2) 1 := by decide +kernel
theorem d3_35 : dd jdk_42_method_149_code 35 (.iload_n 3) 1 := by decide +kernel
theorem d3_36 : dd jdk_42_method_149_code 36 (.invokestatic 177) 3 := by decide +kernel
theorem d3_39 : dd jdk_42_method_149_code 39 (.astore 5) 2 := by decide +kernel
theorem d3_41 : dd jdk_42_method_149_code 41 (.aload_n 0) 1 := by decide +kernel
theorem d3_42 : dd jdk_42_method_149_code 42 (.aload 5) 2 := by decide +kernel
theorem d3_44 : dd jdk_42_method_149_code 44 (.iload_n 3) 1 := by decide +kernel
theorem d3_45 : dd jdk_42_method_149_code 45 (.invokestatic 47) 3 := by decide +kernel
theorem pd_6 : parseMethodDescriptor "([BI)B" = some ⟨[(.array .byte), .int], some .byte⟩ := by decide +kernel
theorem d3_48 : dd jdk_42_method_149_code 48 (.putfield 15) 3 := by decide +kernel
theorem d3_51 : dd jdk_42_method_149_code 51 (.aload_n 0) 1 := by decide +kernel
theorem d3_52 : dd jdk_42_method_149_code 52 (.aload 5) 2 := by decide +kernel
theorem d3_54 : dd jdk_42_method_149_code 54 (.putfield 9) 3 := by decide +kernel
theorem d3_57 : dd jdk_42_method_149_code 57 .return_ 1 := by decide +kernel
abbrev y_8 : MethodName := ⟨"java/lang/String", "<init>", "([CIILjava/lang/Void;)V"⟩
theorem pn_8 : plainFor y_8 = true := by first | exact plainFor_of_name (by first | (simp [plainName, overriddenIn]; done) | decide +kernel) | decide +kernel
theorem ef_rmInit4 (m : MethodId) (x1 : Addr) (b1 : Addr) (pn : Int32) : entryFrame m #[(.ref x1), (.ref b1), (.int 0), (.int pn), .null] 6 = mkF m 0 #[sr x1, sr b1, si 0, si pn, .val .null, un] [] := by first | (simp [entryFrame, mkF, argsToLocals, Value.category]; done) | rfl
def Q_rmInit4 (Z : State) (x1 : Addr) (b1 : Addr) (pn : Int32) (kC : ClassId) (cs : List Int32) (dC : Value) (G1 : Int32) (h0 : Heap) (n0 : Nat) (v : Option Value) (h : Heap) (L : List Loc) : Prop := ∃ (t : Addr), ∃ (cd : Int32), v = none ∧ Fr n0 L ∧ Keep h0 h [x1] ∧ (h0.size ≤ t) ∧ (t ≠ x1) ∧ (Str Z h x1 t cd cs)
set_option maxRecDepth 65536 in
set_option maxHeartbeats 40000000 in
theorem rmInit4 (l : Launch) (Z : State) (a0 : Array Value) (hw : ∀ d ∈ tables_1, d.before a0 Z = true) (ws : List Jvm.Cond) (x1 : Addr) (b1 : Addr) (pn : Int32) (kC : ClassId) (cs : List Int32) (dC : Value) (G1 : Int32) (h0 : Heap) (n0 : Nat) (Z0 : n0 ≤ h0.size) (hn : pn = Int32.ofNat cs.length) (hl : cs.length ≤ 16) (hl0 : 0 < cs.length) (hpc : ∀ c ∈ cs, ¬ c < 0 ∧ ¬ (65535 : Int32) < c) (hp4 : Arv Z h0 b1 kC .char pn (cs.map Value.int) dC) (hp5 : Exa Z h0 x1 "java/lang/String") (hp6 : Fld Z h0 x1 "java/lang/String" "value" "[B" .null) (hp7 : Fld Z h0 x1 "java/lang/String" "coder" "B" (.int 0)) (hp8 : n0 ≤ x1) (hp9 : x1 ≠ b1) (hp10 : Sta Z Z.heap "java/lang/String" "COMPACT_STRINGS" "Z" (.int G1)) (hG1 : ¬ (G1 = (0 : Int32))) (hp12 : Sta Z Z.heap "java/lang/StringUTF16" "$assertionsDisabled" "Z" (.int 1)) (hp13 : Sta Z Z.heap "java/lang/StringUTF16" "HI_BYTE_SHIFT" "I" (.int 0)) (hp14 : Sta Z Z.heap "java/lang/StringUTF16" "LO_BYTE_SHIFT" "I" (.int 8)) (hp15 : Old Z n0 h0) :
    MetFree l y_8 (head1 (Jvm.Cond.code y_8 jdk_42_method_149_code 6 none :: ws) ({ frames := 4, cells := 2, slots := 48, locals := 57 } : Room)) (fun a U => a = #[(.ref x1), (.ref b1), (.int 0), (.int pn), .null] ∧ Z.Warmed39 U.vm ∧ U.heap = h0) (fun _ _ _ _ _ => True) (fun _ U o U' => ∃ v L, o = .returned v ∧ Q_rmInit4 Z x1 b1 pn kC cs dC G1 h0 n0 v U'.heap L ∧ FrameEnd U o U' L ({ frames := 4, cells := 2, slots := 48, locals := 57 } : Room).cells ({ frames := 4, cells := 2, slots := 48, locals := 57 } : Room).slots) := by
 refine bodyOf pn_8 (fun m => ef_rmInit4 m x1 b1 pn) ?_
 intro p e s m below meth c T0 X0 hx hby hml hown hnm hret hk hZ e0
 have N0 := Fr.nil n0
 have K0 : Keep h0 h0 [x1] := Keep.refl _ _
 have ne_x1_b1 := hp9
 have O0 := hp15
 have hne0 : ¬ (pn = (0 : Int32)) := fun q => absurd (oj_inj (i := cs.length) (n := 0) (by omega) (by omega) (hn.symm.trans (q.trans (rfl : (0 : Int32) = Int32.ofNat 0)))) (by omega)
 refine go (S' := T0.setTop (mkF m 1 #[sr x1, sr b1, si 0, si pn, .val .null, un] [(.ref x1)])) (fun t k => XS.aloadN X0.here hx rfl (hb hby d3_0) rfl rfl k) ?_
 obtain ⟨T53, X53, e53, st53⟩ := initO X0 hx hZ hown (ww hw 17 rfl) (ww hw 18 rfl) (ww hw 19 rfl) e0 (g := (mkF m 1 #[sr x1, sr b1, si 0, si pn, .val .null, un] [(.ref x1)])) rfl (by rw [hml]; rfl) rfl (hb hby d3_1) (by decide) (W := 0) (mr0 rfl) (by decide)
 refine go (S' := T53.setTop (mkF m 27 #[sr x1, sr b1, si 0, si pn, .val .null, un] [])) (fun t k => st53 _ (XS.iloadN X53.here hx rfl (hb hby d3_4) rfl (XS.ifYes X53.here hx rfl (pc0 := 5) (pc' := 27) rfl (hb hby d3_5) rfl ((if0 _ _).trans (feq hne0).2) (by decide) (by decide) k))) ?_
 have O55 : Old Z n0 h0 := O0.keep K0 (allS hp8 all0)
 obtain ⟨T54, X54, e54, st54⟩ := getS2 X53 hx hZ hown (host := "") (Or.inl (ww hw 20 rfl)) Via.refl e53 (hp10.ext O55.2) (g := (mkF m 27 #[sr x1, sr b1, si 0, si pn, .val .null, un] [])) rfl (hb hby d3_27)
 refine go (S' := T54.setTop (mkF m 36 #[sr x1, sr b1, si 0, si pn, .val .null, un] [(.int pn), (.int 0), (.ref b1)])) (fun t k => st54 _ (XS.ifNo X54.here hx rfl (hb hby d3_30) rfl ((if0 _ _).trans (feq hG1).1) (XS.aloadN X54.here hx rfl (hb hby d3_33) rfl rfl (XS.iloadN X54.here hx rfl (hb hby d3_34) rfl (XS.iloadN X54.here hx rfl (hb hby d3_35) rfl k))))) ?_
 obtain ⟨v56, T56, L56, X56, hQ56, st56⟩ := callSt X54 hx hZ (y := y_6) hown (ww hw 21 rfl) (ww hw 22 rfl) (ww hw 23 rfl) (ww hw 24 rfl) (by decide) (backOf (W := 0) (rmCmp3 l Z a0 hw [] b1 pn kC cs dC h0 n0 (Nat.le_trans Z0 K0.1) hn hl hpc hp4 hp12 hp13 hp14 O55) hZ (ww hw 24 rfl) (ww hw 23 rfl) (by decide) (by decide)) (g := (mkF m 36 #[sr x1, sr b1, si 0, si pn, .val .null, un] [(.int pn), (.int 0), (.ref b1)])) rfl (by rw [hml]; rfl) (kc := 2) (ks := 48) (argsL := [(.ref b1), (.int 0), (.int pn)]) (rest := []) (lenOf pd_4 rfl) rfl (mr0 rfl) (hb hby d3_36) e54 (by decide) (by decide)
 obtain ⟨t_56, kb_56, cd_56, N2_56, vs_56, rfl, N56q, Kq56, q56_0, q56_1, q56_2⟩ := hQ56
 have N56 := Fr.app N0 N56q
 have K57 : Keep h0 T56.heap [x1] := K0.trans Kq56 all0
 have lt_b1_t_56 : b1 < t_56 := Nat.lt_of_lt_of_le hp4.lt q56_0
 have lt_x1_t_56 : x1 < t_56 := Nat.lt_of_lt_of_le hp5.lt q56_0
 have sz_t_56 : h0.size ≤ t_56 := Nat.le_trans K0.1 q56_0
 have ge_t_56 : n0 ≤ t_56 := Nat.le_trans Z0 sz_t_56
 refine go (S' := T56.setTop (mkF m 45 #[sr x1, sr b1, si 0, si pn, .val .null, sr t_56] [(.int pn), (.ref t_56), (.ref x1)])) (fun t k => st56 _ (XS.astore X56.here hx rfl (hb hby d3_39) rfl rfl (l' := #[sr x1, sr b1, si 0, si pn, .val .null, sr t_56]) rfl (XS.aloadN X56.here hx rfl (hb hby d3_41) rfl rfl (XS.aload X56.here hx rfl (hb hby d3_42) rfl rfl (XS.iloadN X56.here hx rfl (hb hby d3_44) rfl k))))) ?_
 obtain ⟨v58, T58, L58, X58, hQ58, st58⟩ := callSt X56 hx hZ (y := y_7) hown (ww hw 29 rfl) (ww hw 30 rfl) (ww hw 23 rfl) (ww hw 31 rfl) (by decide) (backOf (W := 1) (rmCfl l Z a0 hw [] t_56 pn kb_56 cd_56 N2_56 vs_56 cs T56.heap n0 (Nat.le_trans Z0 K57.1) q56_1 q56_2 hn (by omega) hl0) hZ (ww hw 31 rfl) (ww hw 23 rfl) (by decide) (by decide)) (g := (mkF m 45 #[sr x1, sr b1, si 0, si pn, .val .null, sr t_56] [(.int pn), (.ref t_56), (.ref x1)])) rfl (by rw [hml]; rfl) (kc := 0) (ks := 0) (argsL := [(.ref t_56), (.int pn)]) (rest := [(.ref x1)]) (lenOf pd_6 rfl) rfl (mr0 rfl) (hb hby d3_45) rfl (by decide) (by decide)
 obtain ⟨rfl, N58q, e58⟩ := hQ58
 have N58 := Fr.app N56 N58q
 refine go (S' := T58.setTop (mkF m 48 #[sr x1, sr b1, si 0, si pn, .val .null, sr t_56] [(.int cd_56), (.ref x1)])) st58 ?_
 have hcd : cd_56 = 0 ∨ cd_56 = 1 := q56_2.imp (·.1) (·.1)
 have f59 : Fld Z T56.heap x1 "java/lang/String" "coder" "B" (.int 0) := (hp7.keep Kq56 nin0)
 obtain ⟨T60, h60, X60, e60, W60, st60⟩ := putF X58 hx hZ hown (host := "") (Or.inl (ww hw 32 rfl)) Via.refl e58 f59 (hp5.keep K57) (Or.inr ⟨(ww hw 33 rfl), rfl, hnm⟩) (ww hw 7 rfl) (ty := .byte) (by decide) (by rcases hcd with q | q <;> rw [q] <;> rfl) (by rcases hcd with q | q <;> rw [q] <;> rfl) (g := (mkF m 48 #[sr x1, sr b1, si 0, si pn, .val .null, sr t_56] [(.int cd_56), (.ref x1)])) rfl rfl (hb hby d3_48)
 have K61 : Keep h0 h60 [x1] := K57.wr W60 (Or.inl (List.mem_of_getElem? (i := 0) rfl))
 have N62 := Fr.snoc X60 N58 hp8
 have f63 : Fld Z h60 x1 "java/lang/String" "coder" "B" (.int cd_56) := (Fld.same W60 f59)
 refine go (S' := T60.setTop (mkF m 54 #[sr x1, sr b1, si 0, si pn, .val .null, sr t_56] [(.ref t_56), (.ref x1)])) (fun t k => st60 _ (XS.aloadN X60.here hx rfl (hb hby d3_51) rfl rfl (XS.aload X60.here hx rfl (hb hby d3_52) rfl rfl k))) ?_
 have f64 : Fld Z h60 x1 "java/lang/String" "value" "[B" .null := (Fld.other W60 (hp6.keep Kq56 nin0) (Or.inr (slot_ne (Or.inr (ww hw 35 rfl)) (Or.inr (ww hw 33 rfl)) (by decide) (t := (.array .byte)) (t' := .byte) (by decide) (by decide))))
 obtain ⟨T65, h65, X65, e65, W65, st65⟩ := putF X60 hx hZ hown (host := "") (Or.inl (ww hw 34 rfl)) Via.refl e60 f64 (hp5.keep K61) (Or.inr ⟨(ww hw 35 rfl), rfl, hnm⟩) (ww hw 7 rfl) (ty := (.array .byte)) (by decide) rfl rfl (g := (mkF m 54 #[sr x1, sr b1, si 0, si pn, .val .null, sr t_56] [(.ref t_56), (.ref x1)])) rfl rfl (hb hby d3_54)
 have K66 : Keep h0 h65 [x1] := K61.wr W65 (Or.inl (List.mem_of_getElem? (i := 0) rfl))
 have N67 := Fr.snoc X65 N62 hp8
 have f68 : Fld Z h65 x1 "java/lang/String" "value" "[B" (.ref t_56) := (Fld.same W65 f64)
 refine go (S' := T65.setTop (mkF m 57 #[sr x1, sr b1, si 0, si pn, .val .null, sr t_56] [])) st65 ?_
 refine finV X65 hx hk hret (hb hby d3_57) (by decide) (by decide) ?_
 have f69 : Fld Z h65 x1 "java/lang/String" "coder" "B" (.int cd_56) := (Fld.other W65 f63 (Or.inr (slot_ne (Or.inr (ww hw 33 rfl)) (Or.inr (ww hw 35 rfl)) (by decide) (t := .byte) (t' := (.array .byte)) (by decide) (by decide))))
 have f70 : Arv Z h65 t_56 kb_56 .byte N2_56 vs_56 (.int 0) := ((q56_1.other W60 (Nat.ne_of_gt lt_x1_t_56)).other W65 (Nat.ne_of_gt lt_x1_t_56))
 rw [e65]
 exact ⟨t_56, cd_56, rfl, N67, K66, sz_t_56, (Nat.ne_of_gt lt_x1_t_56), ⟨_, _, _, (hp5.keep K66), f68, f69, f70, q56_2, hpc, by omega⟩⟩
theorem d2_0 : dd jdk_42_method_3_code 0 (.aload_n 0) 1 := by decide +kernel
theorem d2_1 : dd jdk_42_method_3_code 1 (.aload_n 1) 1 := by decide +kernel
theorem d2_2 : dd jdk_42_method_3_code 2 (.iconst 0) 1 := by decide +kernel
theorem d2_3 : dd jdk_42_method_3_code 3 (.aload_n 1) 1 := by decide +kernel
theorem d2_4 : dd jdk_42_method_3_code 4 .arraylength 1 := by decide +kernel
theorem d2_5 : dd jdk_42_method_3_code 5 .aconst_null 1 := by decide +kernel
theorem d2_6 : dd jdk_42_method_3_code 6 (.invokespecial 27) 3 := by decide +kernel
theorem pd_7 : parseMethodDescriptor "([CIILjava/lang/Void;)V" = some ⟨[(.array .char), .int, .int, (.object "java/lang/Void")], none⟩ := by decide +kernel
theorem d2_9 : dd jdk_42_method_3_code 9 .return_ 1 := by decide +kernel
abbrev y_9 : MethodName := ⟨"java/lang/String", "<init>", "([C)V"⟩
theorem pn_9 : plainFor y_9 = true := by first | exact plainFor_of_name (by first | (simp [plainName, overriddenIn]; done) | decide +kernel) | decide +kernel
theorem ef_rmInit1 (m : MethodId) (x1 : Addr) (b1 : Addr) : entryFrame m #[(.ref x1), (.ref b1)] 2 = mkF m 0 #[sr x1, sr b1] [] := by first | (simp [entryFrame, mkF, argsToLocals, Value.category]; done) | rfl
def Q_rmInit1 (Z : State) (x1 : Addr) (b1 : Addr) (pn : Int32) (kC : ClassId) (cs : List Int32) (dC : Value) (G1 : Int32) (h0 : Heap) (n0 : Nat) (v : Option Value) (h : Heap) (L : List Loc) : Prop := ∃ (t : Addr), ∃ (cd : Int32), v = none ∧ Fr n0 L ∧ Keep h0 h [x1] ∧ (h0.size ≤ t) ∧ (t ≠ x1) ∧ (Str Z h x1 t cd cs)
set_option maxRecDepth 65536 in
set_option maxHeartbeats 40000000 in
theorem rmInit1 (l : Launch) (Z : State) (a0 : Array Value) (hw : ∀ d ∈ tables_1, d.before a0 Z = true) (ws : List Jvm.Cond) (x1 : Addr) (b1 : Addr) (pn : Int32) (kC : ClassId) (cs : List Int32) (dC : Value) (G1 : Int32) (h0 : Heap) (n0 : Nat) (Z0 : n0 ≤ h0.size) (hp0 : Arv Z h0 b1 kC .char pn (cs.map Value.int) dC) (hn : pn = Int32.ofNat cs.length) (hl : cs.length ≤ 16) (hl0 : 0 < cs.length) (hpc : ∀ c ∈ cs, ¬ c < 0 ∧ ¬ (65535 : Int32) < c) (hp5 : Exa Z h0 x1 "java/lang/String") (hp6 : Fld Z h0 x1 "java/lang/String" "value" "[B" .null) (hp7 : Fld Z h0 x1 "java/lang/String" "coder" "B" (.int 0)) (hp8 : n0 ≤ x1) (hp9 : x1 ≠ b1) (hp10 : Sta Z Z.heap "java/lang/String" "COMPACT_STRINGS" "Z" (.int G1)) (hG1 : ¬ (G1 = (0 : Int32))) (hp12 : Sta Z Z.heap "java/lang/StringUTF16" "$assertionsDisabled" "Z" (.int 1)) (hp13 : Sta Z Z.heap "java/lang/StringUTF16" "HI_BYTE_SHIFT" "I" (.int 0)) (hp14 : Sta Z Z.heap "java/lang/StringUTF16" "LO_BYTE_SHIFT" "I" (.int 8)) (hp15 : Old Z n0 h0) :
    MetFree l y_9 (head1 (Jvm.Cond.code y_9 jdk_42_method_3_code 2 none :: ws) ({ frames := 5, cells := 2, slots := 48, locals := 74 } : Room)) (fun a U => a = #[(.ref x1), (.ref b1)] ∧ Z.Warmed39 U.vm ∧ U.heap = h0) (fun _ _ _ _ _ => True) (fun _ U o U' => ∃ v L, o = .returned v ∧ Q_rmInit1 Z x1 b1 pn kC cs dC G1 h0 n0 v U'.heap L ∧ FrameEnd U o U' L ({ frames := 5, cells := 2, slots := 48, locals := 74 } : Room).cells ({ frames := 5, cells := 2, slots := 48, locals := 74 } : Room).slots) := by
 refine bodyOf pn_9 (fun m => ef_rmInit1 m x1 b1) ?_
 intro p e s m below meth c T0 X0 hx hby hml hown hnm hret hk hZ e0
 have N0 := Fr.nil n0
 have K0 : Keep h0 h0 [x1] := Keep.refl _ _
 have ne_x1_b1 := hp9
 have O0 := hp15
 refine go (S' := T0.setTop (mkF m 4 #[sr x1, sr b1] [(.ref b1), (.int 0), (.ref b1), (.ref x1)])) (fun t k => XS.aloadN X0.here hx rfl (hb hby d2_0) rfl rfl (XS.aloadN X0.here hx rfl (hb hby d2_1) rfl rfl (XS.iconst X0.here hx rfl (hb hby d2_2) (XS.aloadN X0.here hx rfl (hb hby d2_3) rfl rfl k)))) ?_
 obtain ⟨cl71, Ar71, -, S71, M71, -, -⟩ := id hp0
 refine go (S' := T0.setTop (mkF m 6 #[sr x1, sr b1] [.null, (.int pn), (.int 0), (.ref b1), (.ref x1)])) (fun t k => X0.arraylength hx (by rw [e0]; exact Ar71.1) (State.isArrayOf_alike hZ.alike Ar71.2.1) (g := (mkF m 4 #[sr x1, sr b1] [(.ref b1), (.int 0), (.ref b1), (.ref x1)])) rfl rfl (hb hby d2_4) _ (by rw [len_of S71 M71]; exact (XS.aconstNull X0.here hx rfl (hb hby d2_5) k))) ?_
 have O72 : Old Z n0 h0 := O0.keep K0 (allS hp8 all0)
 obtain ⟨v73, T73, L73, X73, hQ73, st73⟩ := callSp X0 hx hZ (y := y_8) rfl hown (ww hw 13 rfl) (ww hw 14 rfl) (ww hw 16 rfl) (by decide) (backOf (W := 0) (rmInit4 l Z a0 hw [] x1 b1 pn kC cs dC G1 h0 n0 (Nat.le_trans Z0 K0.1) hn hl hl0 hpc hp0 hp5 hp6 hp7 hp8 ne_x1_b1 hp10 hG1 hp12 hp13 hp14 O72) hZ (ww hw 16 rfl) (ww hw 8 rfl) (by decide) (by decide)) (g := (mkF m 6 #[sr x1, sr b1] [.null, (.int pn), (.int 0), (.ref b1), (.ref x1)])) rfl (by rw [hml]; rfl) (a := x1) (kc := 2) (ks := 48) (argsL := [(.ref b1), (.int 0), (.int pn), .null]) (rest := []) (lenOf pd_7 rfl) rfl (mr0 rfl) (hb hby d2_6) e0 (by decide) (by decide)
 obtain ⟨t_73, cd_73, rfl, N73q, Kq73, q73_0, q73_1, q73_2⟩ := hQ73
 have N73 := Fr.app N0 N73q
 have K74 : Keep h0 T73.heap [x1] := K0.trans Kq73 (allS (P := fun x => x ∈ [x1] ∨ h0.size ≤ x) (Or.inl (List.mem_of_getElem? (i := 0) rfl)) all0)
 have lt_b1_t_73 : b1 < t_73 := Nat.lt_of_lt_of_le hp0.lt q73_0
 have lt_x1_t_73 : x1 < t_73 := Nat.lt_of_lt_of_le hp5.lt q73_0
 have sz_t_73 : h0.size ≤ t_73 := Nat.le_trans K0.1 q73_0
 have ge_t_73 : n0 ≤ t_73 := Nat.le_trans Z0 sz_t_73
 have ne_t_73_x1 := q73_1
 refine go (S' := T73.setTop (mkF m 9 #[sr x1, sr b1] [])) st73 ?_
 refine finV X73 hx hk hret (hb hby d2_9) (by decide) (by decide) ?_
 exact ⟨t_73, cd_73, rfl, N73, K74, sz_t_73, ne_t_73_x1, q73_2⟩
theorem d42_0 : dd jdk_41_method_11_code 0 (.iload_n 0) 1 := by decide +kernel
theorem d42_1 : dd jdk_41_method_11_code 1 (.ifCond .lt 8) 3 := by decide +kernel
theorem d42_4 : dd jdk_41_method_11_code 4 (.iload_n 0) 1 := by decide +kernel
theorem d42_5 : dd jdk_41_method_11_code 5 (.iload_n 1) 1 := by decide +kernel
theorem d42_6 : dd jdk_41_method_11_code 6 (.if_icmp .lt 10) 3 := by decide +kernel
theorem d42_16 : dd jdk_41_method_11_code 16 (.iload_n 0) 1 := by decide +kernel
theorem d42_17 : dd jdk_41_method_11_code 17 .ireturn 1 := by decide +kernel
abbrev y_10 : MethodName := ⟨"jdk/internal/util/Preconditions", "checkIndex", "(IILjava/util/function/BiFunction;)I"⟩
theorem pn_10 : plainFor y_10 = true := by first | exact plainFor_of_name (by first | (simp [plainName, overriddenIn]; done) | decide +kernel) | decide +kernel
theorem ef_rmPci (m : MethodId) (pi : Int32) (pn : Int32) (fm : Value) (hfm : fm.isRef = true) : entryFrame m #[(.int pi), (.int pn), fm] 3 = mkF m 0 #[si pi, si pn, .val fm] [] := by cases fm <;> simp_all [entryFrame, mkF, argsToLocals, Value.category, Value.isRef]
def Q_rmPci (Z : State) (pi : Int32) (pn : Int32) (fm : Value) (h0 : Heap) (n0 : Nat) (v : Option Value) (h : Heap) (L : List Loc) : Prop := v = some (.int pi) ∧ Fr n0 L ∧ h = h0
set_option maxRecDepth 65536 in
set_option maxHeartbeats 40000000 in
theorem rmPci (l : Launch) (Z : State) (a0 : Array Value) (hw : ∀ d ∈ tables_1, d.before a0 Z = true) (ws : List Jvm.Cond) (pi : Int32) (pn : Int32) (fm : Value) (h0 : Heap) (n0 : Nat) (Z0 : n0 ≤ h0.size) (hfm : fm.isRef = true) (hz0 : ¬ (pi < (0 : Int32))) (hz1 : pi < pn) :
    MetFree l y_10 (head1 (Jvm.Cond.code y_10 jdk_41_method_11_code 3 (some .int) :: ws) ({ frames := 0, cells := 0, slots := 0, locals := 0 } : Room)) (fun a U => a = #[(.int pi), (.int pn), fm] ∧ Z.Warmed39 U.vm ∧ U.heap = h0) (fun _ _ _ _ _ => True) (fun _ U o U' => ∃ v L, o = .returned v ∧ Q_rmPci Z pi pn fm h0 n0 v U'.heap L ∧ FrameEnd U o U' L ({ frames := 0, cells := 0, slots := 0, locals := 0 } : Room).cells ({ frames := 0, cells := 0, slots := 0, locals := 0 } : Room).slots) := by
 refine bodyOf pn_10 (fun m => ef_rmPci m pi pn fm hfm) ?_
 intro p e s m below meth c T0 X0 hx hby hml hown hnm hret hk hZ e0
 have N0 := Fr.nil n0
 have K0 : Keep h0 h0 [] := Keep.refl _ _
 refine go (S' := T0.setTop (mkF m 17 #[si pi, si pn, .val fm] [(.int pi)])) (fun t k => XS.iloadN X0.here hx rfl (hb hby d42_0) rfl (XS.ifNo X0.here hx rfl (hb hby d42_1) rfl ((if0 _ _).trans (flt hz0).1) (XS.iloadN X0.here hx rfl (hb hby d42_4) rfl (XS.iloadN X0.here hx rfl (hb hby d42_5) rfl (XS.icmpYes X0.here hx rfl (pc0 := 6) (pc' := 16) rfl (hb hby d42_6) rfl (tlt hz1).1 (by decide) (by decide) (XS.iloadN X0.here hx rfl (hb hby d42_16) rfl k)))))) ?_
 refine finI X0 hx hk hret (hb hby d42_17) (by decide) (by decide) ?_
 rw [e0]
 exact ⟨rfl, N0, rfl⟩
theorem d41_0 : dd jdk_42_method_155_code 0 (.iload_n 0) 1 := by decide +kernel
theorem d41_1 : dd jdk_42_method_155_code 1 (.iload_n 1) 1 := by decide +kernel
theorem d41_2 : dd jdk_42_method_155_code 2 (.getstatic 1053) 3 := by decide +kernel
theorem d41_5 : dd jdk_42_method_155_code 5 (.invokestatic 1059) 3 := by decide +kernel
theorem pd_8 : parseMethodDescriptor "(IILjava/util/function/BiFunction;)I" = some ⟨[.int, .int, (.object "java/util/function/BiFunction")], some .int⟩ := by decide +kernel
theorem d41_8 : dd jdk_42_method_155_code 8 .pop 1 := by decide +kernel
theorem d41_9 : dd jdk_42_method_155_code 9 .return_ 1 := by decide +kernel
abbrev y_11 : MethodName := ⟨"java/lang/String", "checkIndex", "(II)V"⟩
theorem pn_11 : plainFor y_11 = true := by first | exact plainFor_of_name (by first | (simp [plainName, overriddenIn]; done) | decide +kernel) | decide +kernel
theorem ef_rmSci (m : MethodId) (pi : Int32) (pn : Int32) : entryFrame m #[(.int pi), (.int pn)] 2 = mkF m 0 #[si pi, si pn] [] := by first | (simp [entryFrame, mkF, argsToLocals, Value.category]; done) | rfl
def Q_rmSci (Z : State) (pi : Int32) (pn : Int32) (fm : Value) (h0 : Heap) (n0 : Nat) (v : Option Value) (h : Heap) (L : List Loc) : Prop := v = none ∧ Fr n0 L ∧ h = h0
set_option maxRecDepth 65536 in
set_option maxHeartbeats 40000000 in
theorem rmSci (l : Launch) (Z : State) (a0 : Array Value) (hw : ∀ d ∈ tables_1, d.before a0 Z = true) (ws : List Jvm.Cond) (pi : Int32) (pn : Int32) (fm : Value) (h0 : Heap) (n0 : Nat) (Z0 : n0 ≤ h0.size) (hfm : fm.isRef = true) (hz0 : ¬ (pi < (0 : Int32))) (hz1 : pi < pn) (hp3 : Sta Z Z.heap "jdk/internal/util/Preconditions" "SIOOBE_FORMATTER" "Ljava/util/function/BiFunction;" fm) (hp4 : Old Z n0 h0) :
    MetFree l y_11 (head1 (Jvm.Cond.code y_11 jdk_42_method_155_code 2 none :: ws) ({ frames := 1, cells := 0, slots := 0, locals := 14 } : Room)) (fun a U => a = #[(.int pi), (.int pn)] ∧ Z.Warmed39 U.vm ∧ U.heap = h0) (fun _ _ _ _ _ => True) (fun _ U o U' => ∃ v L, o = .returned v ∧ Q_rmSci Z pi pn fm h0 n0 v U'.heap L ∧ FrameEnd U o U' L ({ frames := 1, cells := 0, slots := 0, locals := 14 } : Room).cells ({ frames := 1, cells := 0, slots := 0, locals := 14 } : Room).slots) := by
 refine bodyOf pn_11 (fun m => ef_rmSci m pi pn) ?_
 intro p e s m below meth c T0 X0 hx hby hml hown hnm hret hk hZ e0
 have N0 := Fr.nil n0
 have K0 : Keep h0 h0 [] := Keep.refl _ _
 have O0 := hp4
 refine go (S' := T0.setTop (mkF m 2 #[si pi, si pn] [(.int pn), (.int pi)])) (fun t k => XS.iloadN X0.here hx rfl (hb hby d41_0) rfl (XS.iloadN X0.here hx rfl (hb hby d41_1) rfl k)) ?_
 have O76 : Old Z n0 h0 := O0.keep K0 all0
 obtain ⟨T75, X75, e75, st75⟩ := getS2 X0 hx hZ hown (host := "") (Or.inl (ww hw 242 rfl)) Via.refl e0 (hp3.ext O76.2) (g := (mkF m 2 #[si pi, si pn] [(.int pn), (.int pi)])) rfl (hb hby d41_2)
 refine go (S' := T75.setTop (mkF m 5 #[si pi, si pn] [fm, (.int pn), (.int pi)])) st75 ?_
 obtain ⟨v77, T77, L77, X77, hQ77, st77⟩ := callSt X75 hx hZ (y := y_10) hown (ww hw 244 rfl) (ww hw 245 rfl) (ww hw 243 rfl) (ww hw 246 rfl) (by decide) (backOf (W := 0) (rmPci l Z a0 hw [] pi pn fm h0 n0 (Nat.le_trans Z0 K0.1) hfm hz0 hz1) hZ (ww hw 246 rfl) (ww hw 243 rfl) (by decide) (by decide)) (g := (mkF m 5 #[si pi, si pn] [fm, (.int pn), (.int pi)])) rfl (by rw [hml]; rfl) (kc := 0) (ks := 0) (argsL := [(.int pi), (.int pn), fm]) (rest := []) (lenOf pd_8 rfl) rfl (mr0 rfl) (hb hby d41_5) e75 (by decide) (by decide)
 obtain ⟨rfl, N77q, e77⟩ := hQ77
 have N77 := Fr.app N0 N77q
 refine go (S' := T77.setTop (mkF m 9 #[si pi, si pn] [])) (fun t k => st77 _ (XS.pop X77.here hx rfl (hb hby d41_8) rfl rfl k)) ?_
 refine finV X77 hx hk hret (hb hby d41_9) (by decide) (by decide) ?_
 rw [e77]
 exact ⟨rfl, N77, rfl⟩
theorem d39_0 : dd jdk_42_method_154_code 0 (.getstatic 38) 3 := by decide +kernel
theorem d39_3 : dd jdk_42_method_154_code 3 (.ifCond .eq 14) 3 := by decide +kernel
theorem d39_6 : dd jdk_42_method_154_code 6 (.aload_n 0) 1 := by decide +kernel
theorem d39_7 : dd jdk_42_method_154_code 7 (.getfield 15) 3 := by decide +kernel
theorem d39_10 : dd jdk_42_method_154_code 10 (.ifCond .ne 7) 3 := by decide +kernel
theorem d39_13 : dd jdk_42_method_154_code 13 (.iconst 1) 1 := by decide +kernel
theorem d39_14 : dd jdk_42_method_154_code 14 (.goto 4) 3 := by decide +kernel
theorem d39_18 : dd jdk_42_method_154_code 18 .ireturn 1 := by decide +kernel
theorem d39_17 : dd jdk_42_method_154_code 17 (.iconst 0) 1 := by decide +kernel
abbrev y_12 : MethodName := ⟨"java/lang/String", "isLatin1", "()Z"⟩
theorem pn_12 : plainFor y_12 = true := by first | exact plainFor_of_name (by first | (simp [plainName, overriddenIn]; done) | decide +kernel) | decide +kernel
theorem ef_rmIsl (m : MethodId) (x1 : Addr) : entryFrame m #[(.ref x1)] 1 = mkF m 0 #[sr x1] [] := by first | (simp [entryFrame, mkF, argsToLocals, Value.category]; done) | rfl
def Q_rmIsl (Z : State) (x1 : Addr) (cd : Int32) (G1 : Int32) (h0 : Heap) (n0 : Nat) (v : Option Value) (h : Heap) (L : List Loc) : Prop := v = some (.int (if cd = (0 : Int32) then (1 : Int32) else (0 : Int32))) ∧ Fr n0 L ∧ h = h0
set_option maxRecDepth 65536 in
set_option maxHeartbeats 40000000 in
theorem rmIsl (l : Launch) (Z : State) (a0 : Array Value) (hw : ∀ d ∈ tables_1, d.before a0 Z = true) (ws : List Jvm.Cond) (x1 : Addr) (cd : Int32) (G1 : Int32) (h0 : Heap) (n0 : Nat) (Z0 : n0 ≤ h0.size) (hp0 : Fld Z h0 x1 "java/lang/String" "coder" "B" (.int cd)) (hp1 : Sta Z Z.heap "java/lang/String" "COMPACT_STRINGS" "Z" (.int G1)) (hG1 : ¬ (G1 = (0 : Int32))) (hp3 : Old Z n0 h0) :
    MetFree l y_12 (head1 (Jvm.Cond.code y_12 jdk_42_method_154_code 1 (some .boolean) :: ws) ({ frames := 0, cells := 0, slots := 0, locals := 0 } : Room)) (fun a U => a = #[(.ref x1)] ∧ Z.Warmed39 U.vm ∧ U.heap = h0) (fun _ _ _ _ _ => True) (fun _ U o U' => ∃ v L, o = .returned v ∧ Q_rmIsl Z x1 cd G1 h0 n0 v U'.heap L ∧ FrameEnd U o U' L ({ frames := 0, cells := 0, slots := 0, locals := 0 } : Room).cells ({ frames := 0, cells := 0, slots := 0, locals := 0 } : Room).slots) := by
 refine bodyOf pn_12 (fun m => ef_rmIsl m x1) ?_
 intro p e s m below meth c T0 X0 hx hby hml hown hnm hret hk hZ e0
 have N0 := Fr.nil n0
 have K0 : Keep h0 h0 [] := Keep.refl _ _
 have O0 := hp3
 have O79 : Old Z n0 h0 := O0.keep K0 all0
 obtain ⟨T78, X78, e78, st78⟩ := getS2 X0 hx hZ hown (host := "") (Or.inl (ww hw 20 rfl)) Via.refl e0 (hp1.ext O79.2) (g := (mkF m 0 #[sr x1] [])) rfl (hb hby d39_0)
 refine go (S' := T78.setTop (mkF m 7 #[sr x1] [(.ref x1)])) (fun t k => st78 _ (XS.ifNo X78.here hx rfl (hb hby d39_3) rfl ((if0 _ _).trans (feq hG1).1) (XS.aloadN X78.here hx rfl (hb hby d39_6) rfl rfl k))) ?_
 obtain ⟨T80, X80, e80, st80⟩ := getF X78 hx hZ hown (host := "") (Or.inl (ww hw 32 rfl)) Via.refl e78 hp0 (g := (mkF m 7 #[sr x1] [(.ref x1)])) rfl rfl (hb hby d39_7)
 refine go (S' := T80.setTop (mkF m 10 #[sr x1] [(.int cd)])) st80 ?_
 by_cases hc81 : cd = (0 : Int32)
 ·
  refine go (S' := T80.setTop (mkF m 18 #[sr x1] [(.int 1)])) (fun t k => XS.ifNo X80.here hx rfl (hb hby d39_10) rfl ((if0 _ _).trans (teq hc81).2) (XS.iconst X80.here hx rfl (hb hby d39_13) (XS.goto X80.here hx rfl (pc0 := 14) (pc' := 18) rfl (hb hby d39_14) (by decide) (by decide) k))) ?_
  refine finN X80 hx hk (t := .boolean) hret (by simp) (hb hby d39_18) (by decide) (by decide) ?_
  rw [e80]
  exact ⟨(by rw [if_pos hc81]; rfl), N0, rfl⟩
 ·
  refine go (S' := T80.setTop (mkF m 18 #[sr x1] [(.int 0)])) (fun t k => XS.ifYes X80.here hx rfl (pc0 := 10) (pc' := 17) rfl (hb hby d39_10) rfl ((if0 _ _).trans (feq hc81).2) (by decide) (by decide) (XS.iconst X80.here hx rfl (hb hby d39_17) k)) ?_
  refine finN X80 hx hk (t := .boolean) hret (by simp) (hb hby d39_18) (by decide) (by decide) ?_
  rw [e80]
  exact ⟨(by rw [if_neg hc81]; rfl), N0, rfl⟩
theorem d40_0 : dd jdk_43_method_2_code 0 (.iload_n 1) 1 := by decide +kernel
theorem d40_1 : dd jdk_43_method_2_code 1 (.aload_n 0) 1 := by decide +kernel
theorem d40_2 : dd jdk_43_method_2_code 2 .arraylength 1 := by decide +kernel
theorem d40_3 : dd jdk_43_method_2_code 3 (.invokestatic 9) 3 := by decide +kernel
theorem pd_9 : parseMethodDescriptor "(II)V" = some ⟨[.int, .int], none⟩ := by decide +kernel
theorem d40_6 : dd jdk_43_method_2_code 6 (.aload_n 0) 1 := by decide +kernel
theorem d40_7 : dd jdk_43_method_2_code 7 (.iload_n 1) 1 := by decide +kernel
theorem d40_8 : dd jdk_43_method_2_code 8 .baload 1 := by decide +kernel
theorem d40_9 : dd jdk_43_method_2_code 9 (.sipush 255) 3 := by decide +kernel
theorem d40_12 : dd jdk_43_method_2_code 12 .iand 1 := by decide +kernel
theorem d40_13 : dd jdk_43_method_2_code 13 .i2c 1 := by decide +kernel
theorem d40_14 : dd jdk_43_method_2_code 14 .ireturn 1 := by decide +kernel
abbrev y_13 : MethodName := ⟨"java/lang/StringLatin1", "charAt", "([BI)C"⟩
theorem pn_13 : plainFor y_13 = true := by first | exact plainFor_of_name (by first | (simp [plainName, overriddenIn]; done) | decide +kernel) | decide +kernel
theorem ef_rmLch (m : MethodId) (a1 : Addr) (pi : Int32) : entryFrame m #[(.ref a1), (.int pi)] 2 = mkF m 0 #[sr a1, si pi] [] := by first | (simp [entryFrame, mkF, argsToLocals, Value.category]; done) | rfl
def Q_rmLch (Z : State) (a1 : Addr) (pi : Int32) (kb : ClassId) (cs : List Int32) (i : Nat) (fm : Value) (h0 : Heap) (n0 : Nat) (v : Option Value) (h : Heap) (L : List Loc) : Prop := v = some (.int (cs.getD i 0)) ∧ Fr n0 L ∧ h = h0
set_option maxRecDepth 65536 in
set_option maxHeartbeats 40000000 in
theorem rmLch (l : Launch) (Z : State) (a0 : Array Value) (hw : ∀ d ∈ tables_1, d.before a0 Z = true) (ws : List Jvm.Cond) (a1 : Addr) (pi : Int32) (kb : ClassId) (cs : List Int32) (i : Nat) (fm : Value) (h0 : Heap) (n0 : Nat) (Z0 : n0 ≤ h0.size) (hix : pi = Int32.ofNat i) (hi : i < cs.length) (hl : cs.length ≤ 4000) (hpc : ∀ c ∈ cs, ¬ c < 0 ∧ ¬ (65535 : Int32) < c) (hlat : ∀ c ∈ cs, ¬ (255 : Int32) < c) (hp5 : Arv Z h0 a1 kb .byte (Int32.ofNat cs.length) (cs.map fun c => Value.int (StrChars.lo8 c)) (.int 0)) (hfm : fm.isRef = true) (hp7 : Sta Z Z.heap "jdk/internal/util/Preconditions" "SIOOBE_FORMATTER" "Ljava/util/function/BiFunction;" fm) (hp8 : Old Z n0 h0) :
    MetFree l y_13 (head1 (Jvm.Cond.code y_13 jdk_43_method_2_code 2 (some .char) :: ws) ({ frames := 2, cells := 0, slots := 0, locals := 27 } : Room)) (fun a U => a = #[(.ref a1), (.int pi)] ∧ Z.Warmed39 U.vm ∧ U.heap = h0) (fun _ _ _ _ _ => True) (fun _ U o U' => ∃ v L, o = .returned v ∧ Q_rmLch Z a1 pi kb cs i fm h0 n0 v U'.heap L ∧ FrameEnd U o U' L ({ frames := 2, cells := 0, slots := 0, locals := 27 } : Room).cells ({ frames := 2, cells := 0, slots := 0, locals := 27 } : Room).slots) := by
 refine bodyOf pn_13 (fun m => ef_rmLch m a1 pi) ?_
 intro p e s m below meth c T0 X0 hx hby hml hown hnm hret hk hZ e0
 have N0 := Fr.nil n0
 have K0 : Keep h0 h0 [] := Keep.refl _ _
 have O0 := hp8
 have hz0 : ¬ (pi < (0 : Int32)) := by rw [hix]; exact oj_nn (by omega)
 have hz1 : pi < (Int32.ofNat cs.length) := by rw [hix]; exact oj_lt hi (by omega)
 refine go (S' := T0.setTop (mkF m 2 #[sr a1, si pi] [(.ref a1), (.int pi)])) (fun t k => XS.iloadN X0.here hx rfl (hb hby d40_0) rfl (XS.aloadN X0.here hx rfl (hb hby d40_1) rfl rfl k)) ?_
 obtain ⟨cl82, Ar82, -, S82, M82, -, -⟩ := id hp5
 refine go (S' := T0.setTop (mkF m 3 #[sr a1, si pi] [(.int (Int32.ofNat cs.length)), (.int pi)])) (fun t k => X0.arraylength hx (by rw [e0]; exact Ar82.1) (State.isArrayOf_alike hZ.alike Ar82.2.1) (g := (mkF m 2 #[sr a1, si pi] [(.ref a1), (.int pi)])) rfl rfl (hb hby d40_2) _ (by rw [len_of S82 M82]; exact k)) ?_
 have O83 : Old Z n0 h0 := O0.keep K0 all0
 obtain ⟨v84, T84, L84, X84, hQ84, st84⟩ := callSt X0 hx hZ (y := y_11) hown (ww hw 239 rfl) (ww hw 240 rfl) (ww hw 8 rfl) (ww hw 241 rfl) (by decide) (backOf (W := 0) (rmSci l Z a0 hw [] pi (Int32.ofNat cs.length) fm h0 n0 (Nat.le_trans Z0 K0.1) hfm hz0 hz1 hp7 O83) hZ (ww hw 241 rfl) (ww hw 8 rfl) (by decide) (by decide)) (g := (mkF m 3 #[sr a1, si pi] [(.int (Int32.ofNat cs.length)), (.int pi)])) rfl (by rw [hml]; rfl) (kc := 0) (ks := 0) (argsL := [(.int pi), (.int (Int32.ofNat cs.length))]) (rest := []) (lenOf pd_9 rfl) rfl (mr0 rfl) (hb hby d40_3) e0 (by decide) (by decide)
 obtain ⟨rfl, N84q, e84⟩ := hQ84
 have N84 := Fr.app N0 N84q
 refine go (S' := T84.setTop (mkF m 8 #[sr a1, si pi] [(.int pi), (.ref a1)])) (fun t k => st84 _ (XS.aloadN X84.here hx rfl (hb hby d40_6) rfl rfl (XS.iloadN X84.here hx rfl (hb hby d40_7) rfl k))) ?_
 rw [hix]
 obtain ⟨cl85, Ar85, q85, S85, M85, H85, G85⟩ := id hp5
 have hin85 : ¬ ((Int32.ofNat i) < 0 ∨ cl85.slots.size ≤ ((Int32.ofNat i)).toNatClampNeg) := oj_in S85 rfl hi (by omega)
 have hat85 : cl85.slots[((Int32.ofNat i)).toNatClampNeg]? = some (.int (StrChars.lo8 (cs.getD i 0))) := Has.at H85 hin85 (by rw [oj_n (by omega)]; exact StrChars.Road.low_at _ cs i hi)
 refine go (S' := T84.setTop (mkF m 14 #[sr a1, si (Int32.ofNat i)] [(.int (((StrChars.lo8 (cs.getD i 0)) &&& (255 : Int32)).toUInt32.toUInt16.toUInt32.toInt32))])) (fun t k => X84.baloadBytes hx (j := (Int32.ofNat i)) (v := (.int (StrChars.lo8 (cs.getD i 0)))) (by rw [e84]; exact Ar85.1) (State.isArrayOf_alike hZ.alike Ar85.2.1) Ar85.2.2 hin85 hat85 (g := (mkF m 8 #[sr a1, si (Int32.ofNat i)] [(.int (Int32.ofNat i)), (.ref a1)])) rfl rfl (hb hby d40_8) _ (XS.sipush X84.here hx rfl (hb hby d40_9) (XS.iand X84.here hx rfl (hb hby d40_12) rfl (XS.i2c X84.here hx rfl (hb hby d40_13) rfl k)))) ?_
 refine finN X84 hx hk (t := .char) hret (by simp) (hb hby d40_14) (by decide) (by decide) ?_
 rw [e84]
 exact ⟨(by have q := StrChars.lo8_mask (hpc _ (oj_mem hi)).1 (hlat _ (oj_mem hi)); rw [narc, q]; exact congrArg (fun z => some (Value.int z)) (oj_c16 (hpc _ (oj_mem hi)))), N84, rfl⟩
theorem d57_0 : dd jdk_52_method_6_code 0 (.aload_n 0) 1 := by decide +kernel
theorem d57_1 : dd jdk_52_method_6_code 1 .arraylength 1 := by decide +kernel
theorem d57_2 : dd jdk_52_method_6_code 2 (.iconst 1) 1 := by decide +kernel
theorem d57_3 : dd jdk_52_method_6_code 3 .ishr 1 := by decide +kernel
theorem d57_4 : dd jdk_52_method_6_code 4 .ireturn 1 := by decide +kernel
abbrev y_14 : MethodName := ⟨"java/lang/StringUTF16", "length", "([B)I"⟩
theorem pn_14 : plainFor y_14 = true := by first | exact plainFor_of_name (by first | (simp [plainName, overriddenIn]; done) | decide +kernel) | decide +kernel
theorem ef_rmUl (m : MethodId) (a1 : Addr) : entryFrame m #[(.ref a1)] 1 = mkF m 0 #[sr a1] [] := by first | (simp [entryFrame, mkF, argsToLocals, Value.category]; done) | rfl
def Q_rmUl (Z : State) (a1 : Addr) (kb : ClassId) (n : Nat) (vs : List Value) (h0 : Heap) (n0 : Nat) (v : Option Value) (h : Heap) (L : List Loc) : Prop := v = some (.int (Int32.ofNat n)) ∧ Fr n0 L ∧ h = h0
set_option maxRecDepth 65536 in
set_option maxHeartbeats 40000000 in
theorem rmUl (l : Launch) (Z : State) (a0 : Array Value) (hw : ∀ d ∈ tables_1, d.before a0 Z = true) (ws : List Jvm.Cond) (a1 : Addr) (kb : ClassId) (n : Nat) (vs : List Value) (h0 : Heap) (n0 : Nat) (Z0 : n0 ≤ h0.size) (hp0 : Arv Z h0 a1 kb .byte (Int32.ofNat (2 * n)) vs (.int 0)) (hl : n ≤ 4000) :
    MetFree l y_14 (head1 (Jvm.Cond.code y_14 jdk_52_method_6_code 1 (some .int) :: ws) ({ frames := 0, cells := 0, slots := 0, locals := 0 } : Room)) (fun a U => a = #[(.ref a1)] ∧ Z.Warmed39 U.vm ∧ U.heap = h0) (fun _ _ _ _ _ => True) (fun _ U o U' => ∃ v L, o = .returned v ∧ Q_rmUl Z a1 kb n vs h0 n0 v U'.heap L ∧ FrameEnd U o U' L ({ frames := 0, cells := 0, slots := 0, locals := 0 } : Room).cells ({ frames := 0, cells := 0, slots := 0, locals := 0 } : Room).slots) := by
 refine bodyOf pn_14 (fun m => ef_rmUl m a1) ?_
 intro p e s m below meth c T0 X0 hx hby hml hown hnm hret hk hZ e0
 have N0 := Fr.nil n0
 have K0 : Keep h0 h0 [] := Keep.refl _ _
 refine go (S' := T0.setTop (mkF m 1 #[sr a1] [(.ref a1)])) (fun t k => XS.aloadN X0.here hx rfl (hb hby d57_0) rfl rfl k) ?_
 obtain ⟨cl86, Ar86, -, S86, M86, -, -⟩ := id hp0
 refine go (S' := T0.setTop (mkF m 4 #[sr a1] [(.int ((Int32.ofNat (2 * n)) >>> ((1 : Int32) &&& 31)))])) (fun t k => X0.arraylength hx (by rw [e0]; exact Ar86.1) (State.isArrayOf_alike hZ.alike Ar86.2.1) (g := (mkF m 1 #[sr a1] [(.ref a1)])) rfl rfl (hb hby d57_1) _ (by rw [len_of S86 M86]; exact (XS.iconst X0.here hx rfl (hb hby d57_2) (XS.ishr X0.here hx rfl (hb hby d57_3) rfl k)))) ?_
 refine finI X0 hx hk hret (hb hby d57_4) (by decide) (by decide) ?_
 rw [e0]
 exact ⟨(by rw [oj_half hl]), N0, rfl⟩
theorem d61_0 : dd jdk_52_method_91_code 0 (.iload_n 0) 1 := by decide +kernel
theorem d61_1 : dd jdk_52_method_91_code 1 (.aload_n 1) 1 := by decide +kernel
theorem d61_2 : dd jdk_52_method_91_code 2 (.invokestatic 48) 3 := by decide +kernel
theorem pd_10 : parseMethodDescriptor "([B)I" = some ⟨[(.array .byte)], some .int⟩ := by decide +kernel
theorem d61_5 : dd jdk_52_method_91_code 5 (.invokestatic 414) 3 := by decide +kernel
theorem d61_8 : dd jdk_52_method_91_code 8 .return_ 1 := by decide +kernel
abbrev y_15 : MethodName := ⟨"java/lang/StringUTF16", "checkIndex", "(I[B)V"⟩
theorem pn_15 : plainFor y_15 = true := by first | exact plainFor_of_name (by first | (simp [plainName, overriddenIn]; done) | decide +kernel) | decide +kernel
theorem ef_rmUci (m : MethodId) (pi : Int32) (a1 : Addr) : entryFrame m #[(.int pi), (.ref a1)] 2 = mkF m 0 #[si pi, sr a1] [] := by first | (simp [entryFrame, mkF, argsToLocals, Value.category]; done) | rfl
def Q_rmUci (Z : State) (pi : Int32) (a1 : Addr) (kb : ClassId) (n : Nat) (vs : List Value) (fm : Value) (h0 : Heap) (n0 : Nat) (v : Option Value) (h : Heap) (L : List Loc) : Prop := v = none ∧ Fr n0 L ∧ h = h0
set_option maxRecDepth 65536 in
set_option maxHeartbeats 40000000 in
theorem rmUci (l : Launch) (Z : State) (a0 : Array Value) (hw : ∀ d ∈ tables_1, d.before a0 Z = true) (ws : List Jvm.Cond) (pi : Int32) (a1 : Addr) (kb : ClassId) (n : Nat) (vs : List Value) (fm : Value) (h0 : Heap) (n0 : Nat) (Z0 : n0 ≤ h0.size) (hp0 : Arv Z h0 a1 kb .byte (Int32.ofNat (2 * n)) vs (.int 0)) (hl : n ≤ 4000) (hfm : fm.isRef = true) (hz0 : ¬ (pi < (0 : Int32))) (hz1 : pi < (Int32.ofNat n)) (hp5 : Sta Z Z.heap "jdk/internal/util/Preconditions" "SIOOBE_FORMATTER" "Ljava/util/function/BiFunction;" fm) (hp6 : Old Z n0 h0) :
    MetFree l y_15 (head1 (Jvm.Cond.code y_15 jdk_52_method_91_code 2 none :: ws) ({ frames := 2, cells := 0, slots := 0, locals := 27 } : Room)) (fun a U => a = #[(.int pi), (.ref a1)] ∧ Z.Warmed39 U.vm ∧ U.heap = h0) (fun _ _ _ _ _ => True) (fun _ U o U' => ∃ v L, o = .returned v ∧ Q_rmUci Z pi a1 kb n vs fm h0 n0 v U'.heap L ∧ FrameEnd U o U' L ({ frames := 2, cells := 0, slots := 0, locals := 27 } : Room).cells ({ frames := 2, cells := 0, slots := 0, locals := 27 } : Room).slots) := by
 refine bodyOf pn_15 (fun m => ef_rmUci m pi a1) ?_
 intro p e s m below meth c T0 X0 hx hby hml hown hnm hret hk hZ e0
 have N0 := Fr.nil n0
 have K0 : Keep h0 h0 [] := Keep.refl _ _
 have O0 := hp6
 refine go (S' := T0.setTop (mkF m 2 #[si pi, sr a1] [(.ref a1), (.int pi)])) (fun t k => XS.iloadN X0.here hx rfl (hb hby d61_0) rfl (XS.aloadN X0.here hx rfl (hb hby d61_1) rfl rfl k)) ?_
 obtain ⟨v87, T87, L87, X87, hQ87, st87⟩ := callSt X0 hx hZ (y := y_14) hown (ww hw 298 rfl) (ww hw 299 rfl) (ww hw 23 rfl) (ww hw 300 rfl) (by decide) (backOf (W := 1) (rmUl l Z a0 hw [] a1 kb n vs h0 n0 (Nat.le_trans Z0 K0.1) hp0 hl) hZ (ww hw 300 rfl) (ww hw 23 rfl) (by decide) (by decide)) (g := (mkF m 2 #[si pi, sr a1] [(.ref a1), (.int pi)])) rfl (by rw [hml]; rfl) (kc := 0) (ks := 0) (argsL := [(.ref a1)]) (rest := [(.int pi)]) (lenOf pd_10 rfl) rfl (mr0 rfl) (hb hby d61_2) e0 (by decide) (by decide)
 obtain ⟨rfl, N87q, e87⟩ := hQ87
 have N87 := Fr.app N0 N87q
 refine go (S' := T87.setTop (mkF m 5 #[si pi, sr a1] [(.int (Int32.ofNat n)), (.int pi)])) st87 ?_
 have O88 : Old Z n0 h0 := O0.keep K0 all0
 obtain ⟨v89, T89, L89, X89, hQ89, st89⟩ := callSt X87 hx hZ (y := y_11) hown (ww hw 316 rfl) (ww hw 240 rfl) (ww hw 8 rfl) (ww hw 241 rfl) (by decide) (backOf (W := 0) (rmSci l Z a0 hw [] pi (Int32.ofNat n) fm h0 n0 (Nat.le_trans Z0 K0.1) hfm hz0 hz1 hp5 O88) hZ (ww hw 241 rfl) (ww hw 8 rfl) (by decide) (by decide)) (g := (mkF m 5 #[si pi, sr a1] [(.int (Int32.ofNat n)), (.int pi)])) rfl (by rw [hml]; rfl) (kc := 0) (ks := 0) (argsL := [(.int pi), (.int (Int32.ofNat n))]) (rest := []) (lenOf pd_9 rfl) rfl (mr0 rfl) (hb hby d61_5) e87 (by decide) (by decide)
 obtain ⟨rfl, N89q, e89⟩ := hQ89
 have N89 := Fr.app N87 N89q
 refine go (S' := T89.setTop (mkF m 8 #[si pi, sr a1] [])) st89 ?_
 refine finV X89 hx hk hret (hb hby d61_8) (by decide) (by decide) ?_
 rw [e89]
 exact ⟨rfl, N89, rfl⟩
theorem d60_0 : dd jdk_52_method_83_code 0 (.iload_n 1) 1 := by decide +kernel
theorem d60_1 : dd jdk_52_method_83_code 1 (.aload_n 0) 1 := by decide +kernel
theorem d60_2 : dd jdk_52_method_83_code 2 (.invokestatic 67) 3 := by decide +kernel
theorem pd_11 : parseMethodDescriptor "(I[B)V" = some ⟨[.int, (.array .byte)], none⟩ := by decide +kernel
theorem d60_5 : dd jdk_52_method_83_code 5 (.aload_n 0) 1 := by decide +kernel
theorem d60_6 : dd jdk_52_method_83_code 6 (.iload_n 1) 1 := by decide +kernel
theorem d60_7 : dd jdk_52_method_83_code 7 (.invokestatic 71) 3 := by decide +kernel
theorem d60_10 : dd jdk_52_method_83_code 10 .ireturn 1 := by decide +kernel
abbrev y_16 : MethodName := ⟨"java/lang/StringUTF16", "charAt", "([BI)C"⟩
theorem pn_16 : plainFor y_16 = true := by first | exact plainFor_of_name (by first | (simp [plainName, overriddenIn]; done) | decide +kernel) | decide +kernel
theorem ef_rmUch (m : MethodId) (a1 : Addr) (pi : Int32) : entryFrame m #[(.ref a1), (.int pi)] 2 = mkF m 0 #[sr a1, si pi] [] := by first | (simp [entryFrame, mkF, argsToLocals, Value.category]; done) | rfl
def Q_rmUch (Z : State) (a1 : Addr) (pi : Int32) (kb : ClassId) (cs : List Int32) (i : Nat) (fm : Value) (h0 : Heap) (n0 : Nat) (v : Option Value) (h : Heap) (L : List Loc) : Prop := v = some (.int (cs.getD i 0)) ∧ Fr n0 L ∧ h = h0
set_option maxRecDepth 65536 in
set_option maxHeartbeats 40000000 in
theorem rmUch (l : Launch) (Z : State) (a0 : Array Value) (hw : ∀ d ∈ tables_1, d.before a0 Z = true) (ws : List Jvm.Cond) (a1 : Addr) (pi : Int32) (kb : ClassId) (cs : List Int32) (i : Nat) (fm : Value) (h0 : Heap) (n0 : Nat) (Z0 : n0 ≤ h0.size) (hix : pi = Int32.ofNat i) (hi : i < cs.length) (hl : cs.length ≤ 4000) (hpc : ∀ c ∈ cs, ¬ c < 0 ∧ ¬ (65535 : Int32) < c) (hlc : cs.length ≤ 16) (hp5 : Arv Z h0 a1 kb .byte (Int32.ofNat (2 * cs.length)) (StrChars.Road.wideBytes cs) (.int 0)) (hfm : fm.isRef = true) (hp7 : Sta Z Z.heap "jdk/internal/util/Preconditions" "SIOOBE_FORMATTER" "Ljava/util/function/BiFunction;" fm) (hp8 : Sta Z Z.heap "java/lang/StringUTF16" "$assertionsDisabled" "Z" (.int 1)) (hp9 : Sta Z Z.heap "java/lang/StringUTF16" "HI_BYTE_SHIFT" "I" (.int 0)) (hp10 : Sta Z Z.heap "java/lang/StringUTF16" "LO_BYTE_SHIFT" "I" (.int 8)) (hp11 : Old Z n0 h0) :
    MetFree l y_16 (head1 (Jvm.Cond.code y_16 jdk_52_method_83_code 2 (some .char) :: ws) ({ frames := 3, cells := 0, slots := 0, locals := 40 } : Room)) (fun a U => a = #[(.ref a1), (.int pi)] ∧ Z.Warmed39 U.vm ∧ U.heap = h0) (fun _ _ _ _ _ => True) (fun _ U o U' => ∃ v L, o = .returned v ∧ Q_rmUch Z a1 pi kb cs i fm h0 n0 v U'.heap L ∧ FrameEnd U o U' L ({ frames := 3, cells := 0, slots := 0, locals := 40 } : Room).cells ({ frames := 3, cells := 0, slots := 0, locals := 40 } : Room).slots) := by
 refine bodyOf pn_16 (fun m => ef_rmUch m a1 pi) ?_
 intro p e s m below meth c T0 X0 hx hby hml hown hnm hret hk hZ e0
 have N0 := Fr.nil n0
 have K0 : Keep h0 h0 [] := Keep.refl _ _
 have O0 := hp11
 have hz0 : ¬ (pi < (0 : Int32)) := by rw [hix]; exact oj_nn (by omega)
 have hz1 : pi < (Int32.ofNat cs.length) := by rw [hix]; exact oj_lt hi (by omega)
 refine go (S' := T0.setTop (mkF m 2 #[sr a1, si pi] [(.ref a1), (.int pi)])) (fun t k => XS.iloadN X0.here hx rfl (hb hby d60_0) rfl (XS.aloadN X0.here hx rfl (hb hby d60_1) rfl rfl k)) ?_
 have O90 : Old Z n0 h0 := O0.keep K0 all0
 obtain ⟨v91, T91, L91, X91, hQ91, st91⟩ := callSt X0 hx hZ (y := y_15) hown (ww hw 313 rfl) (ww hw 314 rfl) (ww hw 23 rfl) (ww hw 315 rfl) (by decide) (backOf (W := 0) (rmUci l Z a0 hw [] pi a1 kb cs.length (StrChars.Road.wideBytes cs) fm h0 n0 (Nat.le_trans Z0 K0.1) hp5 hl hfm hz0 hz1 hp7 O90) hZ (ww hw 315 rfl) (ww hw 23 rfl) (by decide) (by decide)) (g := (mkF m 2 #[sr a1, si pi] [(.ref a1), (.int pi)])) rfl (by rw [hml]; rfl) (kc := 0) (ks := 0) (argsL := [(.int pi), (.ref a1)]) (rest := []) (lenOf pd_11 rfl) rfl (mr0 rfl) (hb hby d60_2) e0 (by decide) (by decide)
 obtain ⟨rfl, N91q, e91⟩ := hQ91
 have N91 := Fr.app N0 N91q
 refine go (S' := T91.setTop (mkF m 7 #[sr a1, si pi] [(.int pi), (.ref a1)])) (fun t k => st91 _ (XS.aloadN X91.here hx rfl (hb hby d60_5) rfl rfl (XS.iloadN X91.here hx rfl (hb hby d60_6) rfl k))) ?_
 obtain ⟨v92, T92, L92, X92, hQ92, st92⟩ := callSt X91 hx hZ (y := y_4) hown (ww hw 279 rfl) (ww hw 280 rfl) (ww hw 23 rfl) (ww hw 281 rfl) (by decide) (backOf (W := 0) (rmGet l Z a0 hw [] a1 pi kb i cs.length (StrChars.Road.wideBytes cs) (cs.getD i 0) h0 n0 (Nat.le_trans Z0 K0.1) hp5 hix hi hlc (StrChars.Road.wide_lo _ cs _ hi) (StrChars.Road.wide_hi _ cs _ hi) (hpc _ (oj_mem hi)) hp8 hp9 hp10 O90) hZ (ww hw 281 rfl) (ww hw 23 rfl) (by decide) (by decide)) (g := (mkF m 7 #[sr a1, si pi] [(.int pi), (.ref a1)])) rfl (by rw [hml]; rfl) (kc := 0) (ks := 0) (argsL := [(.ref a1), (.int pi)]) (rest := []) (lenOf pd_5 rfl) rfl (mr0 rfl) (hb hby d60_7) e91 (by decide) (by decide)
 obtain ⟨rfl, N92q, e92⟩ := hQ92
 have N92 := Fr.app N91 N92q
 refine go (S' := T92.setTop (mkF m 10 #[sr a1, si pi] [(.int (cs.getD i 0))])) st92 ?_
 refine finN X92 hx hk (t := .char) hret (by simp) (hb hby d60_10) (by decide) (by decide) ?_
 rw [e92]
 exact ⟨(congrArg (fun z => some (Value.int z)) (oj_c16 (hpc _ (oj_mem hi)))), N92, rfl⟩
theorem d38_0 : dd jdk_42_method_56_code 0 (.aload_n 0) 1 := by decide +kernel
theorem d38_1 : dd jdk_42_method_56_code 1 (.invokevirtual 492) 3 := by decide +kernel
theorem pd_12 : parseMethodDescriptor "()Z" = some ⟨[], some .boolean⟩ := by decide +kernel
theorem d38_4 : dd jdk_42_method_56_code 4 (.ifCond .eq 12) 3 := by decide +kernel
theorem d38_7 : dd jdk_42_method_56_code 7 (.aload_n 0) 1 := by decide +kernel
theorem d38_8 : dd jdk_42_method_56_code 8 (.getfield 9) 3 := by decide +kernel
theorem d38_11 : dd jdk_42_method_56_code 11 (.iload_n 1) 1 := by decide +kernel
theorem d38_12 : dd jdk_42_method_56_code 12 (.invokestatic 495) 3 := by decide +kernel
theorem d38_15 : dd jdk_42_method_56_code 15 .ireturn 1 := by decide +kernel
theorem d38_16 : dd jdk_42_method_56_code 16 (.aload_n 0) 1 := by decide +kernel
theorem d38_17 : dd jdk_42_method_56_code 17 (.getfield 9) 3 := by decide +kernel
theorem d38_20 : dd jdk_42_method_56_code 20 (.iload_n 1) 1 := by decide +kernel
theorem d38_21 : dd jdk_42_method_56_code 21 (.invokestatic 498) 3 := by decide +kernel
theorem d38_24 : dd jdk_42_method_56_code 24 .ireturn 1 := by decide +kernel
abbrev y_17 : MethodName := ⟨"java/lang/String", "charAt", "(I)C"⟩
theorem pn_17 : plainFor y_17 = true := by first | exact plainFor_of_name (by first | (simp [plainName, overriddenIn]; done) | decide +kernel) | decide +kernel
theorem ef_rmChr (m : MethodId) (x1 : Addr) (pi : Int32) : entryFrame m #[(.ref x1), (.int pi)] 2 = mkF m 0 #[sr x1, si pi] [] := by first | (simp [entryFrame, mkF, argsToLocals, Value.category]; done) | rfl
def Q_rmChr (Z : State) (x1 : Addr) (pi : Int32) (t1 : Addr) (cd : Int32) (cs : List Int32) (i : Nat) (G1 : Int32) (fm : Value) (h0 : Heap) (n0 : Nat) (v : Option Value) (h : Heap) (L : List Loc) : Prop := v = some (.int (cs.getD i 0)) ∧ Fr n0 L ∧ h = h0
set_option maxRecDepth 65536 in
set_option maxHeartbeats 40000000 in
theorem rmChr (l : Launch) (Z : State) (a0 : Array Value) (hw : ∀ d ∈ tables_1, d.before a0 Z = true) (ws : List Jvm.Cond) (x1 : Addr) (pi : Int32) (t1 : Addr) (cd : Int32) (cs : List Int32) (i : Nat) (G1 : Int32) (fm : Value) (h0 : Heap) (n0 : Nat) (Z0 : n0 ≤ h0.size) (hp0 : Str Z h0 x1 t1 cd cs) (hix : pi = Int32.ofNat i) (hi : i < cs.length) (hlc : cs.length ≤ 16) (hfm : fm.isRef = true) (hp5 : Sta Z Z.heap "jdk/internal/util/Preconditions" "SIOOBE_FORMATTER" "Ljava/util/function/BiFunction;" fm) (hp6 : Sta Z Z.heap "java/lang/String" "COMPACT_STRINGS" "Z" (.int G1)) (hG1 : ¬ (G1 = (0 : Int32))) (hp8 : Sta Z Z.heap "java/lang/StringUTF16" "$assertionsDisabled" "Z" (.int 1)) (hp9 : Sta Z Z.heap "java/lang/StringUTF16" "HI_BYTE_SHIFT" "I" (.int 0)) (hp10 : Sta Z Z.heap "java/lang/StringUTF16" "LO_BYTE_SHIFT" "I" (.int 8)) (hp11 : Old Z n0 h0) :
    MetFree l y_17 (head1 (Jvm.Cond.code y_17 jdk_42_method_56_code 2 (some .char) :: ws) ({ frames := 4, cells := 0, slots := 0, locals := 53 } : Room)) (fun a U => a = #[(.ref x1), (.int pi)] ∧ Z.Warmed39 U.vm ∧ U.heap = h0) (fun _ _ _ _ _ => True) (fun _ U o U' => ∃ v L, o = .returned v ∧ Q_rmChr Z x1 pi t1 cd cs i G1 fm h0 n0 v U'.heap L ∧ FrameEnd U o U' L ({ frames := 4, cells := 0, slots := 0, locals := 53 } : Room).cells ({ frames := 4, cells := 0, slots := 0, locals := 53 } : Room).slots) := by
 refine bodyOf pn_17 (fun m => ef_rmChr m x1 pi) ?_
 intro p e s m below meth c T0 X0 hx hby hml hown hnm hret hk hZ e0
 have N0 := Fr.nil n0
 have K0 : Keep h0 h0 [] := Keep.refl _ _
 have O0 := hp11
 obtain ⟨kb, N2, vs, hE, hV, hC, hA, hcod, hpc, hl⟩ := id hp0
 rcases hcod with ⟨hcd, hN2, hvs, hlat⟩ | ⟨hcd, hN2, hvs, hex⟩
 ·
  rw [hcd] at hC; rw [hN2, hvs] at hA
  refine go (S' := T0.setTop (mkF m 1 #[sr x1, si pi] [(.ref x1)])) (fun t k => XS.aloadN X0.here hx rfl (hb hby d38_0) rfl rfl k) ?_
  have O93 : Old Z n0 h0 := O0.keep K0 all0
  obtain ⟨v94, T94, L94, X94, hQ94, st94⟩ := callV X0 hx hZ (y := y_12) (z := y_12) hown (ww hw 230 rfl) (ww hw 231 rfl) (notFace_of_selects (args := #[]) (mvT hZ (ww hw 233 rfl))) (ww hw 233 rfl) (ww hw 232 rfl) (by decide) (backOf (W := 0) (rmIsl l Z a0 hw [] x1 (0 : Int32) G1 h0 n0 (Nat.le_trans Z0 K0.1) hC hp6 hG1 O93) hZ (ww hw 234 rfl) (ww hw 8 rfl) (by decide) (by decide)) hE (g := (mkF m 1 #[sr x1, si pi] [(.ref x1)])) rfl (by rw [hml]; rfl) (kc := 0) (ks := 0) (argsL := []) (rest := []) (lenOf pd_12 rfl) rfl (mr0 rfl) (hb hby d38_1) e0 (by decide) (by decide)
  obtain ⟨rfl, N94q, e94⟩ := hQ94
  have N94 := Fr.app N0 N94q
  refine go (S' := T94.setTop (mkF m 4 #[sr x1, si pi] [(.int (if (0 : Int32) = (0 : Int32) then (1 : Int32) else (0 : Int32)))])) st94 ?_
  have hc95 : ¬ ((if (0 : Int32) = (0 : Int32) then (1 : Int32) else (0 : Int32)) = (0 : Int32)) := by decide
  refine go (S' := T94.setTop (mkF m 8 #[sr x1, si pi] [(.ref x1)])) (fun t k => XS.ifNo X94.here hx rfl (hb hby d38_4) rfl ((if0 _ _).trans (feq hc95).1) (XS.aloadN X94.here hx rfl (hb hby d38_7) rfl rfl k)) ?_
  obtain ⟨T96, X96, e96, st96⟩ := getF X94 hx hZ hown (host := "") (Or.inl (ww hw 34 rfl)) Via.refl e94 hV (g := (mkF m 8 #[sr x1, si pi] [(.ref x1)])) rfl rfl (hb hby d38_8)
  refine go (S' := T96.setTop (mkF m 12 #[sr x1, si pi] [(.int pi), (.ref t1)])) (fun t k => st96 _ (XS.iloadN X96.here hx rfl (hb hby d38_11) rfl k)) ?_
  obtain ⟨v97, T97, L97, X97, hQ97, st97⟩ := callSt X96 hx hZ (y := y_13) hown (ww hw 235 rfl) (ww hw 236 rfl) (ww hw 237 rfl) (ww hw 238 rfl) (by decide) (backOf (W := 0) (rmLch l Z a0 hw [] t1 pi kb cs i fm h0 n0 (Nat.le_trans Z0 K0.1) hix hi hl hpc hlat hA hfm hp5 O93) hZ (ww hw 238 rfl) (ww hw 237 rfl) (by decide) (by decide)) (g := (mkF m 12 #[sr x1, si pi] [(.int pi), (.ref t1)])) rfl (by rw [hml]; rfl) (kc := 0) (ks := 0) (argsL := [(.ref t1), (.int pi)]) (rest := []) (lenOf pd_5 rfl) rfl (mr0 rfl) (hb hby d38_12) e96 (by decide) (by decide)
  obtain ⟨rfl, N97q, e97⟩ := hQ97
  have N97 := Fr.app N94 N97q
  refine go (S' := T97.setTop (mkF m 15 #[sr x1, si pi] [(.int (cs.getD i 0))])) st97 ?_
  refine finN X97 hx hk (t := .char) hret (by simp) (hb hby d38_15) (by decide) (by decide) ?_
  rw [e97]
  exact ⟨(congrArg (fun z => some (Value.int z)) (oj_c16 (hpc _ (oj_mem hi)))), N97, rfl⟩
 ·
  rw [hcd] at hC; rw [hN2, hvs] at hA
  refine go (S' := T0.setTop (mkF m 1 #[sr x1, si pi] [(.ref x1)])) (fun t k => XS.aloadN X0.here hx rfl (hb hby d38_0) rfl rfl k) ?_
  have O98 : Old Z n0 h0 := O0.keep K0 all0
  obtain ⟨v99, T99, L99, X99, hQ99, st99⟩ := callV X0 hx hZ (y := y_12) (z := y_12) hown (ww hw 230 rfl) (ww hw 231 rfl) (notFace_of_selects (args := #[]) (mvT hZ (ww hw 233 rfl))) (ww hw 233 rfl) (ww hw 232 rfl) (by decide) (backOf (W := 0) (rmIsl l Z a0 hw [] x1 (1 : Int32) G1 h0 n0 (Nat.le_trans Z0 K0.1) hC hp6 hG1 O98) hZ (ww hw 234 rfl) (ww hw 8 rfl) (by decide) (by decide)) hE (g := (mkF m 1 #[sr x1, si pi] [(.ref x1)])) rfl (by rw [hml]; rfl) (kc := 0) (ks := 0) (argsL := []) (rest := []) (lenOf pd_12 rfl) rfl (mr0 rfl) (hb hby d38_1) e0 (by decide) (by decide)
  obtain ⟨rfl, N99q, e99⟩ := hQ99
  have N99 := Fr.app N0 N99q
  refine go (S' := T99.setTop (mkF m 4 #[sr x1, si pi] [(.int (if (1 : Int32) = (0 : Int32) then (1 : Int32) else (0 : Int32)))])) st99 ?_
  have hc100 : (if (1 : Int32) = (0 : Int32) then (1 : Int32) else (0 : Int32)) = (0 : Int32) := by decide
  refine go (S' := T99.setTop (mkF m 17 #[sr x1, si pi] [(.ref x1)])) (fun t k => XS.ifYes X99.here hx rfl (pc0 := 4) (pc' := 16) rfl (hb hby d38_4) rfl ((if0 _ _).trans (teq hc100).1) (by decide) (by decide) (XS.aloadN X99.here hx rfl (hb hby d38_16) rfl rfl k)) ?_
  obtain ⟨T101, X101, e101, st101⟩ := getF X99 hx hZ hown (host := "") (Or.inl (ww hw 34 rfl)) Via.refl e99 hV (g := (mkF m 17 #[sr x1, si pi] [(.ref x1)])) rfl rfl (hb hby d38_17)
  refine go (S' := T101.setTop (mkF m 21 #[sr x1, si pi] [(.int pi), (.ref t1)])) (fun t k => st101 _ (XS.iloadN X101.here hx rfl (hb hby d38_20) rfl k)) ?_
  obtain ⟨v102, T102, L102, X102, hQ102, st102⟩ := callSt X101 hx hZ (y := y_16) hown (ww hw 310 rfl) (ww hw 311 rfl) (ww hw 23 rfl) (ww hw 312 rfl) (by decide) (backOf (W := 0) (rmUch l Z a0 hw [] t1 pi kb cs i fm h0 n0 (Nat.le_trans Z0 K0.1) hix hi hl hpc hlc hA hfm hp5 hp8 hp9 hp10 O98) hZ (ww hw 312 rfl) (ww hw 23 rfl) (by decide) (by decide)) (g := (mkF m 21 #[sr x1, si pi] [(.int pi), (.ref t1)])) rfl (by rw [hml]; rfl) (kc := 0) (ks := 0) (argsL := [(.ref t1), (.int pi)]) (rest := []) (lenOf pd_5 rfl) rfl (mr0 rfl) (hb hby d38_21) e101 (by decide) (by decide)
  obtain ⟨rfl, N102q, e102⟩ := hQ102
  have N102 := Fr.app N99 N102q
  refine go (S' := T102.setTop (mkF m 24 #[sr x1, si pi] [(.int (cs.getD i 0))])) st102 ?_
  refine finN X102 hx hk (t := .char) hret (by simp) (hb hby d38_24) (by decide) (by decide) ?_
  rw [e102]
  exact ⟨(congrArg (fun z => some (Value.int z)) (oj_c16 (hpc _ (oj_mem hi)))), N102, rfl⟩
theorem d3_8 : dd jdk_42_method_149_code 8 (.aload_n 0) 1 := by decide +kernel
theorem d3_9 : dd jdk_42_method_149_code 9 (.ldc 7) 2 := by decide +kernel
theorem d3_11 : dd jdk_42_method_149_code 11 (.getfield 9) 3 := by decide +kernel
theorem d3_14 : dd jdk_42_method_149_code 14 (.putfield 9) 3 := by decide +kernel
theorem d3_17 : dd jdk_42_method_149_code 17 (.aload_n 0) 1 := by decide +kernel
theorem d3_18 : dd jdk_42_method_149_code 18 (.ldc 7) 2 := by decide +kernel
theorem d3_20 : dd jdk_42_method_149_code 20 (.getfield 15) 3 := by decide +kernel
theorem d3_23 : dd jdk_42_method_149_code 23 (.putfield 15) 3 := by decide +kernel
theorem d3_26 : dd jdk_42_method_149_code 26 .return_ 1 := by decide +kernel
theorem ef_rmE4 (m : MethodId) (x1 : Addr) (b1 : Addr) : entryFrame m #[(.ref x1), (.ref b1), (.int 0), (.int 0), .null] 6 = mkF m 0 #[sr x1, sr b1, si 0, si 0, .val .null, un] [] := by first | (simp [entryFrame, mkF, argsToLocals, Value.category]; done) | rfl
def Q_rmE4 (Z : State) (x1 : Addr) (b1 : Addr) (h0 : Heap) (n0 : Nat) (v : Option Value) (h : Heap) (L : List Loc) : Prop := ∃ (t : Addr), v = none ∧ Fr n0 L ∧ Keep h0 h [x1] ∧ (Str Z h x1 t (0 : Int32) ([] : List Int32))
set_option maxRecDepth 65536 in
set_option maxHeartbeats 40000000 in
theorem rmE4 (l : Launch) (Z : State) (a0 : Array Value) (hw : ∀ d ∈ tables_1, d.before a0 Z = true) (ws : List Jvm.Cond) (x1 : Addr) (b1 : Addr) (h0 : Heap) (n0 : Nat) (Z0 : n0 ≤ h0.size) (hp0 : Exa Z h0 x1 "java/lang/String") (hp1 : Fld Z h0 x1 "java/lang/String" "value" "[B" .null) (hp2 : Fld Z h0 x1 "java/lang/String" "coder" "B" (.int 0)) (hp3 : n0 ≤ x1) (hp4 : Old Z n0 h0) :
    MetFree l y_8 (head1 (Jvm.Cond.code y_8 jdk_42_method_149_code 6 none :: ws) ({ frames := 1, cells := 4, slots := 8, locals := 12 } : Room)) (fun a U => a = #[(.ref x1), (.ref b1), (.int 0), (.int 0), .null] ∧ Z.Warmed39 U.vm ∧ U.heap = h0 ∧ CHv Z consts_1 U.vm h0 ∧ ∀ x ∈ ([] : List Addr), Safe Z consts_1 U.vm h0 x) (fun _ _ _ _ _ => True) (fun _ U o U' => ∃ v L, o = .returned v ∧ Q_rmE4 Z x1 b1 h0 n0 v U'.heap L ∧ CHr Z consts_1 U.vm U.heap U'.vm U'.heap ∧ ReturnedEndW U o U' L ({ frames := 1, cells := 4, slots := 8, locals := 12 } : Room).cells ({ frames := 1, cells := 4, slots := 8, locals := 12 } : Room).slots) := by
 refine bodyOfW pn_8 (fun m => ef_rmE4 m x1 b1) ?_
 intro p e s m below meth c T0 X0 hx hby hml hown hnm hret hk hZ e0 hS C0 hsf
 have hkS := Nat.le_refl h0.size
 have N0 := Fr.nil n0
 have K0 : Keep h0 h0 [x1] := Keep.refl _ _
 have O0 := hp4
 have sf103 : Safe Z consts_1 _ h0 x1 := safeBlank hZ.alike hp0 hp1
 refine go (S' := T0.setTop (mkF m 1 #[sr x1, sr b1, si 0, si 0, .val .null, un] [(.ref x1)])) (fun t k => XS.aloadN X0.here hx rfl (hb hby d3_0) rfl rfl k) ?_
 obtain ⟨T104, X104, e104, st104⟩ := initO X0 hx hZ hown (ww hw 17 rfl) (ww hw 18 rfl) (ww hw 19 rfl) e0 (g := (mkF m 1 #[sr x1, sr b1, si 0, si 0, .val .null, un] [(.ref x1)])) rfl (by rw [hml]; rfl) rfl (hb hby d3_1) (by decide) (W := 0) (mr0 rfl) (by decide)
 refine go (S' := T104.setTop (mkF m 5 #[sr x1, sr b1, si 0, si 0, .val .null, un] [(.int 0)])) (fun t k => st104 _ (XS.iloadN X104.here hx rfl (hb hby d3_4) rfl k)) ?_
 have hc105 : (0 : Int32) = (0 : Int32) := by decide
 refine go (S' := T104.setTop (mkF m 9 #[sr x1, sr b1, si 0, si 0, .val .null, un] [(.ref x1)])) (fun t k => XS.ifNo X104.here hx rfl (hb hby d3_5) rfl ((if0 _ _).trans (teq hc105).2) (XS.aloadN X104.here hx rfl (hb hby d3_8) rfl rfl k)) ?_
 obtain ⟨la106, T106, h106, k106, lb106, lk106, X106, e106, E106, hS, hkS, hZ, hown, lE106, lC106, lV106, lA106, la106_lt, lb106_lt, Cq106, lit106, lne106, st106⟩ := ldcCH X104 hx hZ hown (ww hw 36 rfl) (own_sub own_strAtoms hw) e104 hS hkS (own_EW hw) (by decide) C0.1 (vs := []) (z := (0 : Int32)) ⟨by decide, by decide⟩ (by decide) (by decide) (g := (mkF m 9 #[sr x1, sr b1, si 0, si 0, .val .null, un] [(.ref x1)])) rfl (hb hby d3_9) (n := 0) (by decide) (by decide) (by decide) (by decide)
 have K107 : Keep h0 h106 [x1] := K0.ext E106
 have C108 := C0.trans Cq106
 have sf109 := CHr.safe Cq106 hp0.lt sf103
 have ne_x1_la106 := (lne106 x1 sf109).1
 have ne_x1_lb106 := (lne106 x1 sf109).2
 have lstr106 : Str Z h106 la106 lb106 (0 : Int32) ([] : List Int32) := ⟨_, _, _, lE106, lV106, lC106, lA106, own_codOf rfl (by decide), by decide, Nat.le_of_ble_eq_true rfl⟩
 refine go (S' := T106.setTop (mkF m 11 #[sr x1, sr b1, si 0, si 0, .val .null, un] [(.ref la106), (.ref x1)])) st106 ?_
 obtain ⟨T110, X110, e110, st110⟩ := getF X106 hx hZ hown (host := "") (Or.inl (ww hw 34 rfl)) Via.refl e106 lstr106.val (g := (mkF m 11 #[sr x1, sr b1, si 0, si 0, .val .null, un] [(.ref la106), (.ref x1)])) rfl rfl (hb hby d3_11)
 refine go (S' := T110.setTop (mkF m 14 #[sr x1, sr b1, si 0, si 0, .val .null, un] [(.ref lb106), (.ref x1)])) st110 ?_
 have f111 : Fld Z h106 x1 "java/lang/String" "value" "[B" .null := (hp1.ext E106)
 obtain ⟨T112, h112, X112, e112, W112, st112⟩ := putF X110 hx hZ hown (host := "") (Or.inl (ww hw 34 rfl)) Via.refl e110 f111 (hp0.keep K107) (Or.inr ⟨(ww hw 35 rfl), rfl, hnm⟩) (ww hw 7 rfl) (ty := (.array .byte)) (by decide) rfl rfl (g := (mkF m 14 #[sr x1, sr b1, si 0, si 0, .val .null, un] [(.ref lb106), (.ref x1)])) rfl rfl (hb hby d3_14)
 have K113 : Keep h0 h112 [x1] := K107.wr W112 (Or.inl (List.mem_of_getElem? (i := 0) rfl))
 have N114 := Fr.snoc X112 N0 hp3
 have hkS := Nat.le_trans hkS (Keep.of_wr W112).1
 have C115 := C108.trans (CHr.wr W112 sf109 C108.1)
 have sf116 := Safe.wr W112 sf109 C108.1 sf109
 have f117 : Fld Z h112 x1 "java/lang/String" "value" "[B" (.ref lb106) := (Fld.same W112 f111)
 refine go (S' := T112.setTop (mkF m 18 #[sr x1, sr b1, si 0, si 0, .val .null, un] [(.ref x1)])) (fun t k => st112 _ (XS.aloadN X112.here hx rfl (hb hby d3_17) rfl rfl k)) ?_
 have f119 : Str Z h112 la106 lb106 (0 : Int32) ([] : List Int32) := (lstr106.wr W112 (Ne.symm ne_x1_la106) (Ne.symm ne_x1_lb106))
 obtain ⟨la118, T118, h118, k118, lb118, lk118, X118, e118, E118, hS, hkS, hZ, hown, lE118, lC118, lV118, lA118, la118_lt, lb118_lt, Cq118, lit118, lne118, st118⟩ := ldcCH X112 hx hZ hown (ww hw 36 rfl) (own_sub own_strAtoms hw) e112 hS hkS (own_EW hw) (by decide) C115.1 (vs := []) (z := (0 : Int32)) ⟨by decide, by decide⟩ (by decide) (by decide) (g := (mkF m 18 #[sr x1, sr b1, si 0, si 0, .val .null, un] [(.ref x1)])) rfl (hb hby d3_18) (n := 0) (by decide) (by decide) (by decide) (by decide)
 have K120 : Keep h0 h118 [x1] := K113.ext E118
 have C121 := C115.trans Cq118
 have sf122 := CHr.safe Cq118 (hp0.keep K113).lt sf116
 have ne_x1_la118 := (lne118 x1 sf122).1
 have ne_x1_lb118 := (lne118 x1 sf122).2
 have lstr118 : Str Z h118 la118 lb118 (0 : Int32) ([] : List Int32) := ⟨_, _, _, lE118, lV118, lC118, lA118, own_codOf rfl (by decide), by decide, Nat.le_of_ble_eq_true rfl⟩
 refine go (S' := T118.setTop (mkF m 20 #[sr x1, sr b1, si 0, si 0, .val .null, un] [(.ref la118), (.ref x1)])) st118 ?_
 obtain ⟨T123, X123, e123, st123⟩ := getF X118 hx hZ hown (host := "") (Or.inl (ww hw 32 rfl)) Via.refl e118 lstr118.cod (g := (mkF m 20 #[sr x1, sr b1, si 0, si 0, .val .null, un] [(.ref la118), (.ref x1)])) rfl rfl (hb hby d3_20)
 refine go (S' := T123.setTop (mkF m 23 #[sr x1, sr b1, si 0, si 0, .val .null, un] [(.int 0), (.ref x1)])) st123 ?_
 have f124 : Fld Z h118 x1 "java/lang/String" "coder" "B" (.int 0) := ((Fld.other W112 (hp2.ext E106) (Or.inr (slot_ne (Or.inr (ww hw 33 rfl)) (Or.inr (ww hw 35 rfl)) (by decide) (t := .byte) (t' := (.array .byte)) (by decide) (by decide)))).ext E118)
 obtain ⟨T125, h125, X125, e125, W125, st125⟩ := putF X123 hx hZ hown (host := "") (Or.inl (ww hw 32 rfl)) Via.refl e123 f124 (hp0.keep K120) (Or.inr ⟨(ww hw 33 rfl), rfl, hnm⟩) (ww hw 7 rfl) (ty := .byte) (by decide) (by decide) (by decide) (g := (mkF m 23 #[sr x1, sr b1, si 0, si 0, .val .null, un] [(.int 0), (.ref x1)])) rfl rfl (hb hby d3_23)
 have K126 : Keep h0 h125 [x1] := K120.wr W125 (Or.inl (List.mem_of_getElem? (i := 0) rfl))
 have N127 := Fr.snoc X125 N114 hp3
 have hkS := Nat.le_trans hkS (Keep.of_wr W125).1
 have C128 := C121.trans (CHr.wr W125 sf122 C121.1)
 have sf129 := Safe.wr W125 sf122 C121.1 sf122
 have f130 : Fld Z h125 x1 "java/lang/String" "coder" "B" (.int 0) := (Fld.same W125 f124)
 refine go (S' := T125.setTop (mkF m 26 #[sr x1, sr b1, si 0, si 0, .val .null, un] [])) st125 ?_
 refine finVW X125 hx hk hret hS hkS hZ (own_EW hw) C128 e125 (hb hby d3_26) (by decide) (by decide) ?_
 have f131 : Fld Z h125 x1 "java/lang/String" "value" "[B" (.ref lb106) := (Fld.other W125 (f117.ext E118) (Or.inr (slot_ne (Or.inr (ww hw 35 rfl)) (Or.inr (ww hw 33 rfl)) (by decide) (t := (.array .byte)) (t' := .byte) (by decide) (by decide))))
 have f132 : Str Z h125 la106 lb106 (0 : Int32) ([] : List Int32) := ((f119.ext E118).wr W125 (Ne.symm ne_x1_la106) (Ne.symm ne_x1_lb106))
 obtain ⟨kbz, N2z, vsz, -, -, -, qAz, qcdz, qbdz, qlz⟩ := id f132
 exact ⟨lb106, rfl, N127, K126, ⟨_, _, _, (hp0.keep K126), f131, f130, qAz, qcdz, qbdz, qlz⟩⟩
theorem ef_rmE1 (m : MethodId) (x1 : Addr) (b1 : Addr) : entryFrame m #[(.ref x1), (.ref b1)] 2 = mkF m 0 #[sr x1, sr b1] [] := by first | (simp [entryFrame, mkF, argsToLocals, Value.category]; done) | rfl
def Q_rmE1 (Z : State) (x1 : Addr) (b1 : Addr) (kC : ClassId) (vC : List Value) (dC : Value) (h0 : Heap) (n0 : Nat) (v : Option Value) (h : Heap) (L : List Loc) : Prop := ∃ (t : Addr), v = none ∧ Fr n0 L ∧ Keep h0 h [x1] ∧ (Str Z h x1 t (0 : Int32) ([] : List Int32))
set_option maxRecDepth 65536 in
set_option maxHeartbeats 40000000 in
theorem rmE1 (l : Launch) (Z : State) (a0 : Array Value) (hw : ∀ d ∈ tables_1, d.before a0 Z = true) (ws : List Jvm.Cond) (x1 : Addr) (b1 : Addr) (kC : ClassId) (vC : List Value) (dC : Value) (h0 : Heap) (n0 : Nat) (Z0 : n0 ≤ h0.size) (hp0 : Exa Z h0 x1 "java/lang/String") (hp1 : Fld Z h0 x1 "java/lang/String" "value" "[B" .null) (hp2 : Fld Z h0 x1 "java/lang/String" "coder" "B" (.int 0)) (hp3 : n0 ≤ x1) (hp4 : Arv Z h0 b1 kC .char (0 : Int32) vC dC) (hp5 : Old Z n0 h0) :
    MetFree l y_9 (head1 (Jvm.Cond.code y_9 jdk_42_method_3_code 2 none :: ws) ({ frames := 2, cells := 4, slots := 8, locals := 29 } : Room)) (fun a U => a = #[(.ref x1), (.ref b1)] ∧ Z.Warmed39 U.vm ∧ U.heap = h0 ∧ CHv Z consts_1 U.vm h0 ∧ ∀ x ∈ ([] : List Addr), Safe Z consts_1 U.vm h0 x) (fun _ _ _ _ _ => True) (fun _ U o U' => ∃ v L, o = .returned v ∧ Q_rmE1 Z x1 b1 kC vC dC h0 n0 v U'.heap L ∧ CHr Z consts_1 U.vm U.heap U'.vm U'.heap ∧ ReturnedEndW U o U' L ({ frames := 2, cells := 4, slots := 8, locals := 29 } : Room).cells ({ frames := 2, cells := 4, slots := 8, locals := 29 } : Room).slots) := by
 refine bodyOfW pn_9 (fun m => ef_rmE1 m x1 b1) ?_
 intro p e s m below meth c T0 X0 hx hby hml hown hnm hret hk hZ e0 hS C0 hsf
 have hkS := Nat.le_refl h0.size
 have N0 := Fr.nil n0
 have K0 : Keep h0 h0 [x1] := Keep.refl _ _
 have O0 := hp5
 have sf133 : Safe Z consts_1 _ h0 x1 := safeBlank hZ.alike hp0 hp1
 refine go (S' := T0.setTop (mkF m 4 #[sr x1, sr b1] [(.ref b1), (.int 0), (.ref b1), (.ref x1)])) (fun t k => XS.aloadN X0.here hx rfl (hb hby d2_0) rfl rfl (XS.aloadN X0.here hx rfl (hb hby d2_1) rfl rfl (XS.iconst X0.here hx rfl (hb hby d2_2) (XS.aloadN X0.here hx rfl (hb hby d2_3) rfl rfl k)))) ?_
 obtain ⟨cl134, Ar134, -, S134, M134, -, -⟩ := id hp4
 refine go (S' := T0.setTop (mkF m 6 #[sr x1, sr b1] [.null, (.int 0), (.int 0), (.ref b1), (.ref x1)])) (fun t k => X0.arraylength hx (by rw [e0]; exact Ar134.1) (State.isArrayOf_alike hZ.alike Ar134.2.1) (g := (mkF m 4 #[sr x1, sr b1] [(.ref b1), (.int 0), (.ref b1), (.ref x1)])) rfl rfl (hb hby d2_4) _ (by rw [len_of S134 M134]; exact (XS.aconstNull X0.here hx rfl (hb hby d2_5) k))) ?_
 have O135 : Old Z n0 h0 := O0.keep K0 (allS hp3 all0)
 obtain ⟨v136, T136, L136, X136, hQ136, hS, hZ, hown, Cq136, st136⟩ := callSpW X0 hx hZ (y := y_8) rfl hown (ww hw 13 rfl) (ww hw 14 rfl) (ww hw 16 rfl) (by decide) (backW (W := 0) (rmE4 l Z a0 hw [] x1 b1 h0 n0 (Nat.le_trans Z0 K0.1) hp0 hp1 hp2 hp3 O135) hZ (ww hw 16 rfl) (ww hw 8 rfl) (by decide) (by decide) (own_EW hw) C0.1 all0) (g := (mkF m 6 #[sr x1, sr b1] [.null, (.int 0), (.int 0), (.ref b1), (.ref x1)])) rfl (by rw [hml]; rfl) (a := x1) (kc := 4) (ks := 8) (argsL := [(.ref b1), (.int 0), (.int 0), .null]) (rest := []) (lenOf pd_7 rfl) rfl (mr0 rfl) (hb hby d2_6) e0 (by decide) (by decide) hS hkS
 obtain ⟨t_136, rfl, N136q, Kq136, q136_0⟩ := hQ136
 have N136 := Fr.app N0 N136q
 have hkS := Nat.le_refl T136.heap.size
 have C137 := C0.trans Cq136
 have sf138 := CHr.safe Cq136 hp0.lt sf133
 have K139 : Keep h0 T136.heap [x1] := K0.trans Kq136 (allS (P := fun x => x ∈ [x1] ∨ h0.size ≤ x) (Or.inl (List.mem_of_getElem? (i := 0) rfl)) all0)
 refine go (S' := T136.setTop (mkF m 9 #[sr x1, sr b1] [])) st136 ?_
 refine finVW X136 hx hk hret hS hkS hZ (own_EW hw) C137 rfl (hb hby d2_9) (by decide) (by decide) ?_
 exact ⟨t_136, rfl, N136, K139, q136_0⟩
theorem d14_0 : dd jdk_42_method_152_code 0 (.getstatic 38) 3 := by decide +kernel
theorem d14_3 : dd jdk_42_method_152_code 3 (.ifCond .eq 10) 3 := by decide +kernel
theorem d14_6 : dd jdk_42_method_152_code 6 (.aload_n 0) 1 := by decide +kernel
theorem d14_7 : dd jdk_42_method_152_code 7 (.getfield 15) 3 := by decide +kernel
theorem d14_10 : dd jdk_42_method_152_code 10 (.goto 4) 3 := by decide +kernel
theorem d14_14 : dd jdk_42_method_152_code 14 .ireturn 1 := by decide +kernel
abbrev y_18 : MethodName := ⟨"java/lang/String", "coder", "()B"⟩
theorem pn_18 : plainFor y_18 = true := by first | exact plainFor_of_name (by first | (simp [plainName, overriddenIn]; done) | decide +kernel) | decide +kernel
theorem ef_rmCod0 (m : MethodId) (x1 : Addr) : entryFrame m #[(.ref x1)] 1 = mkF m 0 #[sr x1] [] := by first | (simp [entryFrame, mkF, argsToLocals, Value.category]; done) | rfl
def Q_rmCod0 (Z : State) (x1 : Addr) (G1 : Int32) (h0 : Heap) (n0 : Nat) (v : Option Value) (h : Heap) (L : List Loc) : Prop := v = some (.int 0) ∧ Fr n0 L ∧ h = h0
set_option maxRecDepth 65536 in
set_option maxHeartbeats 40000000 in
theorem rmCod0 (l : Launch) (Z : State) (a0 : Array Value) (hw : ∀ d ∈ tables_1, d.before a0 Z = true) (ws : List Jvm.Cond) (x1 : Addr) (G1 : Int32) (h0 : Heap) (n0 : Nat) (Z0 : n0 ≤ h0.size) (hp0 : Fld Z h0 x1 "java/lang/String" "coder" "B" (.int 0)) (hp1 : Sta Z Z.heap "java/lang/String" "COMPACT_STRINGS" "Z" (.int G1)) (hG1 : ¬ (G1 = (0 : Int32))) (hp3 : Old Z n0 h0) :
    MetFree l y_18 (head1 (Jvm.Cond.code y_18 jdk_42_method_152_code 1 (some .byte) :: ws) ({ frames := 0, cells := 0, slots := 0, locals := 0 } : Room)) (fun a U => a = #[(.ref x1)] ∧ Z.Warmed39 U.vm ∧ U.heap = h0) (fun _ _ _ _ _ => True) (fun _ U o U' => ∃ v L, o = .returned v ∧ Q_rmCod0 Z x1 G1 h0 n0 v U'.heap L ∧ FrameEnd U o U' L ({ frames := 0, cells := 0, slots := 0, locals := 0 } : Room).cells ({ frames := 0, cells := 0, slots := 0, locals := 0 } : Room).slots) := by
 refine bodyOf pn_18 (fun m => ef_rmCod0 m x1) ?_
 intro p e s m below meth c T0 X0 hx hby hml hown hnm hret hk hZ e0
 have N0 := Fr.nil n0
 have K0 : Keep h0 h0 [] := Keep.refl _ _
 have O0 := hp3
 have O141 : Old Z n0 h0 := O0.keep K0 all0
 obtain ⟨T140, X140, e140, st140⟩ := getS2 X0 hx hZ hown (host := "") (Or.inl (ww hw 20 rfl)) Via.refl e0 (hp1.ext O141.2) (g := (mkF m 0 #[sr x1] [])) rfl (hb hby d14_0)
 refine go (S' := T140.setTop (mkF m 7 #[sr x1] [(.ref x1)])) (fun t k => st140 _ (XS.ifNo X140.here hx rfl (hb hby d14_3) rfl ((if0 _ _).trans (feq hG1).1) (XS.aloadN X140.here hx rfl (hb hby d14_6) rfl rfl k))) ?_
 obtain ⟨T142, X142, e142, st142⟩ := getF X140 hx hZ hown (host := "") (Or.inl (ww hw 32 rfl)) Via.refl e140 hp0 (g := (mkF m 7 #[sr x1] [(.ref x1)])) rfl rfl (hb hby d14_7)
 refine go (S' := T142.setTop (mkF m 14 #[sr x1] [(.int 0)])) (fun t k => st142 _ (XS.goto X142.here hx rfl (pc0 := 10) (pc' := 14) rfl (hb hby d14_10) (by decide) (by decide) k)) ?_
 refine finN X142 hx hk (t := .byte) hret (by simp) (hb hby d14_14) (by decide) (by decide) ?_
 rw [e142]
 exact ⟨rfl, N0, rfl⟩
theorem ef_rmCod1 (m : MethodId) (x1 : Addr) : entryFrame m #[(.ref x1)] 1 = mkF m 0 #[sr x1] [] := by first | (simp [entryFrame, mkF, argsToLocals, Value.category]; done) | rfl
def Q_rmCod1 (Z : State) (x1 : Addr) (G1 : Int32) (h0 : Heap) (n0 : Nat) (v : Option Value) (h : Heap) (L : List Loc) : Prop := v = some (.int 1) ∧ Fr n0 L ∧ h = h0
set_option maxRecDepth 65536 in
set_option maxHeartbeats 40000000 in
theorem rmCod1 (l : Launch) (Z : State) (a0 : Array Value) (hw : ∀ d ∈ tables_1, d.before a0 Z = true) (ws : List Jvm.Cond) (x1 : Addr) (G1 : Int32) (h0 : Heap) (n0 : Nat) (Z0 : n0 ≤ h0.size) (hp0 : Fld Z h0 x1 "java/lang/String" "coder" "B" (.int 1)) (hp1 : Sta Z Z.heap "java/lang/String" "COMPACT_STRINGS" "Z" (.int G1)) (hG1 : ¬ (G1 = (0 : Int32))) (hp3 : Old Z n0 h0) :
    MetFree l y_18 (head1 (Jvm.Cond.code y_18 jdk_42_method_152_code 1 (some .byte) :: ws) ({ frames := 0, cells := 0, slots := 0, locals := 0 } : Room)) (fun a U => a = #[(.ref x1)] ∧ Z.Warmed39 U.vm ∧ U.heap = h0) (fun _ _ _ _ _ => True) (fun _ U o U' => ∃ v L, o = .returned v ∧ Q_rmCod1 Z x1 G1 h0 n0 v U'.heap L ∧ FrameEnd U o U' L ({ frames := 0, cells := 0, slots := 0, locals := 0 } : Room).cells ({ frames := 0, cells := 0, slots := 0, locals := 0 } : Room).slots) := by
 refine bodyOf pn_18 (fun m => ef_rmCod1 m x1) ?_
 intro p e s m below meth c T0 X0 hx hby hml hown hnm hret hk hZ e0
 have N0 := Fr.nil n0
 have K0 : Keep h0 h0 [] := Keep.refl _ _
 have O0 := hp3
 have O144 : Old Z n0 h0 := O0.keep K0 all0
 obtain ⟨T143, X143, e143, st143⟩ := getS2 X0 hx hZ hown (host := "") (Or.inl (ww hw 20 rfl)) Via.refl e0 (hp1.ext O144.2) (g := (mkF m 0 #[sr x1] [])) rfl (hb hby d14_0)
 refine go (S' := T143.setTop (mkF m 7 #[sr x1] [(.ref x1)])) (fun t k => st143 _ (XS.ifNo X143.here hx rfl (hb hby d14_3) rfl ((if0 _ _).trans (feq hG1).1) (XS.aloadN X143.here hx rfl (hb hby d14_6) rfl rfl k))) ?_
 obtain ⟨T145, X145, e145, st145⟩ := getF X143 hx hZ hown (host := "") (Or.inl (ww hw 32 rfl)) Via.refl e143 hp0 (g := (mkF m 7 #[sr x1] [(.ref x1)])) rfl rfl (hb hby d14_7)
 refine go (S' := T145.setTop (mkF m 14 #[sr x1] [(.int 1)])) (fun t k => st145 _ (XS.goto X145.here hx rfl (pc0 := 10) (pc' := 14) rfl (hb hby d14_10) (by decide) (by decide) k)) ?_
 refine finN X145 hx hk (t := .byte) hret (by simp) (hb hby d14_14) (by decide) (by decide) ?_
 rw [e145]
 exact ⟨rfl, N0, rfl⟩
theorem d15_0 : dd jdk_68_method_9_code 0 (.aload_n 0) 1 := by decide +kernel
theorem d15_1 : dd jdk_68_method_9_code 1 (.getfield 15) 3 := by decide +kernel
theorem d15_4 : dd jdk_68_method_9_code 4 .arraylength 1 := by decide +kernel
theorem d15_5 : dd jdk_68_method_9_code 5 (.aload_n 0) 1 := by decide +kernel
theorem d15_6 : dd jdk_68_method_9_code 6 (.getfield 22) 3 := by decide +kernel
theorem d15_9 : dd jdk_68_method_9_code 9 .ishr 1 := by decide +kernel
theorem d15_10 : dd jdk_68_method_9_code 10 (.istore_n 2) 1 := by decide +kernel
theorem d15_11 : dd jdk_68_method_9_code 11 (.iload_n 1) 1 := by decide +kernel
theorem d15_12 : dd jdk_68_method_9_code 12 (.iload_n 2) 1 := by decide +kernel
theorem d15_13 : dd jdk_68_method_9_code 13 .isub 1 := by decide +kernel
theorem d15_14 : dd jdk_68_method_9_code 14 (.ifCond .le 24) 3 := by decide +kernel
theorem d15_38 : dd jdk_68_method_9_code 38 .return_ 1 := by decide +kernel
abbrev y_19 : MethodName := ⟨"java/lang/AbstractStringBuilder", "ensureCapacityInternal", "(I)V"⟩
theorem pn_19 : plainFor y_19 = true := by first | exact plainFor_of_name (by first | (simp [plainName, overriddenIn]; done) | decide +kernel) | decide +kernel
theorem ef_rmEci0 (m : MethodId) (x1 : Addr) (pm : Int32) : entryFrame m #[(.ref x1), (.int pm)] 3 = mkF m 0 #[sr x1, si pm, un] [] := by first | (simp [entryFrame, mkF, argsToLocals, Value.category]; done) | rfl
def Q_rmEci0 (Z : State) (x1 : Addr) (pm : Int32) (tv : Addr) (kb : ClassId) (vs : List Value) (h0 : Heap) (n0 : Nat) (v : Option Value) (h : Heap) (L : List Loc) : Prop := v = none ∧ Fr n0 L ∧ h = h0
set_option maxRecDepth 65536 in
set_option maxHeartbeats 40000000 in
theorem rmEci0 (l : Launch) (Z : State) (a0 : Array Value) (hw : ∀ d ∈ tables_1, d.before a0 Z = true) (ws : List Jvm.Cond) (x1 : Addr) (pm : Int32) (tv : Addr) (kb : ClassId) (vs : List Value) (h0 : Heap) (n0 : Nat) (Z0 : n0 ≤ h0.size) (hp0 : Fld Z h0 x1 "java/lang/AbstractStringBuilder" "value" "[B" (.ref tv)) (hp1 : Fld Z h0 x1 "java/lang/AbstractStringBuilder" "coder" "B" (.int 0)) (hp2 : Arv Z h0 tv kb .byte (16 : Int32) vs (.int 0)) (hcap : ¬ ((0 : Int32) < (pm - ((16 : Int32) >>> ((0 : Int32) &&& 31))))) :
    MetFree l y_19 (head1 (Jvm.Cond.code y_19 jdk_68_method_9_code 3 none :: ws) ({ frames := 0, cells := 0, slots := 0, locals := 0 } : Room)) (fun a U => a = #[(.ref x1), (.int pm)] ∧ Z.Warmed39 U.vm ∧ U.heap = h0) (fun _ _ _ _ _ => True) (fun _ U o U' => ∃ v L, o = .returned v ∧ Q_rmEci0 Z x1 pm tv kb vs h0 n0 v U'.heap L ∧ FrameEnd U o U' L ({ frames := 0, cells := 0, slots := 0, locals := 0 } : Room).cells ({ frames := 0, cells := 0, slots := 0, locals := 0 } : Room).slots) := by
 refine bodyOf pn_19 (fun m => ef_rmEci0 m x1 pm) ?_
 intro p e s m below meth c T0 X0 hx hby hml hown hnm hret hk hZ e0
 have N0 := Fr.nil n0
 have K0 : Keep h0 h0 [] := Keep.refl _ _
 refine go (S' := T0.setTop (mkF m 1 #[sr x1, si pm, un] [(.ref x1)])) (fun t k => XS.aloadN X0.here hx rfl (hb hby d15_0) rfl rfl k) ?_
 obtain ⟨T146, X146, e146, st146⟩ := getF X0 hx hZ hown (host := "") (Or.inl (ww hw 59 rfl)) Via.refl e0 hp0 (g := (mkF m 1 #[sr x1, si pm, un] [(.ref x1)])) rfl rfl (hb hby d15_1)
 refine go (S' := T146.setTop (mkF m 4 #[sr x1, si pm, un] [(.ref tv)])) st146 ?_
 obtain ⟨cl147, Ar147, -, S147, M147, -, -⟩ := id hp2
 refine go (S' := T146.setTop (mkF m 6 #[sr x1, si pm, un] [(.ref x1), (.int 16)])) (fun t k => X146.arraylength hx (by rw [e146]; exact Ar147.1) (State.isArrayOf_alike hZ.alike Ar147.2.1) (g := (mkF m 4 #[sr x1, si pm, un] [(.ref tv)])) rfl rfl (hb hby d15_4) _ (by rw [len_of S147 M147]; exact (XS.aloadN X146.here hx rfl (hb hby d15_5) rfl rfl k))) ?_
 obtain ⟨T148, X148, e148, st148⟩ := getF X146 hx hZ hown (host := "") (Or.inl (ww hw 61 rfl)) Via.refl e146 hp1 (g := (mkF m 6 #[sr x1, si pm, un] [(.ref x1), (.int 16)])) rfl rfl (hb hby d15_6)
 refine go (S' := T148.setTop (mkF m 38 #[sr x1, si pm, si ((16 : Int32) >>> ((0 : Int32) &&& 31))] [])) (fun t k => st148 _ (XS.ishr X148.here hx rfl (hb hby d15_9) rfl (XS.istoreN X148.here hx rfl (hb hby d15_10) rfl (l' := #[sr x1, si pm, si ((16 : Int32) >>> ((0 : Int32) &&& 31))]) rfl (XS.iloadN X148.here hx rfl (hb hby d15_11) rfl (XS.iloadN X148.here hx rfl (hb hby d15_12) rfl (XS.isub X148.here hx rfl (hb hby d15_13) rfl (XS.ifYes X148.here hx rfl (pc0 := 14) (pc' := 38) rfl (hb hby d15_14) rfl ((if0 _ _).trans (flt hcap).2.2.2) (by decide) (by decide) k))))))) ?_
 refine finV X148 hx hk hret (hb hby d15_38) (by decide) (by decide) ?_
 rw [e148]
 exact ⟨rfl, N0, rfl⟩
theorem ef_rmEci1 (m : MethodId) (x1 : Addr) (pm : Int32) : entryFrame m #[(.ref x1), (.int pm)] 3 = mkF m 0 #[sr x1, si pm, un] [] := by first | (simp [entryFrame, mkF, argsToLocals, Value.category]; done) | rfl
def Q_rmEci1 (Z : State) (x1 : Addr) (pm : Int32) (tv : Addr) (kb : ClassId) (vs : List Value) (h0 : Heap) (n0 : Nat) (v : Option Value) (h : Heap) (L : List Loc) : Prop := v = none ∧ Fr n0 L ∧ h = h0
set_option maxRecDepth 65536 in
set_option maxHeartbeats 40000000 in
theorem rmEci1 (l : Launch) (Z : State) (a0 : Array Value) (hw : ∀ d ∈ tables_1, d.before a0 Z = true) (ws : List Jvm.Cond) (x1 : Addr) (pm : Int32) (tv : Addr) (kb : ClassId) (vs : List Value) (h0 : Heap) (n0 : Nat) (Z0 : n0 ≤ h0.size) (hp0 : Fld Z h0 x1 "java/lang/AbstractStringBuilder" "value" "[B" (.ref tv)) (hp1 : Fld Z h0 x1 "java/lang/AbstractStringBuilder" "coder" "B" (.int 1)) (hp2 : Arv Z h0 tv kb .byte (Int32.ofNat (2 * 16)) vs (.int 0)) (hcap : ¬ ((0 : Int32) < (pm - ((Int32.ofNat (2 * 16)) >>> ((1 : Int32) &&& 31))))) :
    MetFree l y_19 (head1 (Jvm.Cond.code y_19 jdk_68_method_9_code 3 none :: ws) ({ frames := 0, cells := 0, slots := 0, locals := 0 } : Room)) (fun a U => a = #[(.ref x1), (.int pm)] ∧ Z.Warmed39 U.vm ∧ U.heap = h0) (fun _ _ _ _ _ => True) (fun _ U o U' => ∃ v L, o = .returned v ∧ Q_rmEci1 Z x1 pm tv kb vs h0 n0 v U'.heap L ∧ FrameEnd U o U' L ({ frames := 0, cells := 0, slots := 0, locals := 0 } : Room).cells ({ frames := 0, cells := 0, slots := 0, locals := 0 } : Room).slots) := by
 refine bodyOf pn_19 (fun m => ef_rmEci1 m x1 pm) ?_
 intro p e s m below meth c T0 X0 hx hby hml hown hnm hret hk hZ e0
 have N0 := Fr.nil n0
 have K0 : Keep h0 h0 [] := Keep.refl _ _
 refine go (S' := T0.setTop (mkF m 1 #[sr x1, si pm, un] [(.ref x1)])) (fun t k => XS.aloadN X0.here hx rfl (hb hby d15_0) rfl rfl k) ?_
 obtain ⟨T149, X149, e149, st149⟩ := getF X0 hx hZ hown (host := "") (Or.inl (ww hw 59 rfl)) Via.refl e0 hp0 (g := (mkF m 1 #[sr x1, si pm, un] [(.ref x1)])) rfl rfl (hb hby d15_1)
 refine go (S' := T149.setTop (mkF m 4 #[sr x1, si pm, un] [(.ref tv)])) st149 ?_
 obtain ⟨cl150, Ar150, -, S150, M150, -, -⟩ := id hp2
 refine go (S' := T149.setTop (mkF m 6 #[sr x1, si pm, un] [(.ref x1), (.int (Int32.ofNat (2 * 16)))])) (fun t k => X149.arraylength hx (by rw [e149]; exact Ar150.1) (State.isArrayOf_alike hZ.alike Ar150.2.1) (g := (mkF m 4 #[sr x1, si pm, un] [(.ref tv)])) rfl rfl (hb hby d15_4) _ (by rw [len_of S150 M150]; exact (XS.aloadN X149.here hx rfl (hb hby d15_5) rfl rfl k))) ?_
 obtain ⟨T151, X151, e151, st151⟩ := getF X149 hx hZ hown (host := "") (Or.inl (ww hw 61 rfl)) Via.refl e149 hp1 (g := (mkF m 6 #[sr x1, si pm, un] [(.ref x1), (.int (Int32.ofNat (2 * 16)))])) rfl rfl (hb hby d15_6)
 refine go (S' := T151.setTop (mkF m 38 #[sr x1, si pm, si ((Int32.ofNat (2 * 16)) >>> ((1 : Int32) &&& 31))] [])) (fun t k => st151 _ (XS.ishr X151.here hx rfl (hb hby d15_9) rfl (XS.istoreN X151.here hx rfl (hb hby d15_10) rfl (l' := #[sr x1, si pm, si ((Int32.ofNat (2 * 16)) >>> ((1 : Int32) &&& 31))]) rfl (XS.iloadN X151.here hx rfl (hb hby d15_11) rfl (XS.iloadN X151.here hx rfl (hb hby d15_12) rfl (XS.isub X151.here hx rfl (hb hby d15_13) rfl (XS.ifYes X151.here hx rfl (pc0 := 14) (pc' := 38) rfl (hb hby d15_14) rfl ((if0 _ _).trans (flt hcap).2.2.2) (by decide) (by decide) k))))))) ?_
 refine finV X151 hx hk hret (hb hby d15_38) (by decide) (by decide) ?_
 rw [e151]
 exact ⟨rfl, N0, rfl⟩
theorem d25_0 : dd jdk_68_method_68_code 0 (.getstatic 18) 3 := by decide +kernel
theorem d25_3 : dd jdk_68_method_68_code 3 (.ifCond .eq 14) 3 := by decide +kernel
theorem d25_6 : dd jdk_68_method_68_code 6 (.aload_n 0) 1 := by decide +kernel
theorem d25_7 : dd jdk_68_method_68_code 7 (.getfield 22) 3 := by decide +kernel
theorem d25_10 : dd jdk_68_method_68_code 10 (.ifCond .ne 7) 3 := by decide +kernel
theorem d25_13 : dd jdk_68_method_68_code 13 (.iconst 1) 1 := by decide +kernel
theorem d25_14 : dd jdk_68_method_68_code 14 (.goto 4) 3 := by decide +kernel
theorem d25_18 : dd jdk_68_method_68_code 18 .ireturn 1 := by decide +kernel
abbrev y_20 : MethodName := ⟨"java/lang/AbstractStringBuilder", "isLatin1", "()Z"⟩
theorem pn_20 : plainFor y_20 = true := by first | exact plainFor_of_name (by first | (simp [plainName, overriddenIn]; done) | decide +kernel) | decide +kernel
theorem ef_rmIl0 (m : MethodId) (x1 : Addr) : entryFrame m #[(.ref x1)] 1 = mkF m 0 #[sr x1] [] := by first | (simp [entryFrame, mkF, argsToLocals, Value.category]; done) | rfl
def Q_rmIl0 (Z : State) (x1 : Addr) (G1 : Int32) (h0 : Heap) (n0 : Nat) (v : Option Value) (h : Heap) (L : List Loc) : Prop := v = some (.int 1) ∧ Fr n0 L ∧ h = h0
set_option maxRecDepth 65536 in
set_option maxHeartbeats 40000000 in
theorem rmIl0 (l : Launch) (Z : State) (a0 : Array Value) (hw : ∀ d ∈ tables_1, d.before a0 Z = true) (ws : List Jvm.Cond) (x1 : Addr) (G1 : Int32) (h0 : Heap) (n0 : Nat) (Z0 : n0 ≤ h0.size) (hp0 : Fld Z h0 x1 "java/lang/AbstractStringBuilder" "coder" "B" (.int 0)) (hp1 : Sta Z Z.heap "java/lang/String" "COMPACT_STRINGS" "Z" (.int G1)) (hG1 : ¬ (G1 = (0 : Int32))) (hp3 : Old Z n0 h0) :
    MetFree l y_20 (head1 (Jvm.Cond.code y_20 jdk_68_method_68_code 1 (some .boolean) :: ws) ({ frames := 0, cells := 0, slots := 0, locals := 0 } : Room)) (fun a U => a = #[(.ref x1)] ∧ Z.Warmed39 U.vm ∧ U.heap = h0) (fun _ _ _ _ _ => True) (fun _ U o U' => ∃ v L, o = .returned v ∧ Q_rmIl0 Z x1 G1 h0 n0 v U'.heap L ∧ FrameEnd U o U' L ({ frames := 0, cells := 0, slots := 0, locals := 0 } : Room).cells ({ frames := 0, cells := 0, slots := 0, locals := 0 } : Room).slots) := by
 refine bodyOf pn_20 (fun m => ef_rmIl0 m x1) ?_
 intro p e s m below meth c T0 X0 hx hby hml hown hnm hret hk hZ e0
 have N0 := Fr.nil n0
 have K0 : Keep h0 h0 [] := Keep.refl _ _
 have O0 := hp3
 have O153 : Old Z n0 h0 := O0.keep K0 all0
 obtain ⟨T152, X152, e152, st152⟩ := getS2 X0 hx hZ hown (host := "") (Or.inl (ww hw 58 rfl)) Via.refl e0 (hp1.ext O153.2) (g := (mkF m 0 #[sr x1] [])) rfl (hb hby d25_0)
 refine go (S' := T152.setTop (mkF m 7 #[sr x1] [(.ref x1)])) (fun t k => st152 _ (XS.ifNo X152.here hx rfl (hb hby d25_3) rfl ((if0 _ _).trans (feq hG1).1) (XS.aloadN X152.here hx rfl (hb hby d25_6) rfl rfl k))) ?_
 obtain ⟨T154, X154, e154, st154⟩ := getF X152 hx hZ hown (host := "") (Or.inl (ww hw 61 rfl)) Via.refl e152 hp0 (g := (mkF m 7 #[sr x1] [(.ref x1)])) rfl rfl (hb hby d25_7)
 refine go (S' := T154.setTop (mkF m 10 #[sr x1] [(.int 0)])) st154 ?_
 have hc155 : (0 : Int32) = (0 : Int32) := by decide
 refine go (S' := T154.setTop (mkF m 18 #[sr x1] [(.int 1)])) (fun t k => XS.ifNo X154.here hx rfl (hb hby d25_10) rfl ((if0 _ _).trans (teq hc155).2) (XS.iconst X154.here hx rfl (hb hby d25_13) (XS.goto X154.here hx rfl (pc0 := 14) (pc' := 18) rfl (hb hby d25_14) (by decide) (by decide) k))) ?_
 refine finN X154 hx hk (t := .boolean) hret (by simp) (hb hby d25_18) (by decide) (by decide) ?_
 rw [e154]
 exact ⟨rfl, N0, rfl⟩
theorem d25_17 : dd jdk_68_method_68_code 17 (.iconst 0) 1 := by decide +kernel
theorem ef_rmIl1 (m : MethodId) (x1 : Addr) : entryFrame m #[(.ref x1)] 1 = mkF m 0 #[sr x1] [] := by first | (simp [entryFrame, mkF, argsToLocals, Value.category]; done) | rfl
def Q_rmIl1 (Z : State) (x1 : Addr) (G1 : Int32) (h0 : Heap) (n0 : Nat) (v : Option Value) (h : Heap) (L : List Loc) : Prop := v = some (.int 0) ∧ Fr n0 L ∧ h = h0
set_option maxRecDepth 65536 in
set_option maxHeartbeats 40000000 in
theorem rmIl1 (l : Launch) (Z : State) (a0 : Array Value) (hw : ∀ d ∈ tables_1, d.before a0 Z = true) (ws : List Jvm.Cond) (x1 : Addr) (G1 : Int32) (h0 : Heap) (n0 : Nat) (Z0 : n0 ≤ h0.size) (hp0 : Fld Z h0 x1 "java/lang/AbstractStringBuilder" "coder" "B" (.int 1)) (hp1 : Sta Z Z.heap "java/lang/String" "COMPACT_STRINGS" "Z" (.int G1)) (hG1 : ¬ (G1 = (0 : Int32))) (hp3 : Old Z n0 h0) :
    MetFree l y_20 (head1 (Jvm.Cond.code y_20 jdk_68_method_68_code 1 (some .boolean) :: ws) ({ frames := 0, cells := 0, slots := 0, locals := 0 } : Room)) (fun a U => a = #[(.ref x1)] ∧ Z.Warmed39 U.vm ∧ U.heap = h0) (fun _ _ _ _ _ => True) (fun _ U o U' => ∃ v L, o = .returned v ∧ Q_rmIl1 Z x1 G1 h0 n0 v U'.heap L ∧ FrameEnd U o U' L ({ frames := 0, cells := 0, slots := 0, locals := 0 } : Room).cells ({ frames := 0, cells := 0, slots := 0, locals := 0 } : Room).slots) := by
 refine bodyOf pn_20 (fun m => ef_rmIl1 m x1) ?_
 intro p e s m below meth c T0 X0 hx hby hml hown hnm hret hk hZ e0
 have N0 := Fr.nil n0
 have K0 : Keep h0 h0 [] := Keep.refl _ _
 have O0 := hp3
 have O157 : Old Z n0 h0 := O0.keep K0 all0
 obtain ⟨T156, X156, e156, st156⟩ := getS2 X0 hx hZ hown (host := "") (Or.inl (ww hw 58 rfl)) Via.refl e0 (hp1.ext O157.2) (g := (mkF m 0 #[sr x1] [])) rfl (hb hby d25_0)
 refine go (S' := T156.setTop (mkF m 7 #[sr x1] [(.ref x1)])) (fun t k => st156 _ (XS.ifNo X156.here hx rfl (hb hby d25_3) rfl ((if0 _ _).trans (feq hG1).1) (XS.aloadN X156.here hx rfl (hb hby d25_6) rfl rfl k))) ?_
 obtain ⟨T158, X158, e158, st158⟩ := getF X156 hx hZ hown (host := "") (Or.inl (ww hw 61 rfl)) Via.refl e156 hp0 (g := (mkF m 7 #[sr x1] [(.ref x1)])) rfl rfl (hb hby d25_7)
 refine go (S' := T158.setTop (mkF m 10 #[sr x1] [(.int 1)])) st158 ?_
 have hc159 : ¬ ((1 : Int32) = (0 : Int32)) := by decide
 refine go (S' := T158.setTop (mkF m 18 #[sr x1] [(.int 0)])) (fun t k => XS.ifYes X158.here hx rfl (pc0 := 10) (pc' := 17) rfl (hb hby d25_10) rfl ((if0 _ _).trans (feq hc159).2) (by decide) (by decide) (XS.iconst X158.here hx rfl (hb hby d25_17) k)) ?_
 refine finN X158 hx hk (t := .boolean) hret (by simp) (hb hby d25_18) (by decide) (by decide) ?_
 rw [e158]
 exact ⟨rfl, N0, rfl⟩
theorem d53_0 : dd jdk_68_method_11_code 0 (.aload_n 0) 1 := by decide +kernel
theorem d53_1 : dd jdk_68_method_11_code 1 (.invokevirtual 83) 3 := by decide +kernel
theorem d53_4 : dd jdk_68_method_11_code 4 (.ifCond .ne 4) 3 := by decide +kernel
theorem d53_7 : dd jdk_68_method_11_code 7 .return_ 1 := by decide +kernel
abbrev y_21 : MethodName := ⟨"java/lang/AbstractStringBuilder", "inflate", "()V"⟩
theorem pn_21 : plainFor y_21 = true := by first | exact plainFor_of_name (by first | (simp [plainName, overriddenIn]; done) | decide +kernel) | decide +kernel
theorem ef_rmIf1 (m : MethodId) (x1 : Addr) : entryFrame m #[(.ref x1)] 2 = mkF m 0 #[sr x1, un] [] := by first | (simp [entryFrame, mkF, argsToLocals, Value.category]; done) | rfl
def Q_rmIf1 (Z : State) (x1 : Addr) (G1 : Int32) (h0 : Heap) (n0 : Nat) (v : Option Value) (h : Heap) (L : List Loc) : Prop := v = none ∧ Fr n0 L ∧ h = h0
set_option maxRecDepth 65536 in
set_option maxHeartbeats 40000000 in
theorem rmIf1 (l : Launch) (Z : State) (a0 : Array Value) (hw : ∀ d ∈ tables_1, d.before a0 Z = true) (ws : List Jvm.Cond) (x1 : Addr) (G1 : Int32) (h0 : Heap) (n0 : Nat) (Z0 : n0 ≤ h0.size) (hp0 : Exa Z h0 x1 "java/lang/StringBuilder") (hp1 : Fld Z h0 x1 "java/lang/AbstractStringBuilder" "coder" "B" (.int 1)) (hp2 : Sta Z Z.heap "java/lang/String" "COMPACT_STRINGS" "Z" (.int G1)) (hG1 : ¬ (G1 = (0 : Int32))) (hp4 : Old Z n0 h0) :
    MetFree l y_21 (head1 (Jvm.Cond.code y_21 jdk_68_method_11_code 2 none :: ws) ({ frames := 1, cells := 0, slots := 0, locals := 12 } : Room)) (fun a U => a = #[(.ref x1)] ∧ Z.Warmed39 U.vm ∧ U.heap = h0) (fun _ _ _ _ _ => True) (fun _ U o U' => ∃ v L, o = .returned v ∧ Q_rmIf1 Z x1 G1 h0 n0 v U'.heap L ∧ FrameEnd U o U' L ({ frames := 1, cells := 0, slots := 0, locals := 12 } : Room).cells ({ frames := 1, cells := 0, slots := 0, locals := 12 } : Room).slots) := by
 refine bodyOf pn_21 (fun m => ef_rmIf1 m x1) ?_
 intro p e s m below meth c T0 X0 hx hby hml hown hnm hret hk hZ e0
 have N0 := Fr.nil n0
 have K0 : Keep h0 h0 [] := Keep.refl _ _
 have O0 := hp4
 refine go (S' := T0.setTop (mkF m 1 #[sr x1, un] [(.ref x1)])) (fun t k => XS.aloadN X0.here hx rfl (hb hby d53_0) rfl rfl k) ?_
 have O160 : Old Z n0 h0 := O0.keep K0 all0
 obtain ⟨v161, T161, L161, X161, hQ161, st161⟩ := callV X0 hx hZ (y := y_20) (z := y_20) hown (ww hw 287 rfl) (ww hw 138 rfl) (notFace_of_selects (args := #[]) (mvT hZ (ww hw 140 rfl))) (ww hw 140 rfl) (ww hw 139 rfl) (by decide) (backOf (W := 0) (rmIl1 l Z a0 hw [] x1 G1 h0 n0 (Nat.le_trans Z0 K0.1) hp1 hp2 hG1 O160) hZ (ww hw 141 rfl) (ww hw 55 rfl) (by decide) (by decide)) hp0 (g := (mkF m 1 #[sr x1, un] [(.ref x1)])) rfl (by rw [hml]; rfl) (kc := 0) (ks := 0) (argsL := []) (rest := []) (lenOf pd_12 rfl) rfl (mr0 rfl) (hb hby d53_1) e0 (by decide) (by decide)
 obtain ⟨rfl, N161q, e161⟩ := hQ161
 have N161 := Fr.app N0 N161q
 refine go (S' := T161.setTop (mkF m 4 #[sr x1, un] [(.int 0)])) st161 ?_
 have hc162 : (0 : Int32) = (0 : Int32) := by decide
 refine go (S' := T161.setTop (mkF m 7 #[sr x1, un] [])) (fun t k => XS.ifNo X161.here hx rfl (hb hby d53_4) rfl ((if0 _ _).trans (teq hc162).2) k) ?_
 refine finV X161 hx hk hret (hb hby d53_7) (by decide) (by decide) ?_
 rw [e161]
 exact ⟨rfl, N161, rfl⟩
theorem d59_0 : dd jdk_41_method_13_code 0 (.iload_n 2) 1 := by decide +kernel
theorem d59_1 : dd jdk_41_method_13_code 1 (.iload_n 0) 1 := by decide +kernel
theorem d59_2 : dd jdk_41_method_13_code 2 .ior 1 := by decide +kernel
theorem d59_3 : dd jdk_41_method_13_code 3 (.iload_n 1) 1 := by decide +kernel
theorem d59_4 : dd jdk_41_method_13_code 4 .ior 1 := by decide +kernel
theorem d59_5 : dd jdk_41_method_13_code 5 (.ifCond .lt 10) 3 := by decide +kernel
theorem d59_8 : dd jdk_41_method_13_code 8 (.iload_n 1) 1 := by decide +kernel
theorem d59_9 : dd jdk_41_method_13_code 9 (.iload_n 2) 1 := by decide +kernel
theorem d59_10 : dd jdk_41_method_13_code 10 (.iload_n 0) 1 := by decide +kernel
theorem d59_11 : dd jdk_41_method_13_code 11 .isub 1 := by decide +kernel
theorem d59_12 : dd jdk_41_method_13_code 12 (.if_icmp .le 11) 3 := by decide +kernel
theorem d59_23 : dd jdk_41_method_13_code 23 (.iload_n 0) 1 := by decide +kernel
theorem d59_24 : dd jdk_41_method_13_code 24 .ireturn 1 := by decide +kernel
abbrev y_22 : MethodName := ⟨"jdk/internal/util/Preconditions", "checkFromIndexSize", "(IIILjava/util/function/BiFunction;)I"⟩
theorem pn_22 : plainFor y_22 = true := by first | exact plainFor_of_name (by first | (simp [plainName, overriddenIn]; done) | decide +kernel) | decide +kernel
theorem ef_rmCfs (m : MethodId) (p1 : Int32) (p2 : Int32) (p3 : Int32) (fm : Value) (hfm : fm.isRef = true) : entryFrame m #[(.int p1), (.int p2), (.int p3), fm] 4 = mkF m 0 #[si p1, si p2, si p3, .val fm] [] := by cases fm <;> simp_all [entryFrame, mkF, argsToLocals, Value.category, Value.isRef]
def Q_rmCfs (Z : State) (p1 : Int32) (p2 : Int32) (p3 : Int32) (fm : Value) (h0 : Heap) (n0 : Nat) (v : Option Value) (h : Heap) (L : List Loc) : Prop := v = some (.int p1) ∧ Fr n0 L ∧ h = h0
set_option maxRecDepth 65536 in
set_option maxHeartbeats 40000000 in
theorem rmCfs (l : Launch) (Z : State) (a0 : Array Value) (hw : ∀ d ∈ tables_1, d.before a0 Z = true) (ws : List Jvm.Cond) (p1 : Int32) (p2 : Int32) (p3 : Int32) (fm : Value) (h0 : Heap) (n0 : Nat) (Z0 : n0 ≤ h0.size) (hfm : fm.isRef = true) (hz0 : ¬ (((p3 ||| p1) ||| p2) < (0 : Int32))) (hz1 : ¬ ((p3 - p1) < p2)) :
    MetFree l y_22 (head1 (Jvm.Cond.code y_22 jdk_41_method_13_code 4 (some .int) :: ws) ({ frames := 0, cells := 0, slots := 0, locals := 0 } : Room)) (fun a U => a = #[(.int p1), (.int p2), (.int p3), fm] ∧ Z.Warmed39 U.vm ∧ U.heap = h0) (fun _ _ _ _ _ => True) (fun _ U o U' => ∃ v L, o = .returned v ∧ Q_rmCfs Z p1 p2 p3 fm h0 n0 v U'.heap L ∧ FrameEnd U o U' L ({ frames := 0, cells := 0, slots := 0, locals := 0 } : Room).cells ({ frames := 0, cells := 0, slots := 0, locals := 0 } : Room).slots) := by
 refine bodyOf pn_22 (fun m => ef_rmCfs m p1 p2 p3 fm hfm) ?_
 intro p e s m below meth c T0 X0 hx hby hml hown hnm hret hk hZ e0
 have N0 := Fr.nil n0
 have K0 : Keep h0 h0 [] := Keep.refl _ _
 refine go (S' := T0.setTop (mkF m 10 #[si p1, si p2, si p3, .val fm] [(.int p3), (.int p2)])) (fun t k => XS.iloadN X0.here hx rfl (hb hby d59_0) rfl (XS.iloadN X0.here hx rfl (hb hby d59_1) rfl (XS.ior X0.here hx rfl (hb hby d59_2) rfl (XS.iloadN X0.here hx rfl (hb hby d59_3) rfl (XS.ior X0.here hx rfl (hb hby d59_4) rfl (XS.ifNo X0.here hx rfl (hb hby d59_5) rfl ((if0 _ _).trans (flt hz0).1) (XS.iloadN X0.here hx rfl (hb hby d59_8) rfl (XS.iloadN X0.here hx rfl (hb hby d59_9) rfl k)))))))) ?_
 refine go (S' := T0.setTop (mkF m 24 #[si p1, si p2, si p3, .val fm] [(.int p1)])) (fun t k => XS.iloadN X0.here hx rfl (hb hby d59_10) rfl (XS.isub X0.here hx rfl (hb hby d59_11) rfl (XS.icmpYes X0.here hx rfl (pc0 := 12) (pc' := 23) rfl (hb hby d59_12) rfl (flt hz1).2.2.2 (by decide) (by decide) (XS.iloadN X0.here hx rfl (hb hby d59_23) rfl k)))) ?_
 refine finI X0 hx hk hret (hb hby d59_24) (by decide) (by decide) ?_
 rw [e0]
 exact ⟨rfl, N0, rfl⟩
theorem d58_0 : dd jdk_42_method_157_code 0 (.iload_n 0) 1 := by decide +kernel
theorem d58_1 : dd jdk_42_method_157_code 1 (.iload_n 1) 1 := by decide +kernel
theorem d58_2 : dd jdk_42_method_157_code 2 (.iload_n 2) 1 := by decide +kernel
theorem d58_3 : dd jdk_42_method_157_code 3 (.getstatic 1053) 3 := by decide +kernel
theorem d58_6 : dd jdk_42_method_157_code 6 (.invokestatic 1065) 3 := by decide +kernel
theorem pd_13 : parseMethodDescriptor "(IIILjava/util/function/BiFunction;)I" = some ⟨[.int, .int, .int, (.object "java/util/function/BiFunction")], some .int⟩ := by decide +kernel
theorem d58_9 : dd jdk_42_method_157_code 9 .ireturn 1 := by decide +kernel
abbrev y_23 : MethodName := ⟨"java/lang/String", "checkBoundsOffCount", "(III)I"⟩
theorem pn_23 : plainFor y_23 = true := by first | exact plainFor_of_name (by first | (simp [plainName, overriddenIn]; done) | decide +kernel) | decide +kernel
theorem ef_rmSbo (m : MethodId) (p1 : Int32) (p2 : Int32) (p3 : Int32) : entryFrame m #[(.int p1), (.int p2), (.int p3)] 3 = mkF m 0 #[si p1, si p2, si p3] [] := by first | (simp [entryFrame, mkF, argsToLocals, Value.category]; done) | rfl
def Q_rmSbo (Z : State) (p1 : Int32) (p2 : Int32) (p3 : Int32) (fm : Value) (h0 : Heap) (n0 : Nat) (v : Option Value) (h : Heap) (L : List Loc) : Prop := v = some (.int p1) ∧ Fr n0 L ∧ h = h0
set_option maxRecDepth 65536 in
set_option maxHeartbeats 40000000 in
theorem rmSbo (l : Launch) (Z : State) (a0 : Array Value) (hw : ∀ d ∈ tables_1, d.before a0 Z = true) (ws : List Jvm.Cond) (p1 : Int32) (p2 : Int32) (p3 : Int32) (fm : Value) (h0 : Heap) (n0 : Nat) (Z0 : n0 ≤ h0.size) (hfm : fm.isRef = true) (hz0 : ¬ (((p3 ||| p1) ||| p2) < (0 : Int32))) (hz1 : ¬ ((p3 - p1) < p2)) (hp3 : Sta Z Z.heap "jdk/internal/util/Preconditions" "SIOOBE_FORMATTER" "Ljava/util/function/BiFunction;" fm) (hp4 : Old Z n0 h0) :
    MetFree l y_23 (head1 (Jvm.Cond.code y_23 jdk_42_method_157_code 3 (some .int) :: ws) ({ frames := 1, cells := 0, slots := 0, locals := 15 } : Room)) (fun a U => a = #[(.int p1), (.int p2), (.int p3)] ∧ Z.Warmed39 U.vm ∧ U.heap = h0) (fun _ _ _ _ _ => True) (fun _ U o U' => ∃ v L, o = .returned v ∧ Q_rmSbo Z p1 p2 p3 fm h0 n0 v U'.heap L ∧ FrameEnd U o U' L ({ frames := 1, cells := 0, slots := 0, locals := 15 } : Room).cells ({ frames := 1, cells := 0, slots := 0, locals := 15 } : Room).slots) := by
 refine bodyOf pn_23 (fun m => ef_rmSbo m p1 p2 p3) ?_
 intro p e s m below meth c T0 X0 hx hby hml hown hnm hret hk hZ e0
 have N0 := Fr.nil n0
 have K0 : Keep h0 h0 [] := Keep.refl _ _
 have O0 := hp4
 refine go (S' := T0.setTop (mkF m 3 #[si p1, si p2, si p3] [(.int p3), (.int p2), (.int p1)])) (fun t k => XS.iloadN X0.here hx rfl (hb hby d58_0) rfl (XS.iloadN X0.here hx rfl (hb hby d58_1) rfl (XS.iloadN X0.here hx rfl (hb hby d58_2) rfl k))) ?_
 have O164 : Old Z n0 h0 := O0.keep K0 all0
 obtain ⟨T163, X163, e163, st163⟩ := getS2 X0 hx hZ hown (host := "") (Or.inl (ww hw 242 rfl)) Via.refl e0 (hp3.ext O164.2) (g := (mkF m 3 #[si p1, si p2, si p3] [(.int p3), (.int p2), (.int p1)])) rfl (hb hby d58_3)
 refine go (S' := T163.setTop (mkF m 6 #[si p1, si p2, si p3] [fm, (.int p3), (.int p2), (.int p1)])) st163 ?_
 obtain ⟨v165, T165, L165, X165, hQ165, st165⟩ := callSt X163 hx hZ (y := y_22) hown (ww hw 304 rfl) (ww hw 305 rfl) (ww hw 243 rfl) (ww hw 306 rfl) (by decide) (backOf (W := 0) (rmCfs l Z a0 hw [] p1 p2 p3 fm h0 n0 (Nat.le_trans Z0 K0.1) hfm hz0 hz1) hZ (ww hw 306 rfl) (ww hw 243 rfl) (by decide) (by decide)) (g := (mkF m 6 #[si p1, si p2, si p3] [fm, (.int p3), (.int p2), (.int p1)])) rfl (by rw [hml]; rfl) (kc := 0) (ks := 0) (argsL := [(.int p1), (.int p2), (.int p3), fm]) (rest := []) (lenOf pd_13 rfl) rfl (mr0 rfl) (hb hby d58_6) e163 (by decide) (by decide)
 obtain ⟨rfl, N165q, e165⟩ := hQ165
 have N165 := Fr.app N0 N165q
 refine go (S' := T165.setTop (mkF m 9 #[si p1, si p2, si p3] [(.int p1)])) st165 ?_
 refine finI X165 hx hk hret (hb hby d58_9) (by decide) (by decide) ?_
 rw [e165]
 exact ⟨rfl, N165, rfl⟩
theorem d56_0 : dd jdk_52_method_94_code 0 (.iload_n 0) 1 := by decide +kernel
theorem d56_1 : dd jdk_52_method_94_code 1 (.iload_n 1) 1 := by decide +kernel
theorem d56_2 : dd jdk_52_method_94_code 2 (.aload_n 2) 1 := by decide +kernel
theorem d56_3 : dd jdk_52_method_94_code 3 (.invokestatic 48) 3 := by decide +kernel
theorem d56_6 : dd jdk_52_method_94_code 6 (.invokestatic 419) 3 := by decide +kernel
theorem pd_14 : parseMethodDescriptor "(III)I" = some ⟨[.int, .int, .int], some .int⟩ := by decide +kernel
theorem d56_9 : dd jdk_52_method_94_code 9 .pop 1 := by decide +kernel
theorem d56_10 : dd jdk_52_method_94_code 10 .return_ 1 := by decide +kernel
abbrev y_24 : MethodName := ⟨"java/lang/StringUTF16", "checkBoundsOffCount", "(II[B)V"⟩
theorem pn_24 : plainFor y_24 = true := by first | exact plainFor_of_name (by first | (simp [plainName, overriddenIn]; done) | decide +kernel) | decide +kernel
theorem ef_rmUbo (m : MethodId) (p1 : Int32) (p2 : Int32) (a3 : Addr) : entryFrame m #[(.int p1), (.int p2), (.ref a3)] 3 = mkF m 0 #[si p1, si p2, sr a3] [] := by first | (simp [entryFrame, mkF, argsToLocals, Value.category]; done) | rfl
def Q_rmUbo (Z : State) (p1 : Int32) (p2 : Int32) (a3 : Addr) (kb : ClassId) (vs : List Value) (fm : Value) (h0 : Heap) (n0 : Nat) (v : Option Value) (h : Heap) (L : List Loc) : Prop := v = none ∧ Fr n0 L ∧ h = h0
set_option maxRecDepth 65536 in
set_option maxHeartbeats 40000000 in
theorem rmUbo (l : Launch) (Z : State) (a0 : Array Value) (hw : ∀ d ∈ tables_1, d.before a0 Z = true) (ws : List Jvm.Cond) (p1 : Int32) (p2 : Int32) (a3 : Addr) (kb : ClassId) (vs : List Value) (fm : Value) (h0 : Heap) (n0 : Nat) (Z0 : n0 ≤ h0.size) (hp0 : Arv Z h0 a3 kb .byte (Int32.ofNat (2 * 16)) vs (.int 0)) (hfm : fm.isRef = true) (hz0 : ¬ ((((Int32.ofNat 16) ||| p1) ||| p2) < (0 : Int32))) (hz1 : ¬ (((Int32.ofNat 16) - p1) < p2)) (hp4 : Sta Z Z.heap "jdk/internal/util/Preconditions" "SIOOBE_FORMATTER" "Ljava/util/function/BiFunction;" fm) (hp5 : Old Z n0 h0) :
    MetFree l y_24 (head1 (Jvm.Cond.code y_24 jdk_52_method_94_code 3 none :: ws) ({ frames := 2, cells := 0, slots := 0, locals := 29 } : Room)) (fun a U => a = #[(.int p1), (.int p2), (.ref a3)] ∧ Z.Warmed39 U.vm ∧ U.heap = h0) (fun _ _ _ _ _ => True) (fun _ U o U' => ∃ v L, o = .returned v ∧ Q_rmUbo Z p1 p2 a3 kb vs fm h0 n0 v U'.heap L ∧ FrameEnd U o U' L ({ frames := 2, cells := 0, slots := 0, locals := 29 } : Room).cells ({ frames := 2, cells := 0, slots := 0, locals := 29 } : Room).slots) := by
 refine bodyOf pn_24 (fun m => ef_rmUbo m p1 p2 a3) ?_
 intro p e s m below meth c T0 X0 hx hby hml hown hnm hret hk hZ e0
 have N0 := Fr.nil n0
 have K0 : Keep h0 h0 [] := Keep.refl _ _
 have O0 := hp5
 refine go (S' := T0.setTop (mkF m 3 #[si p1, si p2, sr a3] [(.ref a3), (.int p2), (.int p1)])) (fun t k => XS.iloadN X0.here hx rfl (hb hby d56_0) rfl (XS.iloadN X0.here hx rfl (hb hby d56_1) rfl (XS.aloadN X0.here hx rfl (hb hby d56_2) rfl rfl k))) ?_
 obtain ⟨v166, T166, L166, X166, hQ166, st166⟩ := callSt X0 hx hZ (y := y_14) hown (ww hw 298 rfl) (ww hw 299 rfl) (ww hw 23 rfl) (ww hw 300 rfl) (by decide) (backOf (W := 2) (rmUl l Z a0 hw [] a3 kb 16 vs h0 n0 (Nat.le_trans Z0 K0.1) hp0 (by decide)) hZ (ww hw 300 rfl) (ww hw 23 rfl) (by decide) (by decide)) (g := (mkF m 3 #[si p1, si p2, sr a3] [(.ref a3), (.int p2), (.int p1)])) rfl (by rw [hml]; rfl) (kc := 0) (ks := 0) (argsL := [(.ref a3)]) (rest := [(.int p2), (.int p1)]) (lenOf pd_10 rfl) rfl (mr0 rfl) (hb hby d56_3) e0 (by decide) (by decide)
 obtain ⟨rfl, N166q, e166⟩ := hQ166
 have N166 := Fr.app N0 N166q
 refine go (S' := T166.setTop (mkF m 6 #[si p1, si p2, sr a3] [(.int (Int32.ofNat 16)), (.int p2), (.int p1)])) st166 ?_
 have O167 : Old Z n0 h0 := O0.keep K0 all0
 obtain ⟨v168, T168, L168, X168, hQ168, st168⟩ := callSt X166 hx hZ (y := y_23) hown (ww hw 301 rfl) (ww hw 302 rfl) (ww hw 8 rfl) (ww hw 303 rfl) (by decide) (backOf (W := 0) (rmSbo l Z a0 hw [] p1 p2 (Int32.ofNat 16) fm h0 n0 (Nat.le_trans Z0 K0.1) hfm hz0 hz1 hp4 O167) hZ (ww hw 303 rfl) (ww hw 8 rfl) (by decide) (by decide)) (g := (mkF m 6 #[si p1, si p2, sr a3] [(.int (Int32.ofNat 16)), (.int p2), (.int p1)])) rfl (by rw [hml]; rfl) (kc := 0) (ks := 0) (argsL := [(.int p1), (.int p2), (.int (Int32.ofNat 16))]) (rest := []) (lenOf pd_14 rfl) rfl (mr0 rfl) (hb hby d56_6) e166 (by decide) (by decide)
 obtain ⟨rfl, N168q, e168⟩ := hQ168
 have N168 := Fr.app N166 N168q
 refine go (S' := T168.setTop (mkF m 10 #[si p1, si p2, sr a3] [])) (fun t k => st168 _ (XS.pop X168.here hx rfl (hb hby d56_9) rfl rfl k)) ?_
 refine finV X168 hx hk hret (hb hby d56_10) (by decide) (by decide) ?_
 rw [e168]
 exact ⟨rfl, N168, rfl⟩
theorem d55_0 : dd jdk_52_method_86_code 0 (.iload_n 3) 1 := by decide +kernel
theorem d55_1 : dd jdk_52_method_86_code 1 (.iload 4) 2 := by decide +kernel
theorem d55_3 : dd jdk_52_method_86_code 3 (.aload_n 2) 1 := by decide +kernel
theorem d55_4 : dd jdk_52_method_86_code 4 (.invokestatic 173) 3 := by decide +kernel
theorem pd_15 : parseMethodDescriptor "(II[B)V" = some ⟨[.int, .int, (.array .byte)], none⟩ := by decide +kernel
theorem d55_7 : dd jdk_52_method_86_code 7 (.iconst 0) 1 := by decide +kernel
theorem d55_8 : dd jdk_52_method_86_code 8 (.istore 5) 2 := by decide +kernel
theorem d55_10 : dd jdk_52_method_86_code 10 (.iload 5) 2 := by decide +kernel
theorem d55_12 : dd jdk_52_method_86_code 12 (.iload 4) 2 := by decide +kernel
theorem d55_14 : dd jdk_52_method_86_code 14 (.if_icmp .ge 27) 3 := by decide +kernel
theorem d55_41 : dd jdk_52_method_86_code 41 .return_ 1 := by decide +kernel
theorem d55_17 : dd jdk_52_method_86_code 17 (.aload_n 2) 1 := by decide +kernel
theorem d55_18 : dd jdk_52_method_86_code 18 (.iload_n 3) 1 := by decide +kernel
theorem d55_19 : dd jdk_52_method_86_code 19 (.iinc 3 1) 3 := by decide +kernel
theorem d55_22 : dd jdk_52_method_86_code 22 (.aload_n 0) 1 := by decide +kernel
theorem d55_23 : dd jdk_52_method_86_code 23 (.iload_n 1) 1 := by decide +kernel
theorem d55_24 : dd jdk_52_method_86_code 24 (.iinc 1 1) 3 := by decide +kernel
theorem d55_27 : dd jdk_52_method_86_code 27 .baload 1 := by decide +kernel
theorem d55_28 : dd jdk_52_method_86_code 28 (.sipush 255) 3 := by decide +kernel
theorem d55_31 : dd jdk_52_method_86_code 31 .iand 1 := by decide +kernel
theorem d55_32 : dd jdk_52_method_86_code 32 (.invokestatic 111) 3 := by decide +kernel
theorem d55_35 : dd jdk_52_method_86_code 35 (.iinc 5 1) 3 := by decide +kernel
theorem d55_38 : dd jdk_52_method_86_code 38 (.goto (-28)) 3 := by decide +kernel
abbrev y_25 : MethodName := ⟨"java/lang/StringUTF16", "inflate", "([BI[BII)V"⟩
theorem pn_25 : plainFor y_25 = true := by first | exact plainFor_of_name (by first | (simp [plainName, overriddenIn]; done) | decide +kernel) | decide +kernel
theorem ef_rmInf (m : MethodId) (a1 : Addr) (a3 : Addr) (pd : Int32) (pn : Int32) : entryFrame m #[(.ref a1), (.int 0), (.ref a3), (.int pd), (.int pn)] 6 = mkF m 0 #[sr a1, si 0, sr a3, si pd, si pn, un] [] := by first | (simp [entryFrame, mkF, argsToLocals, Value.category]; done) | rfl
def Q_rmInf (Z : State) (a1 : Addr) (a3 : Addr) (pd : Int32) (pn : Int32) (kA : ClassId) (N1 : Int32) (kb : ClassId) (pre : List Int32) (cs : List Int32) (fm : Value) (h0 : Heap) (n0 : Nat) (v : Option Value) (h : Heap) (L : List Loc) : Prop := v = none ∧ Fr n0 L ∧ Keep h0 h [a3] ∧ (Arv Z h a3 kb .byte (Int32.ofNat (2 * 16)) (StrChars.Road.wideBytes (pre ++ cs)) (.int 0))
set_option maxRecDepth 65536 in
set_option maxHeartbeats 40000000 in
theorem rmInf (l : Launch) (Z : State) (a0 : Array Value) (hw : ∀ d ∈ tables_1, d.before a0 Z = true) (ws : List Jvm.Cond) (a1 : Addr) (a3 : Addr) (pd : Int32) (pn : Int32) (kA : ClassId) (N1 : Int32) (kb : ClassId) (pre : List Int32) (cs : List Int32) (fm : Value) (h0 : Heap) (n0 : Nat) (Z0 : n0 ≤ h0.size) (hp0 : Arv Z h0 a1 kA .byte N1 (cs.map fun c => Value.int (StrChars.lo8 c)) (.int 0)) (hN1 : cs.length ≤ N1.toNatClampNeg) (hp2 : Arv Z h0 a3 kb .byte (Int32.ofNat (2 * 16)) (StrChars.Road.wideBytes pre) (.int 0)) (hpd : pd = Int32.ofNat pre.length) (hn : pn = Int32.ofNat cs.length) (hlat : ∀ c ∈ cs, ¬ c < 0 ∧ ¬ (255 : Int32) < c) (hr : pre.length + cs.length ≤ 16) (hfm : fm.isRef = true) (hp8 : Sta Z Z.heap "jdk/internal/util/Preconditions" "SIOOBE_FORMATTER" "Ljava/util/function/BiFunction;" fm) (hp9 : n0 ≤ a3) (hp10 : a1 ≠ a3) (hp11 : Sta Z Z.heap "java/lang/StringUTF16" "$assertionsDisabled" "Z" (.int 1)) (hp12 : Sta Z Z.heap "java/lang/StringUTF16" "HI_BYTE_SHIFT" "I" (.int 0)) (hp13 : Sta Z Z.heap "java/lang/StringUTF16" "LO_BYTE_SHIFT" "I" (.int 8)) (hp14 : Old Z n0 h0) :
    MetFree l y_25 (head1 (Jvm.Cond.code y_25 jdk_52_method_86_code 6 none :: ws) ({ frames := 3, cells := 0, slots := 0, locals := 43 } : Room)) (fun a U => a = #[(.ref a1), (.int 0), (.ref a3), (.int pd), (.int pn)] ∧ Z.Warmed39 U.vm ∧ U.heap = h0) (fun _ _ _ _ _ => True) (fun _ U o U' => ∃ v L, o = .returned v ∧ Q_rmInf Z a1 a3 pd pn kA N1 kb pre cs fm h0 n0 v U'.heap L ∧ FrameEnd U o U' L ({ frames := 3, cells := 0, slots := 0, locals := 43 } : Room).cells ({ frames := 3, cells := 0, slots := 0, locals := 43 } : Room).slots) := by
 refine bodyOf pn_25 (fun m => ef_rmInf m a1 a3 pd pn) ?_
 intro p e s m below meth c T0 X0 hx hby hml hown hnm hret hk hZ e0
 have N0 := Fr.nil n0
 have K0 : Keep h0 h0 [a3] := Keep.refl _ _
 have ne_a1_a3 := hp10
 have O0 := hp14
 have hb0 : ¬ ((((Int32.ofNat 16) ||| pd) ||| pn) < (0 : Int32)) := by rw [hpd, hn]; exact own_or _ (by omega) _ (by omega)
 have hb1 : ¬ (((Int32.ofNat 16) - pd) < pn) := by rw [hpd, hn]; exact own_szs _ (by omega) _ (by omega) hr
 refine go (S' := T0.setTop (mkF m 4 #[sr a1, si 0, sr a3, si pd, si pn, un] [(.ref a3), (.int pn), (.int pd)])) (fun t k => XS.iloadN X0.here hx rfl (hb hby d55_0) rfl (XS.iload X0.here hx rfl (hb hby d55_1) rfl (XS.aloadN X0.here hx rfl (hb hby d55_3) rfl rfl k))) ?_
 have O169 : Old Z n0 h0 := O0.keep K0 (allS hp9 all0)
 obtain ⟨v170, T170, L170, X170, hQ170, st170⟩ := callSt X0 hx hZ (y := y_24) hown (ww hw 295 rfl) (ww hw 296 rfl) (ww hw 23 rfl) (ww hw 297 rfl) (by decide) (backOf (W := 0) (rmUbo l Z a0 hw [] pd pn a3 kb (StrChars.Road.wideBytes pre) fm h0 n0 (Nat.le_trans Z0 K0.1) hp2 hfm hb0 hb1 hp8 O169) hZ (ww hw 297 rfl) (ww hw 23 rfl) (by decide) (by decide)) (g := (mkF m 4 #[sr a1, si 0, sr a3, si pd, si pn, un] [(.ref a3), (.int pn), (.int pd)])) rfl (by rw [hml]; rfl) (kc := 0) (ks := 0) (argsL := [(.int pd), (.int pn), (.ref a3)]) (rest := []) (lenOf pd_15 rfl) rfl (mr0 rfl) (hb hby d55_4) e0 (by decide) (by decide)
 obtain ⟨rfl, N170q, e170⟩ := hQ170
 have N170 := Fr.app N0 N170q
 refine go (S' := T170.setTop (mkF m 10 #[sr a1, si 0, sr a3, si pd, si pn, si 0] [])) (fun t k => st170 _ (XS.iconst X170.here hx rfl (hb hby d55_7) (XS.istore X170.here hx rfl (hb hby d55_8) rfl (l' := #[sr a1, si 0, sr a3, si pd, si pn, si 0]) rfl k))) ?_
 have hV0 : Arv Z h0 a3 kb .byte (Int32.ofNat (2 * 16)) (StrChars.Road.wideBytes (pre ++ cs.take 0)) (.int 0) := by rw [List.take_zero, List.append_nil]; exact hp2
 have loopI : ∀ (r : Nat) (i : Nat) (pj : Int32) (T : State) (locs : List Loc) (h : Heap), (i + r = cs.length) → (pj = Int32.ofNat (pre.length + i)) → Stand p l e ({ frames := 3, cells := 0, slots := 0, locals := 43 } : Room) s m #[(.ref a1), (.int 0), (.ref a3), (.int pd), (.int pn)] below meth c T locs 0 0 → T.heap = h → Fr n0 locs → Keep h0 h [a3] → Arv Z h a1 kA .byte N1 (cs.map fun c => Value.int (StrChars.lo8 c)) (.int 0) → Arv Z h a3 kb .byte (Int32.ofNat (2 * 16)) (StrChars.Road.wideBytes (pre ++ cs.take i)) (.int 0) → Goes p.tables e below (EndP s below (Q_rmInf Z a1 a3 pd pn kA N1 kb pre cs fm h0 n0) ({ frames := 3, cells := 0, slots := 0, locals := 43 } : Room).cells ({ frames := 3, cells := 0, slots := 0, locals := 43 } : Room).slots) (T.setTop (mkF m 10 #[sr a1, si (Int32.ofNat i), sr a3, si pj, si pn, si (Int32.ofNat i)] [])) := by
  intro r
  induction r with
  | zero =>
   intro i pj T locs h hi hpj X eT N K lf171_0 lf171_1
   refine go (S' := T.setTop (mkF m 14 #[sr a1, si (Int32.ofNat i), sr a3, si pj, si pn, si (Int32.ofNat i)] [(.int pn), (.int (Int32.ofNat i))])) (fun t k => XS.iload X.here hx rfl (hb hby d55_10) rfl (XS.iload X.here hx rfl (hb hby d55_12) rfl k)) ?_
   have hc172 : ¬ ((Int32.ofNat i) < pn) := by rw [hn]; exact oj_nlt (by omega) (by omega) (by omega)
   refine go (S' := T.setTop (mkF m 41 #[sr a1, si (Int32.ofNat i), sr a3, si pj, si pn, si (Int32.ofNat i)] [])) (fun t k => XS.icmpYes X.here hx rfl (pc0 := 14) (pc' := 41) rfl (hb hby d55_14) rfl (flt hc172).2.1 (by decide) (by decide) k) ?_
   refine finV X hx hk hret (hb hby d55_41) (by decide) (by decide) ?_
   have ht : cs.take i = cs := List.take_of_length_le (by omega)
   rw [eT]
   exact ⟨rfl, N, K, by have q := lf171_1; rw [ht] at q; exact q⟩
  | succ r ih =>
   intro i pj T locs h hi hpj X eT N K lf171_0 lf171_1
   refine go (S' := T.setTop (mkF m 14 #[sr a1, si (Int32.ofNat i), sr a3, si pj, si pn, si (Int32.ofNat i)] [(.int pn), (.int (Int32.ofNat i))])) (fun t k => XS.iload X.here hx rfl (hb hby d55_10) rfl (XS.iload X.here hx rfl (hb hby d55_12) rfl k)) ?_
   have hc173 : (Int32.ofNat i) < pn := by rw [hn]; exact oj_lt (by omega) (by omega)
   refine go (S' := T.setTop (mkF m 27 #[sr a1, si ((Int32.ofNat i) + (1 : Int32)), sr a3, si (pj + (1 : Int32)), si pn, si (Int32.ofNat i)] [(.int (Int32.ofNat i)), (.ref a1), (.int pj), (.ref a3)])) (fun t k => XS.icmpNo X.here hx rfl (hb hby d55_14) rfl (tlt hc173).2.1 (XS.aloadN X.here hx rfl (hb hby d55_17) rfl rfl (XS.iloadN X.here hx rfl (hb hby d55_18) rfl (XS.iinc X.here hx rfl (hb hby d55_19) rfl (l' := #[sr a1, si (Int32.ofNat i), sr a3, si (pj + (1 : Int32)), si pn, si (Int32.ofNat i)]) rfl (XS.aloadN X.here hx rfl (hb hby d55_22) rfl rfl (XS.iloadN X.here hx rfl (hb hby d55_23) rfl (XS.iinc X.here hx rfl (hb hby d55_24) rfl (l' := #[sr a1, si ((Int32.ofNat i) + (1 : Int32)), sr a3, si (pj + (1 : Int32)), si pn, si (Int32.ofNat i)]) rfl k))))))) ?_
   obtain ⟨cl174, Ar174, q174, S174, M174, H174, G174⟩ := id lf171_0
   have hin174 : ¬ ((Int32.ofNat i) < 0 ∨ cl174.slots.size ≤ ((Int32.ofNat i)).toNatClampNeg) := own_in S174 (by omega) (by omega)
   have hat174 : cl174.slots[((Int32.ofNat i)).toNatClampNeg]? = some (.int (StrChars.lo8 (cs.getD i 0))) := Has.at H174 hin174 (by rw [oj_n (by omega)]; exact StrChars.Road.low_at _ cs i (by omega))
   refine go (S' := T.setTop (mkF m 32 #[sr a1, si ((Int32.ofNat i) + (1 : Int32)), sr a3, si (pj + (1 : Int32)), si pn, si (Int32.ofNat i)] [(.int ((StrChars.lo8 (cs.getD i 0)) &&& (255 : Int32))), (.int pj), (.ref a3)])) (fun t k => X.baloadBytes hx (j := (Int32.ofNat i)) (v := (.int (StrChars.lo8 (cs.getD i 0)))) (by rw [eT]; exact Ar174.1) (State.isArrayOf_alike hZ.alike Ar174.2.1) Ar174.2.2 hin174 hat174 (g := (mkF m 27 #[sr a1, si ((Int32.ofNat i) + (1 : Int32)), sr a3, si (pj + (1 : Int32)), si pn, si (Int32.ofNat i)] [(.int (Int32.ofNat i)), (.ref a1), (.int pj), (.ref a3)])) rfl rfl (hb hby d55_27) _ (XS.sipush X.here hx rfl (hb hby d55_28) (XS.iand X.here hx rfl (hb hby d55_31) rfl k))) ?_
   rw [StrChars.lo8_mask (hlat _ (oj_mem (i := i) (by omega))).1 (hlat _ (oj_mem (i := i) (by omega))).2]
   have O175 : Old Z n0 h := O0.keep K (allS hp9 all0)
   obtain ⟨v176, T176, L176, X176, hQ176, st176⟩ := callSt X hx hZ (y := y_3) hown (ww hw 263 rfl) (ww hw 264 rfl) (ww hw 23 rfl) (ww hw 265 rfl) (by decide) (backOf (W := 0) (rmPut l Z a0 hw [] a3 pj (cs.getD i 0) kb (pre.length + i) 16 (StrChars.Road.wideBytes (pre ++ cs.take i)) h n0 (Nat.le_trans Z0 K.1) lf171_1 hpj (by rw [wide_len, List.length_append, List.length_take]; omega) (by omega) (by decide) hp9 hp11 hp12 hp13 O175) hZ (ww hw 265 rfl) (ww hw 23 rfl) (by decide) (by decide)) (g := (mkF m 32 #[sr a1, si ((Int32.ofNat i) + (1 : Int32)), sr a3, si (pj + (1 : Int32)), si pn, si (Int32.ofNat i)] [(.int (cs.getD i 0)), (.int pj), (.ref a3)])) rfl (by rw [hml]; rfl) (kc := 0) (ks := 0) (argsL := [(.ref a3), (.int pj), (.int (cs.getD i 0))]) (rest := []) (lenOf pd_2 rfl) rfl (mr0 rfl) (hb hby d55_32) eT (by decide) (by decide)
   obtain ⟨rfl, N176q, Kq176, q176_0⟩ := hQ176
   have N176 := Fr.app N N176q
   have K177 : Keep h0 T176.heap [a3] := K.trans Kq176 (allS (P := fun x => x ∈ [a3] ∨ h0.size ≤ x) (Or.inl (List.mem_of_getElem? (i := 0) rfl)) all0)
   refine go (S' := T176.setTop (mkF m 10 #[sr a1, si ((Int32.ofNat i) + (1 : Int32)), sr a3, si (pj + (1 : Int32)), si pn, si ((Int32.ofNat i) + (1 : Int32))] [])) (fun t k => st176 _ (XS.iinc X176.here hx rfl (hb hby d55_35) rfl (l' := #[sr a1, si ((Int32.ofNat i) + (1 : Int32)), sr a3, si (pj + (1 : Int32)), si pn, si ((Int32.ofNat i) + (1 : Int32))]) rfl (XS.goto X176.here hx rfl (pc0 := 38) (pc' := 10) rfl (hb hby d55_38) (by decide) (by decide) k))) ?_
   have V178 : Arv Z T176.heap a3 kb .byte (Int32.ofNat (2 * 16)) (StrChars.Road.wideBytes (pre ++ cs.take (i + 1))) (.int 0) := by rw [← oj_take1 cs (i := i) (by omega), ← List.append_assoc, wide_snoc]; exact q176_0
   rw [oj_one i]
   have f179 : Arv Z T176.heap a1 kA .byte N1 (cs.map fun c => Value.int (StrChars.lo8 c)) (.int 0) := (lf171_0.keep Kq176 (ninS ne_a1_a3 nin0))
   exact ih (i + 1) (pj + (1 : Int32)) _ _ _ (by omega) (by rw [hpj]; exact oj_one _) X176 rfl N176 K177 f179 V178
 exact loopI cs.length 0 _ _ _ _ (Nat.zero_add _) hpd X170 e170 N170 K0 hp0 hV0
theorem d54_0 : dd jdk_43_method_50_code 0 (.aload_n 0) 1 := by decide +kernel
theorem d54_1 : dd jdk_43_method_50_code 1 (.iload_n 1) 1 := by decide +kernel
theorem d54_2 : dd jdk_43_method_50_code 2 (.aload_n 2) 1 := by decide +kernel
theorem d54_3 : dd jdk_43_method_50_code 3 (.iload_n 3) 1 := by decide +kernel
theorem d54_4 : dd jdk_43_method_50_code 4 (.iload 4) 2 := by decide +kernel
theorem d54_6 : dd jdk_43_method_50_code 6 (.invokestatic 240) 3 := by decide +kernel
theorem pd_16 : parseMethodDescriptor "([BI[BII)V" = some ⟨[(.array .byte), .int, (.array .byte), .int, .int], none⟩ := by decide +kernel
theorem d54_9 : dd jdk_43_method_50_code 9 .return_ 1 := by decide +kernel
abbrev y_26 : MethodName := ⟨"java/lang/StringLatin1", "inflate", "([BI[BII)V"⟩
theorem pn_26 : plainFor y_26 = true := by first | exact plainFor_of_name (by first | (simp [plainName, overriddenIn]; done) | decide +kernel) | decide +kernel
theorem ef_rmLin (m : MethodId) (a1 : Addr) (a3 : Addr) (pd : Int32) (pn : Int32) : entryFrame m #[(.ref a1), (.int 0), (.ref a3), (.int pd), (.int pn)] 5 = mkF m 0 #[sr a1, si 0, sr a3, si pd, si pn] [] := by first | (simp [entryFrame, mkF, argsToLocals, Value.category]; done) | rfl
def Q_rmLin (Z : State) (a1 : Addr) (a3 : Addr) (pd : Int32) (pn : Int32) (kA : ClassId) (N1 : Int32) (kb : ClassId) (pre : List Int32) (cs : List Int32) (fm : Value) (h0 : Heap) (n0 : Nat) (v : Option Value) (h : Heap) (L : List Loc) : Prop := v = none ∧ Fr n0 L ∧ Keep h0 h [a3] ∧ (Arv Z h a3 kb .byte (Int32.ofNat (2 * 16)) (StrChars.Road.wideBytes (pre ++ cs)) (.int 0))
set_option maxRecDepth 65536 in
set_option maxHeartbeats 40000000 in
theorem rmLin (l : Launch) (Z : State) (a0 : Array Value) (hw : ∀ d ∈ tables_1, d.before a0 Z = true) (ws : List Jvm.Cond) (a1 : Addr) (a3 : Addr) (pd : Int32) (pn : Int32) (kA : ClassId) (N1 : Int32) (kb : ClassId) (pre : List Int32) (cs : List Int32) (fm : Value) (h0 : Heap) (n0 : Nat) (Z0 : n0 ≤ h0.size) (hp0 : Arv Z h0 a1 kA .byte N1 (cs.map fun c => Value.int (StrChars.lo8 c)) (.int 0)) (hN1 : cs.length ≤ N1.toNatClampNeg) (hp2 : Arv Z h0 a3 kb .byte (Int32.ofNat (2 * 16)) (StrChars.Road.wideBytes pre) (.int 0)) (hpd : pd = Int32.ofNat pre.length) (hn : pn = Int32.ofNat cs.length) (hlat : ∀ c ∈ cs, ¬ c < 0 ∧ ¬ (255 : Int32) < c) (hr : pre.length + cs.length ≤ 16) (hfm : fm.isRef = true) (hp8 : Sta Z Z.heap "jdk/internal/util/Preconditions" "SIOOBE_FORMATTER" "Ljava/util/function/BiFunction;" fm) (hp9 : n0 ≤ a3) (hp10 : a1 ≠ a3) (hp11 : Sta Z Z.heap "java/lang/StringUTF16" "$assertionsDisabled" "Z" (.int 1)) (hp12 : Sta Z Z.heap "java/lang/StringUTF16" "HI_BYTE_SHIFT" "I" (.int 0)) (hp13 : Sta Z Z.heap "java/lang/StringUTF16" "LO_BYTE_SHIFT" "I" (.int 8)) (hp14 : Old Z n0 h0) :
    MetFree l y_26 (head1 (Jvm.Cond.code y_26 jdk_43_method_50_code 5 none :: ws) ({ frames := 4, cells := 0, slots := 0, locals := 60 } : Room)) (fun a U => a = #[(.ref a1), (.int 0), (.ref a3), (.int pd), (.int pn)] ∧ Z.Warmed39 U.vm ∧ U.heap = h0) (fun _ _ _ _ _ => True) (fun _ U o U' => ∃ v L, o = .returned v ∧ Q_rmLin Z a1 a3 pd pn kA N1 kb pre cs fm h0 n0 v U'.heap L ∧ FrameEnd U o U' L ({ frames := 4, cells := 0, slots := 0, locals := 60 } : Room).cells ({ frames := 4, cells := 0, slots := 0, locals := 60 } : Room).slots) := by
 refine bodyOf pn_26 (fun m => ef_rmLin m a1 a3 pd pn) ?_
 intro p e s m below meth c T0 X0 hx hby hml hown hnm hret hk hZ e0
 have N0 := Fr.nil n0
 have K0 : Keep h0 h0 [a3] := Keep.refl _ _
 have ne_a1_a3 := hp10
 have O0 := hp14
 refine go (S' := T0.setTop (mkF m 6 #[sr a1, si 0, sr a3, si pd, si pn] [(.int pn), (.int pd), (.ref a3), (.int 0), (.ref a1)])) (fun t k => XS.aloadN X0.here hx rfl (hb hby d54_0) rfl rfl (XS.iloadN X0.here hx rfl (hb hby d54_1) rfl (XS.aloadN X0.here hx rfl (hb hby d54_2) rfl rfl (XS.iloadN X0.here hx rfl (hb hby d54_3) rfl (XS.iload X0.here hx rfl (hb hby d54_4) rfl k))))) ?_
 have O180 : Old Z n0 h0 := O0.keep K0 (allS hp9 all0)
 obtain ⟨v181, T181, L181, X181, hQ181, st181⟩ := callSt X0 hx hZ (y := y_25) hown (ww hw 292 rfl) (ww hw 293 rfl) (ww hw 23 rfl) (ww hw 294 rfl) (by decide) (backOf (W := 0) (rmInf l Z a0 hw [] a1 a3 pd pn kA N1 kb pre cs fm h0 n0 (Nat.le_trans Z0 K0.1) hp0 hN1 hp2 hpd hn hlat hr hfm hp8 hp9 ne_a1_a3 hp11 hp12 hp13 O180) hZ (ww hw 294 rfl) (ww hw 23 rfl) (by decide) (by decide)) (g := (mkF m 6 #[sr a1, si 0, sr a3, si pd, si pn] [(.int pn), (.int pd), (.ref a3), (.int 0), (.ref a1)])) rfl (by rw [hml]; rfl) (kc := 0) (ks := 0) (argsL := [(.ref a1), (.int 0), (.ref a3), (.int pd), (.int pn)]) (rest := []) (lenOf pd_16 rfl) rfl (mr0 rfl) (hb hby d54_6) e0 (by decide) (by decide)
 obtain ⟨rfl, N181q, Kq181, q181_0⟩ := hQ181
 have N181 := Fr.app N0 N181q
 have K182 : Keep h0 T181.heap [a3] := K0.trans Kq181 (allS (P := fun x => x ∈ [a3] ∨ h0.size ≤ x) (Or.inl (List.mem_of_getElem? (i := 0) rfl)) all0)
 refine go (S' := T181.setTop (mkF m 9 #[sr a1, si 0, sr a3, si pd, si pn] [])) st181 ?_
 refine finV X181 hx hk hret (hb hby d54_9) (by decide) (by decide) ?_
 exact ⟨rfl, N181, K182, q181_0⟩
theorem d53_8 : dd jdk_68_method_11_code 8 (.aload_n 0) 1 := by decide +kernel
theorem d53_9 : dd jdk_68_method_11_code 9 (.getfield 15) 3 := by decide +kernel
theorem d53_12 : dd jdk_68_method_11_code 12 .arraylength 1 := by decide +kernel
theorem d53_13 : dd jdk_68_method_11_code 13 (.invokestatic 26) 3 := by decide +kernel
theorem d53_16 : dd jdk_68_method_11_code 16 (.astore_n 1) 1 := by decide +kernel
theorem d53_17 : dd jdk_68_method_11_code 17 (.aload_n 0) 1 := by decide +kernel
theorem d53_18 : dd jdk_68_method_11_code 18 (.getfield 15) 3 := by decide +kernel
theorem d53_21 : dd jdk_68_method_11_code 21 (.iconst 0) 1 := by decide +kernel
theorem d53_22 : dd jdk_68_method_11_code 22 (.aload_n 1) 1 := by decide +kernel
theorem d53_23 : dd jdk_68_method_11_code 23 (.iconst 0) 1 := by decide +kernel
theorem d53_24 : dd jdk_68_method_11_code 24 (.aload_n 0) 1 := by decide +kernel
theorem d53_25 : dd jdk_68_method_11_code 25 (.getfield 79) 3 := by decide +kernel
theorem d53_28 : dd jdk_68_method_11_code 28 (.invokestatic 125) 3 := by decide +kernel
theorem d53_31 : dd jdk_68_method_11_code 31 (.aload_n 0) 1 := by decide +kernel
theorem d53_32 : dd jdk_68_method_11_code 32 (.aload_n 1) 1 := by decide +kernel
theorem d53_33 : dd jdk_68_method_11_code 33 (.putfield 15) 3 := by decide +kernel
theorem d53_36 : dd jdk_68_method_11_code 36 (.aload_n 0) 1 := by decide +kernel
theorem d53_37 : dd jdk_68_method_11_code 37 (.iconst 1) 1 := by decide +kernel
theorem d53_38 : dd jdk_68_method_11_code 38 (.putfield 22) 3 := by decide +kernel
theorem d53_41 : dd jdk_68_method_11_code 41 .return_ 1 := by decide +kernel
theorem ef_rmIf0 (m : MethodId) (x1 : Addr) : entryFrame m #[(.ref x1)] 2 = mkF m 0 #[sr x1, un] [] := by first | (simp [entryFrame, mkF, argsToLocals, Value.category]; done) | rfl
def Q_rmIf0 (Z : State) (x1 : Addr) (tv : Addr) (kb : ClassId) (cs : List Int32) (G1 : Int32) (fm : Value) (h0 : Heap) (n0 : Nat) (v : Option Value) (h : Heap) (L : List Loc) : Prop := ∃ (t2 : Addr), ∃ (k2 : ClassId), v = none ∧ Fr n0 L ∧ Keep h0 h [x1] ∧ (h0.size ≤ t2) ∧ (Fld Z h x1 "java/lang/AbstractStringBuilder" "value" "[B" (.ref t2)) ∧ (Fld Z h x1 "java/lang/AbstractStringBuilder" "coder" "B" (.int 1)) ∧ (Fld Z h x1 "java/lang/AbstractStringBuilder" "count" "I" (.int (Int32.ofNat cs.length))) ∧ (Fld Z h x1 "java/lang/AbstractStringBuilder" "maybeLatin1" "Z" (.int 0)) ∧ (Arv Z h t2 k2 .byte (Int32.ofNat (2 * 16)) (StrChars.Road.wideBytes cs) (.int 0))
set_option maxRecDepth 65536 in
set_option maxHeartbeats 40000000 in
theorem rmIf0 (l : Launch) (Z : State) (a0 : Array Value) (hw : ∀ d ∈ tables_1, d.before a0 Z = true) (ws : List Jvm.Cond) (x1 : Addr) (tv : Addr) (kb : ClassId) (cs : List Int32) (G1 : Int32) (fm : Value) (h0 : Heap) (n0 : Nat) (Z0 : n0 ≤ h0.size) (hp0 : Exa Z h0 x1 "java/lang/StringBuilder") (hp1 : Fld Z h0 x1 "java/lang/AbstractStringBuilder" "value" "[B" (.ref tv)) (hp2 : Fld Z h0 x1 "java/lang/AbstractStringBuilder" "coder" "B" (.int 0)) (hp3 : Fld Z h0 x1 "java/lang/AbstractStringBuilder" "count" "I" (.int (Int32.ofNat cs.length))) (hp4 : Fld Z h0 x1 "java/lang/AbstractStringBuilder" "maybeLatin1" "Z" (.int 0)) (hp5 : Arv Z h0 tv kb .byte (16 : Int32) (cs.map fun c => Value.int (StrChars.lo8 c)) (.int 0)) (hlat : ∀ c ∈ cs, ¬ c < 0 ∧ ¬ (255 : Int32) < c) (hr : cs.length ≤ 16) (hp8 : n0 ≤ x1) (hfm : fm.isRef = true) (hp10 : Sta Z Z.heap "jdk/internal/util/Preconditions" "SIOOBE_FORMATTER" "Ljava/util/function/BiFunction;" fm) (hp11 : Sta Z Z.heap "java/lang/String" "COMPACT_STRINGS" "Z" (.int G1)) (hG1 : ¬ (G1 = (0 : Int32))) (hp13 : Sta Z Z.heap "java/lang/StringUTF16" "$assertionsDisabled" "Z" (.int 1)) (hp14 : Sta Z Z.heap "java/lang/StringUTF16" "HI_BYTE_SHIFT" "I" (.int 0)) (hp15 : Sta Z Z.heap "java/lang/StringUTF16" "LO_BYTE_SHIFT" "I" (.int 8)) (hp16 : Old Z n0 h0) :
    MetFree l y_21 (head1 (Jvm.Cond.code y_21 jdk_68_method_11_code 2 none :: ws) ({ frames := 5, cells := 1, slots := 32, locals := 76 } : Room)) (fun a U => a = #[(.ref x1)] ∧ Z.Warmed39 U.vm ∧ U.heap = h0) (fun _ _ _ _ _ => True) (fun _ U o U' => ∃ v L, o = .returned v ∧ Q_rmIf0 Z x1 tv kb cs G1 fm h0 n0 v U'.heap L ∧ FrameEnd U o U' L ({ frames := 5, cells := 1, slots := 32, locals := 76 } : Room).cells ({ frames := 5, cells := 1, slots := 32, locals := 76 } : Room).slots) := by
 refine bodyOf pn_21 (fun m => ef_rmIf0 m x1) ?_
 intro p e s m below meth c T0 X0 hx hby hml hown hnm hret hk hZ e0
 have N0 := Fr.nil n0
 have K0 : Keep h0 h0 [x1] := Keep.refl _ _
 have O0 := hp16
 refine go (S' := T0.setTop (mkF m 1 #[sr x1, un] [(.ref x1)])) (fun t k => XS.aloadN X0.here hx rfl (hb hby d53_0) rfl rfl k) ?_
 have O183 : Old Z n0 h0 := O0.keep K0 (allS hp8 all0)
 obtain ⟨v184, T184, L184, X184, hQ184, st184⟩ := callV X0 hx hZ (y := y_20) (z := y_20) hown (ww hw 287 rfl) (ww hw 138 rfl) (notFace_of_selects (args := #[]) (mvT hZ (ww hw 140 rfl))) (ww hw 140 rfl) (ww hw 139 rfl) (by decide) (backOf (W := 0) (rmIl0 l Z a0 hw [] x1 G1 h0 n0 (Nat.le_trans Z0 K0.1) hp2 hp11 hG1 O183) hZ (ww hw 141 rfl) (ww hw 55 rfl) (by decide) (by decide)) hp0 (g := (mkF m 1 #[sr x1, un] [(.ref x1)])) rfl (by rw [hml]; rfl) (kc := 0) (ks := 0) (argsL := []) (rest := []) (lenOf pd_12 rfl) rfl (mr0 rfl) (hb hby d53_1) e0 (by decide) (by decide)
 obtain ⟨rfl, N184q, e184⟩ := hQ184
 have N184 := Fr.app N0 N184q
 refine go (S' := T184.setTop (mkF m 4 #[sr x1, un] [(.int 1)])) st184 ?_
 have hc185 : ¬ ((1 : Int32) = (0 : Int32)) := by decide
 refine go (S' := T184.setTop (mkF m 9 #[sr x1, un] [(.ref x1)])) (fun t k => XS.ifYes X184.here hx rfl (pc0 := 4) (pc' := 8) rfl (hb hby d53_4) rfl ((if0 _ _).trans (feq hc185).2) (by decide) (by decide) (XS.aloadN X184.here hx rfl (hb hby d53_8) rfl rfl k)) ?_
 obtain ⟨T186, X186, e186, st186⟩ := getF X184 hx hZ hown (host := "") (Or.inl (ww hw 59 rfl)) Via.refl e184 hp1 (g := (mkF m 9 #[sr x1, un] [(.ref x1)])) rfl rfl (hb hby d53_9)
 refine go (S' := T186.setTop (mkF m 12 #[sr x1, un] [(.ref tv)])) st186 ?_
 obtain ⟨cl187, Ar187, -, S187, M187, -, -⟩ := id hp5
 refine go (S' := T186.setTop (mkF m 13 #[sr x1, un] [(.int 16)])) (fun t k => X186.arraylength hx (by rw [e186]; exact Ar187.1) (State.isArrayOf_alike hZ.alike Ar187.2.1) (g := (mkF m 12 #[sr x1, un] [(.ref tv)])) rfl rfl (hb hby d53_12) _ (by rw [len_of S187 M187]; exact k)) ?_
 obtain ⟨v188, T188, L188, X188, hQ188, st188⟩ := callSt X186 hx hZ (y := y_2) hown (ww hw 288 rfl) (ww hw 273 rfl) (ww hw 23 rfl) (ww hw 274 rfl) (by decide) (backOf (W := 0) (rmNbf l Z a0 hw [] (16 : Int32) 16 h0 n0 (Nat.le_trans Z0 K0.1) rfl (by decide)) hZ (ww hw 274 rfl) (ww hw 23 rfl) (by decide) (by decide)) (g := (mkF m 13 #[sr x1, un] [(.int 16)])) rfl (by rw [hml]; rfl) (kc := 1) (ks := 32) (argsL := [(.int 16)]) (rest := []) (lenOf pd_1 rfl) rfl (mr0 rfl) (hb hby d53_13) e186 (by decide) (by decide)
 obtain ⟨t_188, kb_188, rfl, N188q, Kq188, q188_0, q188_1⟩ := hQ188
 have N188 := Fr.app N184 N188q
 have K189 : Keep h0 T188.heap [x1] := K0.trans Kq188 all0
 have lt_x1_t_188 : x1 < t_188 := Nat.lt_of_lt_of_le hp0.lt q188_0
 have lt_tv_t_188 : tv < t_188 := Nat.lt_of_lt_of_le hp5.lt q188_0
 have sz_t_188 : h0.size ≤ t_188 := Nat.le_trans K0.1 q188_0
 have ge_t_188 : n0 ≤ t_188 := Nat.le_trans Z0 sz_t_188
 refine go (S' := T188.setTop (mkF m 18 #[sr x1, sr t_188] [(.ref x1)])) (fun t k => st188 _ (XS.astoreN X188.here hx rfl (hb hby d53_16) rfl rfl (l' := #[sr x1, sr t_188]) rfl (XS.aloadN X188.here hx rfl (hb hby d53_17) rfl rfl k))) ?_
 have f190 : Fld Z T188.heap x1 "java/lang/AbstractStringBuilder" "value" "[B" (.ref tv) := (hp1.keep Kq188 nin0)
 obtain ⟨T191, X191, e191, st191⟩ := getF X188 hx hZ hown (host := "") (Or.inl (ww hw 59 rfl)) Via.refl rfl f190 (g := (mkF m 18 #[sr x1, sr t_188] [(.ref x1)])) rfl rfl (hb hby d53_18)
 refine go (S' := T191.setTop (mkF m 25 #[sr x1, sr t_188] [(.ref x1), (.int 0), (.ref t_188), (.int 0), (.ref tv)])) (fun t k => st191 _ (XS.iconst X191.here hx rfl (hb hby d53_21) (XS.aloadN X191.here hx rfl (hb hby d53_22) rfl rfl (XS.iconst X191.here hx rfl (hb hby d53_23) (XS.aloadN X191.here hx rfl (hb hby d53_24) rfl rfl k))))) ?_
 have f192 : Fld Z T188.heap x1 "java/lang/AbstractStringBuilder" "count" "I" (.int (Int32.ofNat cs.length)) := (hp3.keep Kq188 nin0)
 obtain ⟨T193, X193, e193, st193⟩ := getF X191 hx hZ hown (host := "") (Or.inl (ww hw 83 rfl)) Via.refl e191 f192 (g := (mkF m 25 #[sr x1, sr t_188] [(.ref x1), (.int 0), (.ref t_188), (.int 0), (.ref tv)])) rfl rfl (hb hby d53_25)
 refine go (S' := T193.setTop (mkF m 28 #[sr x1, sr t_188] [(.int (Int32.ofNat cs.length)), (.int 0), (.ref t_188), (.int 0), (.ref tv)])) st193 ?_
 have f194 : Arv Z T188.heap tv kb .byte (16 : Int32) (cs.map fun c => Value.int (StrChars.lo8 c)) (.int 0) := (hp5.keep Kq188 nin0)
 have O195 : Old Z n0 T188.heap := O0.keep K189 (allS hp8 all0)
 obtain ⟨v196, T196, L196, X196, hQ196, st196⟩ := callSt X193 hx hZ (y := y_26) hown (ww hw 289 rfl) (ww hw 290 rfl) (ww hw 237 rfl) (ww hw 291 rfl) (by decide) (backOf (W := 0) (rmLin l Z a0 hw [] tv t_188 (0 : Int32) (Int32.ofNat cs.length) kb (16 : Int32) kb_188 ([] : List Int32) cs fm T188.heap n0 (Nat.le_trans Z0 K189.1) f194 (by have q : (16 : Int32).toNatClampNeg = 16 := rfl; omega) q188_1 rfl rfl hlat (by rw [List.length_nil]; omega) hfm hp10 ge_t_188 (Nat.ne_of_lt lt_tv_t_188) hp13 hp14 hp15 O195) hZ (ww hw 291 rfl) (ww hw 237 rfl) (by decide) (by decide)) (g := (mkF m 28 #[sr x1, sr t_188] [(.int (Int32.ofNat cs.length)), (.int 0), (.ref t_188), (.int 0), (.ref tv)])) rfl (by rw [hml]; rfl) (kc := 0) (ks := 0) (argsL := [(.ref tv), (.int 0), (.ref t_188), (.int 0), (.int (Int32.ofNat cs.length))]) (rest := []) (lenOf pd_16 rfl) rfl (mr0 rfl) (hb hby d53_28) e193 (by decide) (by decide)
 obtain ⟨rfl, N196q, Kq196, q196_0⟩ := hQ196
 have N196 := Fr.app N188 N196q
 have K197 : Keep h0 T196.heap [x1] := K189.trans Kq196 (allS (P := fun x => x ∈ [x1] ∨ h0.size ≤ x) (Or.inr sz_t_188) all0)
 refine go (S' := T196.setTop (mkF m 33 #[sr x1, sr t_188] [(.ref t_188), (.ref x1)])) (fun t k => st196 _ (XS.aloadN X196.here hx rfl (hb hby d53_31) rfl rfl (XS.aloadN X196.here hx rfl (hb hby d53_32) rfl rfl k))) ?_
 have f198 : Fld Z T196.heap x1 "java/lang/AbstractStringBuilder" "value" "[B" (.ref tv) := (f190.keep Kq196 (ninS (Nat.ne_of_lt lt_x1_t_188) nin0))
 obtain ⟨T199, h199, X199, e199, W199, st199⟩ := putF X196 hx hZ hown (host := "") (Or.inl (ww hw 59 rfl)) Via.refl rfl f198 (hp0.keep K197) (Or.inl (ww hw 60 rfl)) (ww hw 46 rfl) (ty := (.array .byte)) (by decide) rfl rfl (g := (mkF m 33 #[sr x1, sr t_188] [(.ref t_188), (.ref x1)])) rfl rfl (hb hby d53_33)
 have K200 : Keep h0 h199 [x1] := K197.wr W199 (Or.inl (List.mem_of_getElem? (i := 0) rfl))
 have N201 := Fr.snoc X199 N196 hp8
 have f202 : Fld Z h199 x1 "java/lang/AbstractStringBuilder" "value" "[B" (.ref t_188) := (Fld.same W199 f198)
 refine go (S' := T199.setTop (mkF m 38 #[sr x1, sr t_188] [(.int 1), (.ref x1)])) (fun t k => st199 _ (XS.aloadN X199.here hx rfl (hb hby d53_36) rfl rfl (XS.iconst X199.here hx rfl (hb hby d53_37) k))) ?_
 have f203 : Fld Z h199 x1 "java/lang/AbstractStringBuilder" "coder" "B" (.int 0) := (Fld.other W199 ((hp2.keep Kq188 nin0).keep Kq196 (ninS (Nat.ne_of_lt lt_x1_t_188) nin0)) (Or.inr (slot_ne (Or.inl (ww hw 62 rfl)) (Or.inl (ww hw 60 rfl)) (by decide) (t := .byte) (t' := (.array .byte)) (by decide) (by decide))))
 obtain ⟨T204, h204, X204, e204, W204, st204⟩ := putF X199 hx hZ hown (host := "") (Or.inl (ww hw 61 rfl)) Via.refl e199 f203 (hp0.keep K200) (Or.inl (ww hw 62 rfl)) (ww hw 46 rfl) (ty := .byte) (by decide) (by decide) (by decide) (g := (mkF m 38 #[sr x1, sr t_188] [(.int 1), (.ref x1)])) rfl rfl (hb hby d53_38)
 have K205 : Keep h0 h204 [x1] := K200.wr W204 (Or.inl (List.mem_of_getElem? (i := 0) rfl))
 have N206 := Fr.snoc X204 N201 hp8
 have f207 : Fld Z h204 x1 "java/lang/AbstractStringBuilder" "coder" "B" (.int 1) := (Fld.same W204 f203)
 refine go (S' := T204.setTop (mkF m 41 #[sr x1, sr t_188] [])) st204 ?_
 refine finV X204 hx hk hret (hb hby d53_41) (by decide) (by decide) ?_
 have f208 : Fld Z h204 x1 "java/lang/AbstractStringBuilder" "value" "[B" (.ref t_188) := (Fld.other W204 f202 (Or.inr (slot_ne (Or.inl (ww hw 60 rfl)) (Or.inl (ww hw 62 rfl)) (by decide) (t := (.array .byte)) (t' := .byte) (by decide) (by decide))))
 have f209 : Fld Z h204 x1 "java/lang/AbstractStringBuilder" "count" "I" (.int (Int32.ofNat cs.length)) := (Fld.other W204 (Fld.other W199 (f192.keep Kq196 (ninS (Nat.ne_of_lt lt_x1_t_188) nin0)) (Or.inr (slot_ne (Or.inl (ww hw 84 rfl)) (Or.inl (ww hw 60 rfl)) (by decide) (t := .int) (t' := (.array .byte)) (by decide) (by decide)))) (Or.inr (slot_ne (Or.inl (ww hw 84 rfl)) (Or.inl (ww hw 62 rfl)) (by decide) (t := .int) (t' := .byte) (by decide) (by decide))))
 have f210 : Fld Z h204 x1 "java/lang/AbstractStringBuilder" "maybeLatin1" "Z" (.int 0) := (Fld.other W204 (Fld.other W199 ((hp4.keep Kq188 nin0).keep Kq196 (ninS (Nat.ne_of_lt lt_x1_t_188) nin0)) (Or.inr (slot_ne (Or.inl (ww hw 309 rfl)) (Or.inl (ww hw 60 rfl)) (by decide) (t := .boolean) (t' := (.array .byte)) (by decide) (by decide)))) (Or.inr (slot_ne (Or.inl (ww hw 309 rfl)) (Or.inl (ww hw 62 rfl)) (by decide) (t := .boolean) (t' := .byte) (by decide) (by decide))))
 have f211 : Arv Z h204 t_188 kb_188 .byte (Int32.ofNat (2 * 16)) (StrChars.Road.wideBytes (([] : List Int32) ++ cs)) (.int 0) := ((q196_0.other W199 (Nat.ne_of_gt lt_x1_t_188)).other W204 (Nat.ne_of_gt lt_x1_t_188))
 rw [e204]
 exact ⟨t_188, kb_188, rfl, N206, K205, sz_t_188, f208, f207, f209, f210, f211⟩
theorem d17_0 : dd jdk_68_method_71_code 0 (.getstatic 18) 3 := by decide +kernel
theorem d17_3 : dd jdk_68_method_71_code 3 (.ifCond .eq 18) 3 := by decide +kernel
theorem d17_6 : dd jdk_68_method_71_code 6 (.aload_n 0) 1 := by decide +kernel
theorem d17_7 : dd jdk_68_method_71_code 7 (.getfield 22) 3 := by decide +kernel
theorem d17_10 : dd jdk_68_method_71_code 10 (.aload_n 1) 1 := by decide +kernel
theorem d17_11 : dd jdk_68_method_71_code 11 (.invokevirtual 40) 3 := by decide +kernel
theorem pd_17 : parseMethodDescriptor "()B" = some ⟨[], some .byte⟩ := by decide +kernel
theorem d17_14 : dd jdk_68_method_71_code 14 (.if_icmp .eq 7) 3 := by decide +kernel
theorem d17_21 : dd jdk_68_method_71_code 21 .return_ 1 := by decide +kernel
abbrev y_27 : MethodName := ⟨"java/lang/AbstractStringBuilder", "inflateIfNeededFor", "(Ljava/lang/String;)V"⟩
theorem pn_27 : plainFor y_27 = true := by first | exact plainFor_of_name (by first | (simp [plainName, overriddenIn]; done) | decide +kernel) | decide +kernel
theorem ef_rmNn00 (m : MethodId) (x1 : Addr) (x2 : Addr) : entryFrame m #[(.ref x1), (.ref x2)] 2 = mkF m 0 #[sr x1, sr x2] [] := by first | (simp [entryFrame, mkF, argsToLocals, Value.category]; done) | rfl
def Q_rmNn00 (Z : State) (x1 : Addr) (x2 : Addr) (t2 : Addr) (cs2 : List Int32) (G1 : Int32) (h0 : Heap) (n0 : Nat) (v : Option Value) (h : Heap) (L : List Loc) : Prop := v = none ∧ Fr n0 L ∧ h = h0
set_option maxRecDepth 65536 in
set_option maxHeartbeats 40000000 in
theorem rmNn00 (l : Launch) (Z : State) (a0 : Array Value) (hw : ∀ d ∈ tables_1, d.before a0 Z = true) (ws : List Jvm.Cond) (x1 : Addr) (x2 : Addr) (t2 : Addr) (cs2 : List Int32) (G1 : Int32) (h0 : Heap) (n0 : Nat) (Z0 : n0 ≤ h0.size) (hp0 : Exa Z h0 x1 "java/lang/StringBuilder") (hp1 : Fld Z h0 x1 "java/lang/AbstractStringBuilder" "coder" "B" (.int 0)) (hp2 : Str Z h0 x2 t2 (0 : Int32) cs2) (hp3 : Sta Z Z.heap "java/lang/String" "COMPACT_STRINGS" "Z" (.int G1)) (hG1 : ¬ (G1 = (0 : Int32))) (hp5 : Old Z n0 h0) :
    MetFree l y_27 (head1 (Jvm.Cond.code y_27 jdk_68_method_71_code 2 none :: ws) ({ frames := 1, cells := 0, slots := 0, locals := 13 } : Room)) (fun a U => a = #[(.ref x1), (.ref x2)] ∧ Z.Warmed39 U.vm ∧ U.heap = h0) (fun _ _ _ _ _ => True) (fun _ U o U' => ∃ v L, o = .returned v ∧ Q_rmNn00 Z x1 x2 t2 cs2 G1 h0 n0 v U'.heap L ∧ FrameEnd U o U' L ({ frames := 1, cells := 0, slots := 0, locals := 13 } : Room).cells ({ frames := 1, cells := 0, slots := 0, locals := 13 } : Room).slots) := by
 refine bodyOf pn_27 (fun m => ef_rmNn00 m x1 x2) ?_
 intro p e s m below meth c T0 X0 hx hby hml hown hnm hret hk hZ e0
 have N0 := Fr.nil n0
 have K0 : Keep h0 h0 [] := Keep.refl _ _
 have O0 := hp5
 have O213 : Old Z n0 h0 := O0.keep K0 all0
 obtain ⟨T212, X212, e212, st212⟩ := getS2 X0 hx hZ hown (host := "") (Or.inl (ww hw 58 rfl)) Via.refl e0 (hp3.ext O213.2) (g := (mkF m 0 #[sr x1, sr x2] [])) rfl (hb hby d17_0)
 refine go (S' := T212.setTop (mkF m 7 #[sr x1, sr x2] [(.ref x1)])) (fun t k => st212 _ (XS.ifNo X212.here hx rfl (hb hby d17_3) rfl ((if0 _ _).trans (feq hG1).1) (XS.aloadN X212.here hx rfl (hb hby d17_6) rfl rfl k))) ?_
 obtain ⟨T214, X214, e214, st214⟩ := getF X212 hx hZ hown (host := "") (Or.inl (ww hw 61 rfl)) Via.refl e212 hp1 (g := (mkF m 7 #[sr x1, sr x2] [(.ref x1)])) rfl rfl (hb hby d17_7)
 refine go (S' := T214.setTop (mkF m 11 #[sr x1, sr x2] [(.ref x2), (.int 0)])) (fun t k => st214 _ (XS.aloadN X214.here hx rfl (hb hby d17_10) rfl rfl k)) ?_
 obtain ⟨v215, T215, L215, X215, hQ215, st215⟩ := callV X214 hx hZ (y := y_18) (z := y_18) hown (ww hw 100 rfl) (ww hw 79 rfl) (notFace_of_selects (args := #[]) (mvT hZ (ww hw 81 rfl))) (ww hw 81 rfl) (ww hw 80 rfl) (by decide) (backOf (W := 1) (rmCod0 l Z a0 hw [] x2 G1 h0 n0 (Nat.le_trans Z0 K0.1) hp2.cod hp3 hG1 O213) hZ (ww hw 82 rfl) (ww hw 8 rfl) (by decide) (by decide)) hp2.exa (g := (mkF m 11 #[sr x1, sr x2] [(.ref x2), (.int 0)])) rfl (by rw [hml]; rfl) (kc := 0) (ks := 0) (argsL := []) (rest := [(.int 0)]) (lenOf pd_17 rfl) rfl (mr0 rfl) (hb hby d17_11) e214 (by decide) (by decide)
 obtain ⟨rfl, N215q, e215⟩ := hQ215
 have N215 := Fr.app N0 N215q
 refine go (S' := T215.setTop (mkF m 14 #[sr x1, sr x2] [(.int 0), (.int 0)])) st215 ?_
 have hc216 : (0 : Int32) = (0 : Int32) := by decide
 refine go (S' := T215.setTop (mkF m 21 #[sr x1, sr x2] [])) (fun t k => XS.icmpYes X215.here hx rfl (pc0 := 14) (pc' := 21) rfl (hb hby d17_14) rfl (teq hc216).1 (by decide) (by decide) k) ?_
 refine finV X215 hx hk hret (hb hby d17_21) (by decide) (by decide) ?_
 rw [e215]
 exact ⟨rfl, N215, rfl⟩
theorem d17_17 : dd jdk_68_method_71_code 17 (.aload_n 0) 1 := by decide +kernel
theorem d17_18 : dd jdk_68_method_71_code 18 (.invokevirtual 195) 3 := by decide +kernel
theorem pd_18 : parseMethodDescriptor "()V" = some ⟨[], none⟩ := by decide +kernel
theorem ef_rmNn01 (m : MethodId) (x1 : Addr) (x2 : Addr) : entryFrame m #[(.ref x1), (.ref x2)] 2 = mkF m 0 #[sr x1, sr x2] [] := by first | (simp [entryFrame, mkF, argsToLocals, Value.category]; done) | rfl
def Q_rmNn01 (Z : State) (x1 : Addr) (x2 : Addr) (tv : Addr) (kb : ClassId) (pre : List Int32) (t2 : Addr) (cs2 : List Int32) (G1 : Int32) (fm : Value) (h0 : Heap) (n0 : Nat) (v : Option Value) (h : Heap) (L : List Loc) : Prop := ∃ (t3 : Addr), ∃ (k3 : ClassId), v = none ∧ Fr n0 L ∧ Keep h0 h [x1] ∧ (h0.size ≤ t3) ∧ (Fld Z h x1 "java/lang/AbstractStringBuilder" "value" "[B" (.ref t3)) ∧ (Fld Z h x1 "java/lang/AbstractStringBuilder" "coder" "B" (.int 1)) ∧ (Fld Z h x1 "java/lang/AbstractStringBuilder" "count" "I" (.int (Int32.ofNat pre.length))) ∧ (Fld Z h x1 "java/lang/AbstractStringBuilder" "maybeLatin1" "Z" (.int 0)) ∧ (Arv Z h t3 k3 .byte (Int32.ofNat (2 * 16)) (StrChars.Road.wideBytes pre) (.int 0))
set_option maxRecDepth 65536 in
set_option maxHeartbeats 40000000 in
theorem rmNn01 (l : Launch) (Z : State) (a0 : Array Value) (hw : ∀ d ∈ tables_1, d.before a0 Z = true) (ws : List Jvm.Cond) (x1 : Addr) (x2 : Addr) (tv : Addr) (kb : ClassId) (pre : List Int32) (t2 : Addr) (cs2 : List Int32) (G1 : Int32) (fm : Value) (h0 : Heap) (n0 : Nat) (Z0 : n0 ≤ h0.size) (hp0 : Exa Z h0 x1 "java/lang/StringBuilder") (hp1 : Fld Z h0 x1 "java/lang/AbstractStringBuilder" "value" "[B" (.ref tv)) (hp2 : Fld Z h0 x1 "java/lang/AbstractStringBuilder" "coder" "B" (.int 0)) (hp3 : Fld Z h0 x1 "java/lang/AbstractStringBuilder" "count" "I" (.int (Int32.ofNat pre.length))) (hp4 : Fld Z h0 x1 "java/lang/AbstractStringBuilder" "maybeLatin1" "Z" (.int 0)) (hp5 : Arv Z h0 tv kb .byte (16 : Int32) (pre.map fun c => Value.int (StrChars.lo8 c)) (.int 0)) (hp6 : Str Z h0 x2 t2 (1 : Int32) cs2) (hlat : ∀ c ∈ pre, ¬ c < 0 ∧ ¬ (255 : Int32) < c) (hr : pre.length ≤ 16) (hp9 : n0 ≤ x1) (hfm : fm.isRef = true) (hp11 : Sta Z Z.heap "jdk/internal/util/Preconditions" "SIOOBE_FORMATTER" "Ljava/util/function/BiFunction;" fm) (hp12 : Sta Z Z.heap "java/lang/String" "COMPACT_STRINGS" "Z" (.int G1)) (hG1 : ¬ (G1 = (0 : Int32))) (hp14 : Sta Z Z.heap "java/lang/StringUTF16" "$assertionsDisabled" "Z" (.int 1)) (hp15 : Sta Z Z.heap "java/lang/StringUTF16" "HI_BYTE_SHIFT" "I" (.int 0)) (hp16 : Sta Z Z.heap "java/lang/StringUTF16" "LO_BYTE_SHIFT" "I" (.int 8)) (hp17 : Old Z n0 h0) :
    MetFree l y_27 (head1 (Jvm.Cond.code y_27 jdk_68_method_71_code 2 none :: ws) ({ frames := 6, cells := 1, slots := 32, locals := 89 } : Room)) (fun a U => a = #[(.ref x1), (.ref x2)] ∧ Z.Warmed39 U.vm ∧ U.heap = h0) (fun _ _ _ _ _ => True) (fun _ U o U' => ∃ v L, o = .returned v ∧ Q_rmNn01 Z x1 x2 tv kb pre t2 cs2 G1 fm h0 n0 v U'.heap L ∧ FrameEnd U o U' L ({ frames := 6, cells := 1, slots := 32, locals := 89 } : Room).cells ({ frames := 6, cells := 1, slots := 32, locals := 89 } : Room).slots) := by
 refine bodyOf pn_27 (fun m => ef_rmNn01 m x1 x2) ?_
 intro p e s m below meth c T0 X0 hx hby hml hown hnm hret hk hZ e0
 have N0 := Fr.nil n0
 have K0 : Keep h0 h0 [x1] := Keep.refl _ _
 have O0 := hp17
 have O218 : Old Z n0 h0 := O0.keep K0 (allS hp9 all0)
 obtain ⟨T217, X217, e217, st217⟩ := getS2 X0 hx hZ hown (host := "") (Or.inl (ww hw 58 rfl)) Via.refl e0 (hp12.ext O218.2) (g := (mkF m 0 #[sr x1, sr x2] [])) rfl (hb hby d17_0)
 refine go (S' := T217.setTop (mkF m 7 #[sr x1, sr x2] [(.ref x1)])) (fun t k => st217 _ (XS.ifNo X217.here hx rfl (hb hby d17_3) rfl ((if0 _ _).trans (feq hG1).1) (XS.aloadN X217.here hx rfl (hb hby d17_6) rfl rfl k))) ?_
 obtain ⟨T219, X219, e219, st219⟩ := getF X217 hx hZ hown (host := "") (Or.inl (ww hw 61 rfl)) Via.refl e217 hp2 (g := (mkF m 7 #[sr x1, sr x2] [(.ref x1)])) rfl rfl (hb hby d17_7)
 refine go (S' := T219.setTop (mkF m 11 #[sr x1, sr x2] [(.ref x2), (.int 0)])) (fun t k => st219 _ (XS.aloadN X219.here hx rfl (hb hby d17_10) rfl rfl k)) ?_
 obtain ⟨v220, T220, L220, X220, hQ220, st220⟩ := callV X219 hx hZ (y := y_18) (z := y_18) hown (ww hw 100 rfl) (ww hw 79 rfl) (notFace_of_selects (args := #[]) (mvT hZ (ww hw 81 rfl))) (ww hw 81 rfl) (ww hw 80 rfl) (by decide) (backOf (W := 1) (rmCod1 l Z a0 hw [] x2 G1 h0 n0 (Nat.le_trans Z0 K0.1) hp6.cod hp12 hG1 O218) hZ (ww hw 82 rfl) (ww hw 8 rfl) (by decide) (by decide)) hp6.exa (g := (mkF m 11 #[sr x1, sr x2] [(.ref x2), (.int 0)])) rfl (by rw [hml]; rfl) (kc := 0) (ks := 0) (argsL := []) (rest := [(.int 0)]) (lenOf pd_17 rfl) rfl (mr0 rfl) (hb hby d17_11) e219 (by decide) (by decide)
 obtain ⟨rfl, N220q, e220⟩ := hQ220
 have N220 := Fr.app N0 N220q
 refine go (S' := T220.setTop (mkF m 14 #[sr x1, sr x2] [(.int 1), (.int 0)])) st220 ?_
 have hc221 : ¬ ((0 : Int32) = (1 : Int32)) := by decide
 refine go (S' := T220.setTop (mkF m 18 #[sr x1, sr x2] [(.ref x1)])) (fun t k => XS.icmpNo X220.here hx rfl (hb hby d17_14) rfl (feq hc221).1 (XS.aloadN X220.here hx rfl (hb hby d17_17) rfl rfl k)) ?_
 obtain ⟨v222, T222, L222, X222, hQ222, st222⟩ := callVp X220 hx hZ (y := y_21) hown (ww hw 282 rfl) (ww hw 283 rfl) (ww hw 285 rfl) (ww hw 286 rfl) (by decide) (backOf (W := 0) (rmIf0 l Z a0 hw [] x1 tv kb pre G1 fm h0 n0 (Nat.le_trans Z0 K0.1) hp0 hp1 hp2 hp3 hp4 hp5 hlat hr hp9 hfm hp11 hp12 hG1 hp14 hp15 hp16 O218) hZ (ww hw 286 rfl) (ww hw 55 rfl) (by decide) (by decide)) hp0 (g := (mkF m 18 #[sr x1, sr x2] [(.ref x1)])) rfl (by rw [hml]; rfl) (kc := 1) (ks := 32) (argsL := []) (rest := []) (lenOf pd_18 rfl) rfl (mr0 rfl) (hb hby d17_18) e220 (by decide) (by decide)
 obtain ⟨t2_222, k2_222, rfl, N222q, Kq222, q222_0, q222_1, q222_2, q222_3, q222_4, q222_5⟩ := hQ222
 have N222 := Fr.app N220 N222q
 have K223 : Keep h0 T222.heap [x1] := K0.trans Kq222 (allS (P := fun x => x ∈ [x1] ∨ h0.size ≤ x) (Or.inl (List.mem_of_getElem? (i := 0) rfl)) all0)
 have lt_x1_t2_222 : x1 < t2_222 := Nat.lt_of_lt_of_le hp0.lt q222_0
 have lt_tv_t2_222 : tv < t2_222 := Nat.lt_of_lt_of_le hp5.lt q222_0
 have lt_x2_t2_222 : x2 < t2_222 := Nat.lt_of_lt_of_le hp6.lt1 q222_0
 have lt_t2_t2_222 : t2 < t2_222 := Nat.lt_of_lt_of_le hp6.lt2 q222_0
 have sz_t2_222 : h0.size ≤ t2_222 := Nat.le_trans K0.1 q222_0
 have ge_t2_222 : n0 ≤ t2_222 := Nat.le_trans Z0 sz_t2_222
 refine go (S' := T222.setTop (mkF m 21 #[sr x1, sr x2] [])) st222 ?_
 refine finV X222 hx hk hret (hb hby d17_21) (by decide) (by decide) ?_
 exact ⟨t2_222, k2_222, rfl, N222, K223, sz_t2_222, q222_1, q222_2, q222_3, q222_4, q222_5⟩
theorem ef_rmNn10 (m : MethodId) (x1 : Addr) (x2 : Addr) : entryFrame m #[(.ref x1), (.ref x2)] 2 = mkF m 0 #[sr x1, sr x2] [] := by first | (simp [entryFrame, mkF, argsToLocals, Value.category]; done) | rfl
def Q_rmNn10 (Z : State) (x1 : Addr) (x2 : Addr) (t2 : Addr) (cs2 : List Int32) (G1 : Int32) (h0 : Heap) (n0 : Nat) (v : Option Value) (h : Heap) (L : List Loc) : Prop := v = none ∧ Fr n0 L ∧ h = h0
set_option maxRecDepth 65536 in
set_option maxHeartbeats 40000000 in
theorem rmNn10 (l : Launch) (Z : State) (a0 : Array Value) (hw : ∀ d ∈ tables_1, d.before a0 Z = true) (ws : List Jvm.Cond) (x1 : Addr) (x2 : Addr) (t2 : Addr) (cs2 : List Int32) (G1 : Int32) (h0 : Heap) (n0 : Nat) (Z0 : n0 ≤ h0.size) (hp0 : Exa Z h0 x1 "java/lang/StringBuilder") (hp1 : Fld Z h0 x1 "java/lang/AbstractStringBuilder" "coder" "B" (.int 1)) (hp2 : Str Z h0 x2 t2 (0 : Int32) cs2) (hp3 : Sta Z Z.heap "java/lang/String" "COMPACT_STRINGS" "Z" (.int G1)) (hG1 : ¬ (G1 = (0 : Int32))) (hp5 : Old Z n0 h0) :
    MetFree l y_27 (head1 (Jvm.Cond.code y_27 jdk_68_method_71_code 2 none :: ws) ({ frames := 2, cells := 0, slots := 0, locals := 25 } : Room)) (fun a U => a = #[(.ref x1), (.ref x2)] ∧ Z.Warmed39 U.vm ∧ U.heap = h0) (fun _ _ _ _ _ => True) (fun _ U o U' => ∃ v L, o = .returned v ∧ Q_rmNn10 Z x1 x2 t2 cs2 G1 h0 n0 v U'.heap L ∧ FrameEnd U o U' L ({ frames := 2, cells := 0, slots := 0, locals := 25 } : Room).cells ({ frames := 2, cells := 0, slots := 0, locals := 25 } : Room).slots) := by
 refine bodyOf pn_27 (fun m => ef_rmNn10 m x1 x2) ?_
 intro p e s m below meth c T0 X0 hx hby hml hown hnm hret hk hZ e0
 have N0 := Fr.nil n0
 have K0 : Keep h0 h0 [] := Keep.refl _ _
 have O0 := hp5
 have O225 : Old Z n0 h0 := O0.keep K0 all0
 obtain ⟨T224, X224, e224, st224⟩ := getS2 X0 hx hZ hown (host := "") (Or.inl (ww hw 58 rfl)) Via.refl e0 (hp3.ext O225.2) (g := (mkF m 0 #[sr x1, sr x2] [])) rfl (hb hby d17_0)
 refine go (S' := T224.setTop (mkF m 7 #[sr x1, sr x2] [(.ref x1)])) (fun t k => st224 _ (XS.ifNo X224.here hx rfl (hb hby d17_3) rfl ((if0 _ _).trans (feq hG1).1) (XS.aloadN X224.here hx rfl (hb hby d17_6) rfl rfl k))) ?_
 obtain ⟨T226, X226, e226, st226⟩ := getF X224 hx hZ hown (host := "") (Or.inl (ww hw 61 rfl)) Via.refl e224 hp1 (g := (mkF m 7 #[sr x1, sr x2] [(.ref x1)])) rfl rfl (hb hby d17_7)
 refine go (S' := T226.setTop (mkF m 11 #[sr x1, sr x2] [(.ref x2), (.int 1)])) (fun t k => st226 _ (XS.aloadN X226.here hx rfl (hb hby d17_10) rfl rfl k)) ?_
 obtain ⟨v227, T227, L227, X227, hQ227, st227⟩ := callV X226 hx hZ (y := y_18) (z := y_18) hown (ww hw 100 rfl) (ww hw 79 rfl) (notFace_of_selects (args := #[]) (mvT hZ (ww hw 81 rfl))) (ww hw 81 rfl) (ww hw 80 rfl) (by decide) (backOf (W := 1) (rmCod0 l Z a0 hw [] x2 G1 h0 n0 (Nat.le_trans Z0 K0.1) hp2.cod hp3 hG1 O225) hZ (ww hw 82 rfl) (ww hw 8 rfl) (by decide) (by decide)) hp2.exa (g := (mkF m 11 #[sr x1, sr x2] [(.ref x2), (.int 1)])) rfl (by rw [hml]; rfl) (kc := 0) (ks := 0) (argsL := []) (rest := [(.int 1)]) (lenOf pd_17 rfl) rfl (mr0 rfl) (hb hby d17_11) e226 (by decide) (by decide)
 obtain ⟨rfl, N227q, e227⟩ := hQ227
 have N227 := Fr.app N0 N227q
 refine go (S' := T227.setTop (mkF m 14 #[sr x1, sr x2] [(.int 0), (.int 1)])) st227 ?_
 have hc228 : ¬ ((1 : Int32) = (0 : Int32)) := by decide
 refine go (S' := T227.setTop (mkF m 18 #[sr x1, sr x2] [(.ref x1)])) (fun t k => XS.icmpNo X227.here hx rfl (hb hby d17_14) rfl (feq hc228).1 (XS.aloadN X227.here hx rfl (hb hby d17_17) rfl rfl k)) ?_
 obtain ⟨v229, T229, L229, X229, hQ229, st229⟩ := callVp X227 hx hZ (y := y_21) hown (ww hw 282 rfl) (ww hw 283 rfl) (ww hw 285 rfl) (ww hw 286 rfl) (by decide) (backOf (W := 0) (rmIf1 l Z a0 hw [] x1 G1 h0 n0 (Nat.le_trans Z0 K0.1) hp0 hp1 hp3 hG1 O225) hZ (ww hw 286 rfl) (ww hw 55 rfl) (by decide) (by decide)) hp0 (g := (mkF m 18 #[sr x1, sr x2] [(.ref x1)])) rfl (by rw [hml]; rfl) (kc := 0) (ks := 0) (argsL := []) (rest := []) (lenOf pd_18 rfl) rfl (mr0 rfl) (hb hby d17_18) e227 (by decide) (by decide)
 obtain ⟨rfl, N229q, e229⟩ := hQ229
 have N229 := Fr.app N227 N229q
 refine go (S' := T229.setTop (mkF m 21 #[sr x1, sr x2] [])) st229 ?_
 refine finV X229 hx hk hret (hb hby d17_21) (by decide) (by decide) ?_
 rw [e229]
 exact ⟨rfl, N229, rfl⟩
theorem ef_rmNn11 (m : MethodId) (x1 : Addr) (x2 : Addr) : entryFrame m #[(.ref x1), (.ref x2)] 2 = mkF m 0 #[sr x1, sr x2] [] := by first | (simp [entryFrame, mkF, argsToLocals, Value.category]; done) | rfl
def Q_rmNn11 (Z : State) (x1 : Addr) (x2 : Addr) (t2 : Addr) (cs2 : List Int32) (G1 : Int32) (h0 : Heap) (n0 : Nat) (v : Option Value) (h : Heap) (L : List Loc) : Prop := v = none ∧ Fr n0 L ∧ h = h0
set_option maxRecDepth 65536 in
set_option maxHeartbeats 40000000 in
theorem rmNn11 (l : Launch) (Z : State) (a0 : Array Value) (hw : ∀ d ∈ tables_1, d.before a0 Z = true) (ws : List Jvm.Cond) (x1 : Addr) (x2 : Addr) (t2 : Addr) (cs2 : List Int32) (G1 : Int32) (h0 : Heap) (n0 : Nat) (Z0 : n0 ≤ h0.size) (hp0 : Exa Z h0 x1 "java/lang/StringBuilder") (hp1 : Fld Z h0 x1 "java/lang/AbstractStringBuilder" "coder" "B" (.int 1)) (hp2 : Str Z h0 x2 t2 (1 : Int32) cs2) (hp3 : Sta Z Z.heap "java/lang/String" "COMPACT_STRINGS" "Z" (.int G1)) (hG1 : ¬ (G1 = (0 : Int32))) (hp5 : Old Z n0 h0) :
    MetFree l y_27 (head1 (Jvm.Cond.code y_27 jdk_68_method_71_code 2 none :: ws) ({ frames := 1, cells := 0, slots := 0, locals := 13 } : Room)) (fun a U => a = #[(.ref x1), (.ref x2)] ∧ Z.Warmed39 U.vm ∧ U.heap = h0) (fun _ _ _ _ _ => True) (fun _ U o U' => ∃ v L, o = .returned v ∧ Q_rmNn11 Z x1 x2 t2 cs2 G1 h0 n0 v U'.heap L ∧ FrameEnd U o U' L ({ frames := 1, cells := 0, slots := 0, locals := 13 } : Room).cells ({ frames := 1, cells := 0, slots := 0, locals := 13 } : Room).slots) := by
 refine bodyOf pn_27 (fun m => ef_rmNn11 m x1 x2) ?_
 intro p e s m below meth c T0 X0 hx hby hml hown hnm hret hk hZ e0
 have N0 := Fr.nil n0
 have K0 : Keep h0 h0 [] := Keep.refl _ _
 have O0 := hp5
 have O231 : Old Z n0 h0 := O0.keep K0 all0
 obtain ⟨T230, X230, e230, st230⟩ := getS2 X0 hx hZ hown (host := "") (Or.inl (ww hw 58 rfl)) Via.refl e0 (hp3.ext O231.2) (g := (mkF m 0 #[sr x1, sr x2] [])) rfl (hb hby d17_0)
 refine go (S' := T230.setTop (mkF m 7 #[sr x1, sr x2] [(.ref x1)])) (fun t k => st230 _ (XS.ifNo X230.here hx rfl (hb hby d17_3) rfl ((if0 _ _).trans (feq hG1).1) (XS.aloadN X230.here hx rfl (hb hby d17_6) rfl rfl k))) ?_
 obtain ⟨T232, X232, e232, st232⟩ := getF X230 hx hZ hown (host := "") (Or.inl (ww hw 61 rfl)) Via.refl e230 hp1 (g := (mkF m 7 #[sr x1, sr x2] [(.ref x1)])) rfl rfl (hb hby d17_7)
 refine go (S' := T232.setTop (mkF m 11 #[sr x1, sr x2] [(.ref x2), (.int 1)])) (fun t k => st232 _ (XS.aloadN X232.here hx rfl (hb hby d17_10) rfl rfl k)) ?_
 obtain ⟨v233, T233, L233, X233, hQ233, st233⟩ := callV X232 hx hZ (y := y_18) (z := y_18) hown (ww hw 100 rfl) (ww hw 79 rfl) (notFace_of_selects (args := #[]) (mvT hZ (ww hw 81 rfl))) (ww hw 81 rfl) (ww hw 80 rfl) (by decide) (backOf (W := 1) (rmCod1 l Z a0 hw [] x2 G1 h0 n0 (Nat.le_trans Z0 K0.1) hp2.cod hp3 hG1 O231) hZ (ww hw 82 rfl) (ww hw 8 rfl) (by decide) (by decide)) hp2.exa (g := (mkF m 11 #[sr x1, sr x2] [(.ref x2), (.int 1)])) rfl (by rw [hml]; rfl) (kc := 0) (ks := 0) (argsL := []) (rest := [(.int 1)]) (lenOf pd_17 rfl) rfl (mr0 rfl) (hb hby d17_11) e232 (by decide) (by decide)
 obtain ⟨rfl, N233q, e233⟩ := hQ233
 have N233 := Fr.app N0 N233q
 refine go (S' := T233.setTop (mkF m 14 #[sr x1, sr x2] [(.int 1), (.int 1)])) st233 ?_
 have hc234 : (1 : Int32) = (1 : Int32) := by decide
 refine go (S' := T233.setTop (mkF m 21 #[sr x1, sr x2] [])) (fun t k => XS.icmpYes X233.here hx rfl (pc0 := 14) (pc' := 21) rfl (hb hby d17_14) rfl (teq hc234).1 (by decide) (by decide) k) ?_
 refine finV X233 hx hk hret (hb hby d17_21) (by decide) (by decide) ?_
 rw [e233]
 exact ⟨rfl, N233, rfl⟩
theorem d18_0 : dd jdk_42_method_147_code 0 (.aload_n 0) 1 := by decide +kernel
theorem d18_1 : dd jdk_42_method_147_code 1 (.invokevirtual 335) 3 := by decide +kernel
theorem d18_4 : dd jdk_42_method_147_code 4 (.iload_n 3) 1 := by decide +kernel
theorem d18_5 : dd jdk_42_method_147_code 5 (.if_icmp .ne 23) 3 := by decide +kernel
theorem d18_8 : dd jdk_42_method_147_code 8 (.aload_n 0) 1 := by decide +kernel
theorem d18_9 : dd jdk_42_method_147_code 9 (.getfield 9) 3 := by decide +kernel
theorem d18_12 : dd jdk_42_method_147_code 12 (.iconst 0) 1 := by decide +kernel
theorem d18_13 : dd jdk_42_method_147_code 13 (.aload_n 1) 1 := by decide +kernel
theorem d18_14 : dd jdk_42_method_147_code 14 (.iload_n 2) 1 := by decide +kernel
theorem d18_15 : dd jdk_42_method_147_code 15 (.iload_n 3) 1 := by decide +kernel
theorem d18_16 : dd jdk_42_method_147_code 16 .ishl 1 := by decide +kernel
theorem d18_17 : dd jdk_42_method_147_code 17 (.aload_n 0) 1 := by decide +kernel
theorem d18_18 : dd jdk_42_method_147_code 18 (.getfield 9) 3 := by decide +kernel
theorem d18_21 : dd jdk_42_method_147_code 21 .arraylength 1 := by decide +kernel
theorem d18_22 : dd jdk_42_method_147_code 22 (.invokestatic 212) 3 := by decide +kernel
theorem d18_25 : dd jdk_42_method_147_code 25 (.goto 18) 3 := by decide +kernel
theorem d18_43 : dd jdk_42_method_147_code 43 .return_ 1 := by decide +kernel
abbrev y_28 : MethodName := ⟨"java/lang/String", "getBytes", "([BIB)V"⟩
theorem pn_28 : plainFor y_28 = true := by first | exact plainFor_of_name (by first | (simp [plainName, overriddenIn]; done) | decide +kernel) | decide +kernel
theorem ef_rmGb00 (m : MethodId) (x2 : Addr) (tv : Addr) (pi : Int32) : entryFrame m #[(.ref x2), (.ref tv), (.int pi), (.int 0)] 4 = mkF m 0 #[sr x2, sr tv, si pi, si 0] [] := by first | (simp [entryFrame, mkF, argsToLocals, Value.category]; done) | rfl
def Q_rmGb00 (Z : State) (x2 : Addr) (tv : Addr) (pi : Int32) (t2 : Addr) (cs2 : List Int32) (kb : ClassId) (pre : List Int32) (G1 : Int32) (fm : Value) (h0 : Heap) (n0 : Nat) (v : Option Value) (h : Heap) (L : List Loc) : Prop := v = none ∧ Fr n0 L ∧ Keep h0 h [tv] ∧ (Arv Z h tv kb .byte (16 : Int32) ((pre ++ cs2).map fun c => Value.int (StrChars.lo8 c)) (.int 0))
set_option maxRecDepth 65536 in
set_option maxHeartbeats 40000000 in
theorem rmGb00 (l : Launch) (Z : State) (a0 : Array Value) (hw : ∀ d ∈ tables_1, d.before a0 Z = true) (ws : List Jvm.Cond) (x2 : Addr) (tv : Addr) (pi : Int32) (t2 : Addr) (cs2 : List Int32) (kb : ClassId) (pre : List Int32) (G1 : Int32) (fm : Value) (h0 : Heap) (n0 : Nat) (Z0 : n0 ≤ h0.size) (hp0 : Str Z h0 x2 t2 (0 : Int32) cs2) (hp1 : Arv Z h0 tv kb .byte (16 : Int32) (pre.map fun c => Value.int (StrChars.lo8 c)) (.int 0)) (hpi : pi = Int32.ofNat pre.length) (hr : pre.length + cs2.length ≤ 16) (hp4 : n0 ≤ tv) (hp5 : t2 ≠ tv) (hfm : fm.isRef = true) (hp7 : Sta Z Z.heap "jdk/internal/util/Preconditions" "SIOOBE_FORMATTER" "Ljava/util/function/BiFunction;" fm) (hp8 : Sta Z Z.heap "java/lang/String" "COMPACT_STRINGS" "Z" (.int G1)) (hG1 : ¬ (G1 = (0 : Int32))) (hp10 : Sta Z Z.heap "java/lang/StringUTF16" "$assertionsDisabled" "Z" (.int 1)) (hp11 : Sta Z Z.heap "java/lang/StringUTF16" "HI_BYTE_SHIFT" "I" (.int 0)) (hp12 : Sta Z Z.heap "java/lang/StringUTF16" "LO_BYTE_SHIFT" "I" (.int 8)) (hp13 : Old Z n0 h0) :
    MetFree l y_28 (head1 (Jvm.Cond.code y_28 jdk_42_method_147_code 4 none :: ws) ({ frames := 1, cells := 0, slots := 0, locals := 18 } : Room)) (fun a U => a = #[(.ref x2), (.ref tv), (.int pi), (.int 0)] ∧ Z.Warmed39 U.vm ∧ U.heap = h0) (fun _ _ _ _ _ => True) (fun _ U o U' => ∃ v L, o = .returned v ∧ Q_rmGb00 Z x2 tv pi t2 cs2 kb pre G1 fm h0 n0 v U'.heap L ∧ FrameEnd U o U' L ({ frames := 1, cells := 0, slots := 0, locals := 18 } : Room).cells ({ frames := 1, cells := 0, slots := 0, locals := 18 } : Room).slots) := by
 refine bodyOf pn_28 (fun m => ef_rmGb00 m x2 tv pi) ?_
 intro p e s m below meth c T0 X0 hx hby hml hown hnm hret hk hZ e0
 have N0 := Fr.nil n0
 have K0 : Keep h0 h0 [tv] := Keep.refl _ _
 have ne_t2_tv := hp5
 have O0 := hp13
 obtain ⟨kb2, N2, vs2, hE2, hV2, hC2, hA2, hcod2, hpc2, hl2⟩ := id hp0
 have hco2 := hcod2.elim (fun q => q.2) (fun q => absurd q.1 (by decide))
 rw [hco2.1, hco2.2.1] at hA2
 refine go (S' := T0.setTop (mkF m 1 #[sr x2, sr tv, si pi, si 0] [(.ref x2)])) (fun t k => XS.aloadN X0.here hx rfl (hb hby d18_0) rfl rfl k) ?_
 have O235 : Old Z n0 h0 := O0.keep K0 (allS hp4 all0)
 obtain ⟨v236, T236, L236, X236, hQ236, st236⟩ := callV X0 hx hZ (y := y_18) (z := y_18) hown (ww hw 78 rfl) (ww hw 79 rfl) (notFace_of_selects (args := #[]) (mvT hZ (ww hw 81 rfl))) (ww hw 81 rfl) (ww hw 80 rfl) (by decide) (backOf (W := 0) (rmCod0 l Z a0 hw [] x2 G1 h0 n0 (Nat.le_trans Z0 K0.1) hp0.cod hp8 hG1 O235) hZ (ww hw 82 rfl) (ww hw 8 rfl) (by decide) (by decide)) hp0.exa (g := (mkF m 1 #[sr x2, sr tv, si pi, si 0] [(.ref x2)])) rfl (by rw [hml]; rfl) (kc := 0) (ks := 0) (argsL := []) (rest := []) (lenOf pd_17 rfl) rfl (mr0 rfl) (hb hby d18_1) e0 (by decide) (by decide)
 obtain ⟨rfl, N236q, e236⟩ := hQ236
 have N236 := Fr.app N0 N236q
 refine go (S' := T236.setTop (mkF m 5 #[sr x2, sr tv, si pi, si 0] [(.int 0), (.int 0)])) (fun t k => st236 _ (XS.iloadN X236.here hx rfl (hb hby d18_4) rfl k)) ?_
 have hc237 : (0 : Int32) = (0 : Int32) := by decide
 refine go (S' := T236.setTop (mkF m 9 #[sr x2, sr tv, si pi, si 0] [(.ref x2)])) (fun t k => XS.icmpNo X236.here hx rfl (hb hby d18_5) rfl (teq hc237).2 (XS.aloadN X236.here hx rfl (hb hby d18_8) rfl rfl k)) ?_
 obtain ⟨T238, X238, e238, st238⟩ := getF X236 hx hZ hown (host := "") (Or.inl (ww hw 34 rfl)) Via.refl e236 hp0.val (g := (mkF m 9 #[sr x2, sr tv, si pi, si 0] [(.ref x2)])) rfl rfl (hb hby d18_9)
 refine go (S' := T238.setTop (mkF m 18 #[sr x2, sr tv, si pi, si 0] [(.ref x2), (.int (pi <<< ((0 : Int32) &&& 31))), (.ref tv), (.int 0), (.ref t2)])) (fun t k => st238 _ (XS.iconst X238.here hx rfl (hb hby d18_12) (XS.aloadN X238.here hx rfl (hb hby d18_13) rfl rfl (XS.iloadN X238.here hx rfl (hb hby d18_14) rfl (XS.iloadN X238.here hx rfl (hb hby d18_15) rfl (XS.ishl X238.here hx rfl (hb hby d18_16) rfl (XS.aloadN X238.here hx rfl (hb hby d18_17) rfl rfl k))))))) ?_
 obtain ⟨T239, X239, e239, st239⟩ := getF X238 hx hZ hown (host := "") (Or.inl (ww hw 34 rfl)) Via.refl e238 hp0.val (g := (mkF m 18 #[sr x2, sr tv, si pi, si 0] [(.ref x2), (.int (pi <<< ((0 : Int32) &&& 31))), (.ref tv), (.int 0), (.ref t2)])) rfl rfl (hb hby d18_18)
 refine go (S' := T239.setTop (mkF m 21 #[sr x2, sr tv, si pi, si 0] [(.ref t2), (.int (pi <<< ((0 : Int32) &&& 31))), (.ref tv), (.int 0), (.ref t2)])) st239 ?_
 obtain ⟨cl240, Ar240, -, S240, M240, -, -⟩ := id hA2
 refine go (S' := T239.setTop (mkF m 22 #[sr x2, sr tv, si pi, si 0] [(.int (Int32.ofNat cs2.length)), (.int (pi <<< ((0 : Int32) &&& 31))), (.ref tv), (.int 0), (.ref t2)])) (fun t k => X239.arraylength hx (by rw [e239]; exact Ar240.1) (State.isArrayOf_alike hZ.alike Ar240.2.1) (g := (mkF m 21 #[sr x2, sr tv, si pi, si 0] [(.ref t2), (.int (pi <<< ((0 : Int32) &&& 31))), (.ref tv), (.int 0), (.ref t2)])) rfl rfl (hb hby d18_21) _ (by rw [len_of S240 M240]; exact k)) ?_
 obtain ⟨T241, h241, L241, X241, e241, N241, Kc241, V241, st241⟩ := cpB X239 hx hZ hown (ww hw 106 rfl) (ww hw 109 rfl) (ww hw 107 rfl) (ww hw 108 rfl) e239 hA2 hp1 (by rw [hpi, List.length_map]; exact own_shl0 _) (by rw [List.length_map]) (by rw [List.length_map, oj_n (by omega)]; exact Nat.le_refl _) (by rw [List.length_map, List.length_map, show (16 : Int32).toNatClampNeg = 16 from rfl]; exact hr) (by rw [List.length_map, List.length_map]; omega) N236 hp4 (g := (mkF m 22 #[sr x2, sr tv, si pi, si 0] [(.int (Int32.ofNat cs2.length)), (.int (pi <<< ((0 : Int32) &&& 31))), (.ref tv), (.int 0), (.ref t2)])) rfl (by rw [hml]; rfl) (rest := []) rfl (hb hby d18_22) (by decide) (W := 0) (mr0 rfl) (by decide)
 have K242 : Keep h0 h241 [tv] := K0.trans Kc241 (allS (P := fun x => x ∈ [tv] ∨ h0.size ≤ x) (Or.inl (List.mem_of_getElem? (i := 0) rfl)) all0)
 have Vn241 : Arv Z h241 tv kb .byte (16 : Int32) ((pre ++ cs2).map fun c => Value.int (StrChars.lo8 c)) (.int 0) := (by rw [List.map_append]; exact V241)
 refine go (S' := T241.setTop (mkF m 43 #[sr x2, sr tv, si pi, si 0] [])) (fun t k => st241 _ (XS.goto X241.here hx rfl (pc0 := 25) (pc' := 43) rfl (hb hby d18_25) (by decide) (by decide) k)) ?_
 refine finV X241 hx hk hret (hb hby d18_43) (by decide) (by decide) ?_
 rw [e241]
 exact ⟨rfl, N241, K242, Vn241⟩
theorem ef_rmGb11 (m : MethodId) (x2 : Addr) (tv : Addr) (pi : Int32) : entryFrame m #[(.ref x2), (.ref tv), (.int pi), (.int 1)] 4 = mkF m 0 #[sr x2, sr tv, si pi, si 1] [] := by first | (simp [entryFrame, mkF, argsToLocals, Value.category]; done) | rfl
def Q_rmGb11 (Z : State) (x2 : Addr) (tv : Addr) (pi : Int32) (t2 : Addr) (cs2 : List Int32) (kb : ClassId) (pre : List Int32) (G1 : Int32) (fm : Value) (h0 : Heap) (n0 : Nat) (v : Option Value) (h : Heap) (L : List Loc) : Prop := v = none ∧ Fr n0 L ∧ Keep h0 h [tv] ∧ (Arv Z h tv kb .byte (Int32.ofNat (2 * 16)) (StrChars.Road.wideBytes (pre ++ cs2)) (.int 0))
set_option maxRecDepth 65536 in
set_option maxHeartbeats 40000000 in
theorem rmGb11 (l : Launch) (Z : State) (a0 : Array Value) (hw : ∀ d ∈ tables_1, d.before a0 Z = true) (ws : List Jvm.Cond) (x2 : Addr) (tv : Addr) (pi : Int32) (t2 : Addr) (cs2 : List Int32) (kb : ClassId) (pre : List Int32) (G1 : Int32) (fm : Value) (h0 : Heap) (n0 : Nat) (Z0 : n0 ≤ h0.size) (hp0 : Str Z h0 x2 t2 (1 : Int32) cs2) (hp1 : Arv Z h0 tv kb .byte (Int32.ofNat (2 * 16)) (StrChars.Road.wideBytes pre) (.int 0)) (hpi : pi = Int32.ofNat pre.length) (hr : pre.length + cs2.length ≤ 16) (hp4 : n0 ≤ tv) (hp5 : t2 ≠ tv) (hfm : fm.isRef = true) (hp7 : Sta Z Z.heap "jdk/internal/util/Preconditions" "SIOOBE_FORMATTER" "Ljava/util/function/BiFunction;" fm) (hp8 : Sta Z Z.heap "java/lang/String" "COMPACT_STRINGS" "Z" (.int G1)) (hG1 : ¬ (G1 = (0 : Int32))) (hp10 : Sta Z Z.heap "java/lang/StringUTF16" "$assertionsDisabled" "Z" (.int 1)) (hp11 : Sta Z Z.heap "java/lang/StringUTF16" "HI_BYTE_SHIFT" "I" (.int 0)) (hp12 : Sta Z Z.heap "java/lang/StringUTF16" "LO_BYTE_SHIFT" "I" (.int 8)) (hp13 : Old Z n0 h0) :
    MetFree l y_28 (head1 (Jvm.Cond.code y_28 jdk_42_method_147_code 4 none :: ws) ({ frames := 1, cells := 0, slots := 0, locals := 18 } : Room)) (fun a U => a = #[(.ref x2), (.ref tv), (.int pi), (.int 1)] ∧ Z.Warmed39 U.vm ∧ U.heap = h0) (fun _ _ _ _ _ => True) (fun _ U o U' => ∃ v L, o = .returned v ∧ Q_rmGb11 Z x2 tv pi t2 cs2 kb pre G1 fm h0 n0 v U'.heap L ∧ FrameEnd U o U' L ({ frames := 1, cells := 0, slots := 0, locals := 18 } : Room).cells ({ frames := 1, cells := 0, slots := 0, locals := 18 } : Room).slots) := by
 refine bodyOf pn_28 (fun m => ef_rmGb11 m x2 tv pi) ?_
 intro p e s m below meth c T0 X0 hx hby hml hown hnm hret hk hZ e0
 have N0 := Fr.nil n0
 have K0 : Keep h0 h0 [tv] := Keep.refl _ _
 have ne_t2_tv := hp5
 have O0 := hp13
 obtain ⟨kb2, N2, vs2, hE2, hV2, hC2, hA2, hcod2, hpc2, hl2⟩ := id hp0
 have hco2 := hcod2.elim (fun q => absurd q.1 (by decide)) (fun q => q.2)
 rw [hco2.1, hco2.2.1] at hA2
 refine go (S' := T0.setTop (mkF m 1 #[sr x2, sr tv, si pi, si 1] [(.ref x2)])) (fun t k => XS.aloadN X0.here hx rfl (hb hby d18_0) rfl rfl k) ?_
 have O243 : Old Z n0 h0 := O0.keep K0 (allS hp4 all0)
 obtain ⟨v244, T244, L244, X244, hQ244, st244⟩ := callV X0 hx hZ (y := y_18) (z := y_18) hown (ww hw 78 rfl) (ww hw 79 rfl) (notFace_of_selects (args := #[]) (mvT hZ (ww hw 81 rfl))) (ww hw 81 rfl) (ww hw 80 rfl) (by decide) (backOf (W := 0) (rmCod1 l Z a0 hw [] x2 G1 h0 n0 (Nat.le_trans Z0 K0.1) hp0.cod hp8 hG1 O243) hZ (ww hw 82 rfl) (ww hw 8 rfl) (by decide) (by decide)) hp0.exa (g := (mkF m 1 #[sr x2, sr tv, si pi, si 1] [(.ref x2)])) rfl (by rw [hml]; rfl) (kc := 0) (ks := 0) (argsL := []) (rest := []) (lenOf pd_17 rfl) rfl (mr0 rfl) (hb hby d18_1) e0 (by decide) (by decide)
 obtain ⟨rfl, N244q, e244⟩ := hQ244
 have N244 := Fr.app N0 N244q
 refine go (S' := T244.setTop (mkF m 5 #[sr x2, sr tv, si pi, si 1] [(.int 1), (.int 1)])) (fun t k => st244 _ (XS.iloadN X244.here hx rfl (hb hby d18_4) rfl k)) ?_
 have hc245 : (1 : Int32) = (1 : Int32) := by decide
 refine go (S' := T244.setTop (mkF m 9 #[sr x2, sr tv, si pi, si 1] [(.ref x2)])) (fun t k => XS.icmpNo X244.here hx rfl (hb hby d18_5) rfl (teq hc245).2 (XS.aloadN X244.here hx rfl (hb hby d18_8) rfl rfl k)) ?_
 obtain ⟨T246, X246, e246, st246⟩ := getF X244 hx hZ hown (host := "") (Or.inl (ww hw 34 rfl)) Via.refl e244 hp0.val (g := (mkF m 9 #[sr x2, sr tv, si pi, si 1] [(.ref x2)])) rfl rfl (hb hby d18_9)
 refine go (S' := T246.setTop (mkF m 18 #[sr x2, sr tv, si pi, si 1] [(.ref x2), (.int (pi <<< ((1 : Int32) &&& 31))), (.ref tv), (.int 0), (.ref t2)])) (fun t k => st246 _ (XS.iconst X246.here hx rfl (hb hby d18_12) (XS.aloadN X246.here hx rfl (hb hby d18_13) rfl rfl (XS.iloadN X246.here hx rfl (hb hby d18_14) rfl (XS.iloadN X246.here hx rfl (hb hby d18_15) rfl (XS.ishl X246.here hx rfl (hb hby d18_16) rfl (XS.aloadN X246.here hx rfl (hb hby d18_17) rfl rfl k))))))) ?_
 obtain ⟨T247, X247, e247, st247⟩ := getF X246 hx hZ hown (host := "") (Or.inl (ww hw 34 rfl)) Via.refl e246 hp0.val (g := (mkF m 18 #[sr x2, sr tv, si pi, si 1] [(.ref x2), (.int (pi <<< ((1 : Int32) &&& 31))), (.ref tv), (.int 0), (.ref t2)])) rfl rfl (hb hby d18_18)
 refine go (S' := T247.setTop (mkF m 21 #[sr x2, sr tv, si pi, si 1] [(.ref t2), (.int (pi <<< ((1 : Int32) &&& 31))), (.ref tv), (.int 0), (.ref t2)])) st247 ?_
 obtain ⟨cl248, Ar248, -, S248, M248, -, -⟩ := id hA2
 refine go (S' := T247.setTop (mkF m 22 #[sr x2, sr tv, si pi, si 1] [(.int (Int32.ofNat (2 * cs2.length))), (.int (pi <<< ((1 : Int32) &&& 31))), (.ref tv), (.int 0), (.ref t2)])) (fun t k => X247.arraylength hx (by rw [e247]; exact Ar248.1) (State.isArrayOf_alike hZ.alike Ar248.2.1) (g := (mkF m 21 #[sr x2, sr tv, si pi, si 1] [(.ref t2), (.int (pi <<< ((1 : Int32) &&& 31))), (.ref tv), (.int 0), (.ref t2)])) rfl rfl (hb hby d18_21) _ (by rw [len_of S248 M248]; exact k)) ?_
 obtain ⟨T249, h249, L249, X249, e249, N249, Kc249, V249, st249⟩ := cpB X247 hx hZ hown (ww hw 106 rfl) (ww hw 109 rfl) (ww hw 107 rfl) (ww hw 108 rfl) e247 hA2 hp1 (by rw [hpi, wide_len]; exact oj_dbl (by omega)) (by rw [wide_len]) (by rw [wide_len, oj_n (by omega)]; exact Nat.le_refl _) (by rw [wide_len, wide_len, oj_n (by omega)]; omega) (by rw [wide_len, wide_len]; omega) N244 hp4 (g := (mkF m 22 #[sr x2, sr tv, si pi, si 1] [(.int (Int32.ofNat (2 * cs2.length))), (.int (pi <<< ((1 : Int32) &&& 31))), (.ref tv), (.int 0), (.ref t2)])) rfl (by rw [hml]; rfl) (rest := []) rfl (hb hby d18_22) (by decide) (W := 0) (mr0 rfl) (by decide)
 have K250 : Keep h0 h249 [tv] := K0.trans Kc249 (allS (P := fun x => x ∈ [tv] ∨ h0.size ≤ x) (Or.inl (List.mem_of_getElem? (i := 0) rfl)) all0)
 have Vn249 : Arv Z h249 tv kb .byte (Int32.ofNat (2 * 16)) (StrChars.Road.wideBytes (pre ++ cs2)) (.int 0) := (by rw [← wide_app]; exact V249)
 refine go (S' := T249.setTop (mkF m 43 #[sr x2, sr tv, si pi, si 1] [])) (fun t k => st249 _ (XS.goto X249.here hx rfl (pc0 := 25) (pc' := 43) rfl (hb hby d18_25) (by decide) (by decide) k)) ?_
 refine finV X249 hx hk hret (hb hby d18_43) (by decide) (by decide) ?_
 rw [e249]
 exact ⟨rfl, N249, K250, Vn249⟩
theorem d18_28 : dd jdk_42_method_147_code 28 (.aload_n 0) 1 := by decide +kernel
theorem d18_29 : dd jdk_42_method_147_code 29 (.getfield 9) 3 := by decide +kernel
theorem d18_32 : dd jdk_42_method_147_code 32 (.iconst 0) 1 := by decide +kernel
theorem d18_33 : dd jdk_42_method_147_code 33 (.aload_n 1) 1 := by decide +kernel
theorem d18_34 : dd jdk_42_method_147_code 34 (.iload_n 2) 1 := by decide +kernel
theorem d18_35 : dd jdk_42_method_147_code 35 (.aload_n 0) 1 := by decide +kernel
theorem d18_36 : dd jdk_42_method_147_code 36 (.getfield 9) 3 := by decide +kernel
theorem d18_39 : dd jdk_42_method_147_code 39 .arraylength 1 := by decide +kernel
theorem d18_40 : dd jdk_42_method_147_code 40 (.invokestatic 106) 3 := by decide +kernel
theorem ef_rmGb01 (m : MethodId) (x2 : Addr) (tv : Addr) (pi : Int32) : entryFrame m #[(.ref x2), (.ref tv), (.int pi), (.int 1)] 4 = mkF m 0 #[sr x2, sr tv, si pi, si 1] [] := by first | (simp [entryFrame, mkF, argsToLocals, Value.category]; done) | rfl
def Q_rmGb01 (Z : State) (x2 : Addr) (tv : Addr) (pi : Int32) (t2 : Addr) (cs2 : List Int32) (kb : ClassId) (pre : List Int32) (G1 : Int32) (fm : Value) (h0 : Heap) (n0 : Nat) (v : Option Value) (h : Heap) (L : List Loc) : Prop := v = none ∧ Fr n0 L ∧ Keep h0 h [tv] ∧ (Arv Z h tv kb .byte (Int32.ofNat (2 * 16)) (StrChars.Road.wideBytes (pre ++ cs2)) (.int 0))
set_option maxRecDepth 65536 in
set_option maxHeartbeats 40000000 in
theorem rmGb01 (l : Launch) (Z : State) (a0 : Array Value) (hw : ∀ d ∈ tables_1, d.before a0 Z = true) (ws : List Jvm.Cond) (x2 : Addr) (tv : Addr) (pi : Int32) (t2 : Addr) (cs2 : List Int32) (kb : ClassId) (pre : List Int32) (G1 : Int32) (fm : Value) (h0 : Heap) (n0 : Nat) (Z0 : n0 ≤ h0.size) (hp0 : Str Z h0 x2 t2 (0 : Int32) cs2) (hp1 : Arv Z h0 tv kb .byte (Int32.ofNat (2 * 16)) (StrChars.Road.wideBytes pre) (.int 0)) (hpi : pi = Int32.ofNat pre.length) (hr : pre.length + cs2.length ≤ 16) (hp4 : n0 ≤ tv) (hp5 : t2 ≠ tv) (hfm : fm.isRef = true) (hp7 : Sta Z Z.heap "jdk/internal/util/Preconditions" "SIOOBE_FORMATTER" "Ljava/util/function/BiFunction;" fm) (hp8 : Sta Z Z.heap "java/lang/String" "COMPACT_STRINGS" "Z" (.int G1)) (hG1 : ¬ (G1 = (0 : Int32))) (hp10 : Sta Z Z.heap "java/lang/StringUTF16" "$assertionsDisabled" "Z" (.int 1)) (hp11 : Sta Z Z.heap "java/lang/StringUTF16" "HI_BYTE_SHIFT" "I" (.int 0)) (hp12 : Sta Z Z.heap "java/lang/StringUTF16" "LO_BYTE_SHIFT" "I" (.int 8)) (hp13 : Old Z n0 h0) :
    MetFree l y_28 (head1 (Jvm.Cond.code y_28 jdk_42_method_147_code 4 none :: ws) ({ frames := 5, cells := 0, slots := 0, locals := 76 } : Room)) (fun a U => a = #[(.ref x2), (.ref tv), (.int pi), (.int 1)] ∧ Z.Warmed39 U.vm ∧ U.heap = h0) (fun _ _ _ _ _ => True) (fun _ U o U' => ∃ v L, o = .returned v ∧ Q_rmGb01 Z x2 tv pi t2 cs2 kb pre G1 fm h0 n0 v U'.heap L ∧ FrameEnd U o U' L ({ frames := 5, cells := 0, slots := 0, locals := 76 } : Room).cells ({ frames := 5, cells := 0, slots := 0, locals := 76 } : Room).slots) := by
 refine bodyOf pn_28 (fun m => ef_rmGb01 m x2 tv pi) ?_
 intro p e s m below meth c T0 X0 hx hby hml hown hnm hret hk hZ e0
 have N0 := Fr.nil n0
 have K0 : Keep h0 h0 [tv] := Keep.refl _ _
 have ne_t2_tv := hp5
 have O0 := hp13
 obtain ⟨kb2, N2, vs2, hE2, hV2, hC2, hA2, hcod2, hpc2, hl2⟩ := id hp0
 have hco2 := hcod2.elim (fun q => q.2) (fun q => absurd q.1 (by decide))
 rw [hco2.1, hco2.2.1] at hA2
 refine go (S' := T0.setTop (mkF m 1 #[sr x2, sr tv, si pi, si 1] [(.ref x2)])) (fun t k => XS.aloadN X0.here hx rfl (hb hby d18_0) rfl rfl k) ?_
 have O251 : Old Z n0 h0 := O0.keep K0 (allS hp4 all0)
 obtain ⟨v252, T252, L252, X252, hQ252, st252⟩ := callV X0 hx hZ (y := y_18) (z := y_18) hown (ww hw 78 rfl) (ww hw 79 rfl) (notFace_of_selects (args := #[]) (mvT hZ (ww hw 81 rfl))) (ww hw 81 rfl) (ww hw 80 rfl) (by decide) (backOf (W := 0) (rmCod0 l Z a0 hw [] x2 G1 h0 n0 (Nat.le_trans Z0 K0.1) hp0.cod hp8 hG1 O251) hZ (ww hw 82 rfl) (ww hw 8 rfl) (by decide) (by decide)) hp0.exa (g := (mkF m 1 #[sr x2, sr tv, si pi, si 1] [(.ref x2)])) rfl (by rw [hml]; rfl) (kc := 0) (ks := 0) (argsL := []) (rest := []) (lenOf pd_17 rfl) rfl (mr0 rfl) (hb hby d18_1) e0 (by decide) (by decide)
 obtain ⟨rfl, N252q, e252⟩ := hQ252
 have N252 := Fr.app N0 N252q
 refine go (S' := T252.setTop (mkF m 5 #[sr x2, sr tv, si pi, si 1] [(.int 1), (.int 0)])) (fun t k => st252 _ (XS.iloadN X252.here hx rfl (hb hby d18_4) rfl k)) ?_
 have hc253 : ¬ ((0 : Int32) = (1 : Int32)) := by decide
 refine go (S' := T252.setTop (mkF m 29 #[sr x2, sr tv, si pi, si 1] [(.ref x2)])) (fun t k => XS.icmpYes X252.here hx rfl (pc0 := 5) (pc' := 28) rfl (hb hby d18_5) rfl (feq hc253).2 (by decide) (by decide) (XS.aloadN X252.here hx rfl (hb hby d18_28) rfl rfl k)) ?_
 obtain ⟨T254, X254, e254, st254⟩ := getF X252 hx hZ hown (host := "") (Or.inl (ww hw 34 rfl)) Via.refl e252 hp0.val (g := (mkF m 29 #[sr x2, sr tv, si pi, si 1] [(.ref x2)])) rfl rfl (hb hby d18_29)
 refine go (S' := T254.setTop (mkF m 36 #[sr x2, sr tv, si pi, si 1] [(.ref x2), (.int pi), (.ref tv), (.int 0), (.ref t2)])) (fun t k => st254 _ (XS.iconst X254.here hx rfl (hb hby d18_32) (XS.aloadN X254.here hx rfl (hb hby d18_33) rfl rfl (XS.iloadN X254.here hx rfl (hb hby d18_34) rfl (XS.aloadN X254.here hx rfl (hb hby d18_35) rfl rfl k))))) ?_
 obtain ⟨T255, X255, e255, st255⟩ := getF X254 hx hZ hown (host := "") (Or.inl (ww hw 34 rfl)) Via.refl e254 hp0.val (g := (mkF m 36 #[sr x2, sr tv, si pi, si 1] [(.ref x2), (.int pi), (.ref tv), (.int 0), (.ref t2)])) rfl rfl (hb hby d18_36)
 refine go (S' := T255.setTop (mkF m 39 #[sr x2, sr tv, si pi, si 1] [(.ref t2), (.int pi), (.ref tv), (.int 0), (.ref t2)])) st255 ?_
 obtain ⟨cl256, Ar256, -, S256, M256, -, -⟩ := id hA2
 refine go (S' := T255.setTop (mkF m 40 #[sr x2, sr tv, si pi, si 1] [(.int (Int32.ofNat cs2.length)), (.int pi), (.ref tv), (.int 0), (.ref t2)])) (fun t k => X255.arraylength hx (by rw [e255]; exact Ar256.1) (State.isArrayOf_alike hZ.alike Ar256.2.1) (g := (mkF m 39 #[sr x2, sr tv, si pi, si 1] [(.ref t2), (.int pi), (.ref tv), (.int 0), (.ref t2)])) rfl rfl (hb hby d18_39) _ (by rw [len_of S256 M256]; exact k)) ?_
 obtain ⟨v257, T257, L257, X257, hQ257, st257⟩ := callSt X255 hx hZ (y := y_26) hown (ww hw 307 rfl) (ww hw 290 rfl) (ww hw 237 rfl) (ww hw 291 rfl) (by decide) (backOf (W := 0) (rmLin l Z a0 hw [] t2 tv pi (Int32.ofNat cs2.length) kb2 (Int32.ofNat cs2.length) kb pre cs2 fm h0 n0 (Nat.le_trans Z0 K0.1) hA2 (by rw [oj_n (by omega)]; exact Nat.le_refl _) hp1 hpi rfl (fun c hc => ⟨(hpc2 c hc).1, hco2.2.2 c hc⟩) hr hfm hp7 hp4 ne_t2_tv hp10 hp11 hp12 O251) hZ (ww hw 291 rfl) (ww hw 237 rfl) (by decide) (by decide)) (g := (mkF m 40 #[sr x2, sr tv, si pi, si 1] [(.int (Int32.ofNat cs2.length)), (.int pi), (.ref tv), (.int 0), (.ref t2)])) rfl (by rw [hml]; rfl) (kc := 0) (ks := 0) (argsL := [(.ref t2), (.int 0), (.ref tv), (.int pi), (.int (Int32.ofNat cs2.length))]) (rest := []) (lenOf pd_16 rfl) rfl (mr0 rfl) (hb hby d18_40) e255 (by decide) (by decide)
 obtain ⟨rfl, N257q, Kq257, q257_0⟩ := hQ257
 have N257 := Fr.app N252 N257q
 have K258 : Keep h0 T257.heap [tv] := K0.trans Kq257 (allS (P := fun x => x ∈ [tv] ∨ h0.size ≤ x) (Or.inl (List.mem_of_getElem? (i := 0) rfl)) all0)
 refine go (S' := T257.setTop (mkF m 43 #[sr x2, sr tv, si pi, si 1] [])) st257 ?_
 refine finV X257 hx hk hret (hb hby d18_43) (by decide) (by decide) ?_
 exact ⟨rfl, N257, K258, q257_0⟩
theorem d16_0 : dd jdk_68_method_73_code 0 (.aload_n 0) 1 := by decide +kernel
theorem d16_1 : dd jdk_68_method_73_code 1 (.aload_n 2) 1 := by decide +kernel
theorem d16_2 : dd jdk_68_method_73_code 2 (.invokevirtual 397) 3 := by decide +kernel
theorem pd_19 : parseMethodDescriptor "(Ljava/lang/String;)V" = some ⟨[(.object "java/lang/String")], none⟩ := by decide +kernel
theorem d16_5 : dd jdk_68_method_73_code 5 (.aload_n 2) 1 := by decide +kernel
theorem d16_6 : dd jdk_68_method_73_code 6 (.aload_n 0) 1 := by decide +kernel
theorem d16_7 : dd jdk_68_method_73_code 7 (.getfield 15) 3 := by decide +kernel
theorem d16_10 : dd jdk_68_method_73_code 10 (.iload_n 1) 1 := by decide +kernel
theorem d16_11 : dd jdk_68_method_73_code 11 (.aload_n 0) 1 := by decide +kernel
theorem d16_12 : dd jdk_68_method_73_code 12 (.getfield 22) 3 := by decide +kernel
theorem d16_15 : dd jdk_68_method_73_code 15 (.invokevirtual 399) 3 := by decide +kernel
theorem pd_20 : parseMethodDescriptor "([BIB)V" = some ⟨[(.array .byte), .int, .byte], none⟩ := by decide +kernel
theorem d16_18 : dd jdk_68_method_73_code 18 .return_ 1 := by decide +kernel
abbrev y_29 : MethodName := ⟨"java/lang/AbstractStringBuilder", "putStringAt", "(ILjava/lang/String;)V"⟩
theorem pn_29 : plainFor y_29 = true := by first | exact plainFor_of_name (by first | (simp [plainName, overriddenIn]; done) | decide +kernel) | decide +kernel
theorem ef_rmPs00 (m : MethodId) (x1 : Addr) (pi : Int32) (x2 : Addr) : entryFrame m #[(.ref x1), (.int pi), (.ref x2)] 3 = mkF m 0 #[sr x1, si pi, sr x2] [] := by first | (simp [entryFrame, mkF, argsToLocals, Value.category]; done) | rfl
def Q_rmPs00 (Z : State) (x1 : Addr) (pi : Int32) (x2 : Addr) (tv : Addr) (kb : ClassId) (pre : List Int32) (t2 : Addr) (cs2 : List Int32) (G1 : Int32) (fm : Value) (h0 : Heap) (n0 : Nat) (v : Option Value) (h : Heap) (L : List Loc) : Prop := v = none ∧ Fr n0 L ∧ Keep h0 h [tv] ∧ (Arv Z h tv kb .byte (16 : Int32) ((pre ++ cs2).map fun c => Value.int (StrChars.lo8 c)) (.int 0))
set_option maxRecDepth 65536 in
set_option maxHeartbeats 40000000 in
theorem rmPs00 (l : Launch) (Z : State) (a0 : Array Value) (hw : ∀ d ∈ tables_1, d.before a0 Z = true) (ws : List Jvm.Cond) (x1 : Addr) (pi : Int32) (x2 : Addr) (tv : Addr) (kb : ClassId) (pre : List Int32) (t2 : Addr) (cs2 : List Int32) (G1 : Int32) (fm : Value) (h0 : Heap) (n0 : Nat) (Z0 : n0 ≤ h0.size) (hp0 : Exa Z h0 x1 "java/lang/StringBuilder") (hp1 : Fld Z h0 x1 "java/lang/AbstractStringBuilder" "value" "[B" (.ref tv)) (hp2 : Fld Z h0 x1 "java/lang/AbstractStringBuilder" "coder" "B" (.int 0)) (hp3 : Fld Z h0 x1 "java/lang/AbstractStringBuilder" "count" "I" (.int (Int32.ofNat pre.length))) (hp4 : Fld Z h0 x1 "java/lang/AbstractStringBuilder" "maybeLatin1" "Z" (.int 0)) (hp5 : Arv Z h0 tv kb .byte (16 : Int32) (pre.map fun c => Value.int (StrChars.lo8 c)) (.int 0)) (hp6 : Str Z h0 x2 t2 (0 : Int32) cs2) (hr : pre.length + cs2.length ≤ 16) (hp8 : n0 ≤ x1) (hp9 : n0 ≤ tv) (hp10 : t2 ≠ tv) (hp11 : t2 ≠ x1) (hp12 : x2 ≠ x1) (hp13 : x2 ≠ tv) (hp14 : tv ≠ x1) (hfm : fm.isRef = true) (hp16 : Sta Z Z.heap "jdk/internal/util/Preconditions" "SIOOBE_FORMATTER" "Ljava/util/function/BiFunction;" fm) (hp17 : Sta Z Z.heap "java/lang/String" "COMPACT_STRINGS" "Z" (.int G1)) (hG1 : ¬ (G1 = (0 : Int32))) (hp19 : Sta Z Z.heap "java/lang/StringUTF16" "$assertionsDisabled" "Z" (.int 1)) (hp20 : Sta Z Z.heap "java/lang/StringUTF16" "HI_BYTE_SHIFT" "I" (.int 0)) (hp21 : Sta Z Z.heap "java/lang/StringUTF16" "LO_BYTE_SHIFT" "I" (.int 8)) (hp22 : Old Z n0 h0) (hpi : pi = Int32.ofNat pre.length) :
    MetFree l y_29 (head1 (Jvm.Cond.code y_29 jdk_68_method_73_code 3 none :: ws) ({ frames := 2, cells := 0, slots := 0, locals := 33 } : Room)) (fun a U => a = #[(.ref x1), (.int pi), (.ref x2)] ∧ Z.Warmed39 U.vm ∧ U.heap = h0) (fun _ _ _ _ _ => True) (fun _ U o U' => ∃ v L, o = .returned v ∧ Q_rmPs00 Z x1 pi x2 tv kb pre t2 cs2 G1 fm h0 n0 v U'.heap L ∧ FrameEnd U o U' L ({ frames := 2, cells := 0, slots := 0, locals := 33 } : Room).cells ({ frames := 2, cells := 0, slots := 0, locals := 33 } : Room).slots) := by
 refine bodyOf pn_29 (fun m => ef_rmPs00 m x1 pi x2) ?_
 intro p e s m below meth c T0 X0 hx hby hml hown hnm hret hk hZ e0
 have N0 := Fr.nil n0
 have K0 : Keep h0 h0 [tv] := Keep.refl _ _
 have ne_t2_tv := hp10
 have ne_t2_x1 := hp11
 have ne_x2_x1 := hp12
 have ne_x2_tv := hp13
 have ne_tv_x1 := hp14
 have O0 := hp22
 refine go (S' := T0.setTop (mkF m 2 #[sr x1, si pi, sr x2] [(.ref x2), (.ref x1)])) (fun t k => XS.aloadN X0.here hx rfl (hb hby d16_0) rfl rfl (XS.aloadN X0.here hx rfl (hb hby d16_1) rfl rfl k)) ?_
 have O259 : Old Z n0 h0 := O0.keep K0 (allS hp9 all0)
 obtain ⟨v260, T260, L260, X260, hQ260, st260⟩ := callVp X0 hx hZ (y := y_27) hown (ww hw 95 rfl) (ww hw 96 rfl) (ww hw 98 rfl) (ww hw 99 rfl) (by decide) (backOf (W := 0) (rmNn00 l Z a0 hw [] x1 x2 t2 cs2 G1 h0 n0 (Nat.le_trans Z0 K0.1) hp0 hp2 hp6 hp17 hG1 O259) hZ (ww hw 99 rfl) (ww hw 55 rfl) (by decide) (by decide)) hp0 (g := (mkF m 2 #[sr x1, si pi, sr x2] [(.ref x2), (.ref x1)])) rfl (by rw [hml]; rfl) (kc := 0) (ks := 0) (argsL := [(.ref x2)]) (rest := []) (lenOf pd_19 rfl) rfl (mr0 rfl) (hb hby d16_2) e0 (by decide) (by decide)
 obtain ⟨rfl, N260q, e260⟩ := hQ260
 have N260 := Fr.app N0 N260q
 refine go (S' := T260.setTop (mkF m 7 #[sr x1, si pi, sr x2] [(.ref x1), (.ref x2)])) (fun t k => st260 _ (XS.aloadN X260.here hx rfl (hb hby d16_5) rfl rfl (XS.aloadN X260.here hx rfl (hb hby d16_6) rfl rfl k))) ?_
 obtain ⟨T261, X261, e261, st261⟩ := getF X260 hx hZ hown (host := "") (Or.inl (ww hw 59 rfl)) Via.refl e260 hp1 (g := (mkF m 7 #[sr x1, si pi, sr x2] [(.ref x1), (.ref x2)])) rfl rfl (hb hby d16_7)
 refine go (S' := T261.setTop (mkF m 12 #[sr x1, si pi, sr x2] [(.ref x1), (.int pi), (.ref tv), (.ref x2)])) (fun t k => st261 _ (XS.iloadN X261.here hx rfl (hb hby d16_10) rfl (XS.aloadN X261.here hx rfl (hb hby d16_11) rfl rfl k))) ?_
 obtain ⟨T262, X262, e262, st262⟩ := getF X261 hx hZ hown (host := "") (Or.inl (ww hw 61 rfl)) Via.refl e261 hp2 (g := (mkF m 12 #[sr x1, si pi, sr x2] [(.ref x1), (.int pi), (.ref tv), (.ref x2)])) rfl rfl (hb hby d16_12)
 refine go (S' := T262.setTop (mkF m 15 #[sr x1, si pi, sr x2] [(.int 0), (.int pi), (.ref tv), (.ref x2)])) st262 ?_
 obtain ⟨v263, T263, L263, X263, hQ263, st263⟩ := callV X262 hx hZ (y := y_28) (z := y_28) hown (ww hw 101 rfl) (ww hw 102 rfl) (notFace_of_selects (args := #[]) (mvT hZ (ww hw 104 rfl))) (ww hw 104 rfl) (ww hw 103 rfl) (by decide) (backOf (W := 0) (rmGb00 l Z a0 hw [] x2 tv pi t2 cs2 kb pre G1 fm h0 n0 (Nat.le_trans Z0 K0.1) hp6 hp5 hpi hr hp9 ne_t2_tv hfm hp16 hp17 hG1 hp19 hp20 hp21 O259) hZ (ww hw 105 rfl) (ww hw 8 rfl) (by decide) (by decide)) hp6.exa (g := (mkF m 15 #[sr x1, si pi, sr x2] [(.int 0), (.int pi), (.ref tv), (.ref x2)])) rfl (by rw [hml]; rfl) (kc := 0) (ks := 0) (argsL := [(.ref tv), (.int pi), (.int 0)]) (rest := []) (lenOf pd_20 rfl) rfl (mr0 rfl) (hb hby d16_15) e262 (by decide) (by decide)
 obtain ⟨rfl, N263q, Kq263, q263_0⟩ := hQ263
 have N263 := Fr.app N260 N263q
 have K264 : Keep h0 T263.heap [tv] := K0.trans Kq263 (allS (P := fun x => x ∈ [tv] ∨ h0.size ≤ x) (Or.inl (List.mem_of_getElem? (i := 0) rfl)) all0)
 refine go (S' := T263.setTop (mkF m 18 #[sr x1, si pi, sr x2] [])) st263 ?_
 refine finV X263 hx hk hret (hb hby d16_18) (by decide) (by decide) ?_
 exact ⟨rfl, N263, K264, q263_0⟩
theorem d12_0 : dd jdk_68_method_22_code 0 (.aload_n 1) 1 := by decide +kernel
theorem d12_1 : dd jdk_68_method_22_code 1 (.ifnonnull 8) 3 := by decide +kernel
theorem d12_9 : dd jdk_68_method_22_code 9 (.aload_n 1) 1 := by decide +kernel
theorem d12_10 : dd jdk_68_method_22_code 10 (.invokevirtual 32) 3 := by decide +kernel
theorem pd_21 : parseMethodDescriptor "()I" = some ⟨[], some .int⟩ := by decide +kernel
abbrev y_30 : MethodName := ⟨"java/lang/String", "length", "()I"⟩
theorem d12_13 : dd jdk_68_method_22_code 13 (.istore_n 2) 1 := by decide +kernel
theorem d12_14 : dd jdk_68_method_22_code 14 (.aload_n 0) 1 := by decide +kernel
theorem d12_15 : dd jdk_68_method_22_code 15 (.aload_n 0) 1 := by decide +kernel
theorem d12_16 : dd jdk_68_method_22_code 16 (.getfield 79) 3 := by decide +kernel
theorem d12_19 : dd jdk_68_method_22_code 19 (.iload_n 2) 1 := by decide +kernel
theorem d12_20 : dd jdk_68_method_22_code 20 .iadd 1 := by decide +kernel
theorem d12_21 : dd jdk_68_method_22_code 21 (.invokevirtual 100) 3 := by decide +kernel
theorem pd_22 : parseMethodDescriptor "(I)V" = some ⟨[.int], none⟩ := by decide +kernel
theorem d12_24 : dd jdk_68_method_22_code 24 (.aload_n 0) 1 := by decide +kernel
theorem d12_25 : dd jdk_68_method_22_code 25 (.aload_n 0) 1 := by decide +kernel
theorem d12_26 : dd jdk_68_method_22_code 26 (.getfield 79) 3 := by decide +kernel
theorem d12_29 : dd jdk_68_method_22_code 29 (.aload_n 1) 1 := by decide +kernel
theorem d12_30 : dd jdk_68_method_22_code 30 (.invokevirtual 208) 3 := by decide +kernel
theorem pd_23 : parseMethodDescriptor "(ILjava/lang/String;)V" = some ⟨[.int, (.object "java/lang/String")], none⟩ := by decide +kernel
theorem d12_33 : dd jdk_68_method_22_code 33 (.aload_n 0) 1 := by decide +kernel
theorem d12_34 : dd jdk_68_method_22_code 34 .dup 1 := by decide +kernel
theorem d12_35 : dd jdk_68_method_22_code 35 (.getfield 79) 3 := by decide +kernel
theorem d12_38 : dd jdk_68_method_22_code 38 (.iload_n 2) 1 := by decide +kernel
theorem d12_39 : dd jdk_68_method_22_code 39 .iadd 1 := by decide +kernel
theorem d12_40 : dd jdk_68_method_22_code 40 (.putfield 79) 3 := by decide +kernel
theorem d12_43 : dd jdk_68_method_22_code 43 (.aload_n 0) 1 := by decide +kernel
theorem d12_44 : dd jdk_68_method_22_code 44 .areturn 1 := by decide +kernel
abbrev y_31 : MethodName := ⟨"java/lang/AbstractStringBuilder", "append", "(Ljava/lang/String;)Ljava/lang/AbstractStringBuilder;"⟩
theorem pn_30 : plainFor y_31 = true := by first | exact plainFor_of_name (by first | (simp [plainName, overriddenIn]; done) | decide +kernel) | decide +kernel
theorem ef_rmAp00 (m : MethodId) (x1 : Addr) (x2 : Addr) : entryFrame m #[(.ref x1), (.ref x2)] 3 = mkF m 0 #[sr x1, sr x2, un] [] := by first | (simp [entryFrame, mkF, argsToLocals, Value.category]; done) | rfl
def Q_rmAp00 (Z : State) (x1 : Addr) (x2 : Addr) (tv : Addr) (kb : ClassId) (pre : List Int32) (t2 : Addr) (cs2 : List Int32) (G1 : Int32) (fm : Value) (h0 : Heap) (n0 : Nat) (v : Option Value) (h : Heap) (L : List Loc) : Prop := v = some (.ref x1) ∧ Fr n0 L ∧ Keep h0 h [x1, tv] ∧ (Fld Z h x1 "java/lang/AbstractStringBuilder" "value" "[B" (.ref tv)) ∧ (Fld Z h x1 "java/lang/AbstractStringBuilder" "coder" "B" (.int 0)) ∧ (Fld Z h x1 "java/lang/AbstractStringBuilder" "count" "I" (.int (Int32.ofNat (pre ++ cs2).length))) ∧ (Fld Z h x1 "java/lang/AbstractStringBuilder" "maybeLatin1" "Z" (.int 0)) ∧ (Arv Z h tv kb .byte (16 : Int32) ((pre ++ cs2).map fun c => Value.int (StrChars.lo8 c)) (.int 0))
set_option maxRecDepth 65536 in
set_option maxHeartbeats 40000000 in
theorem rmAp00 (l : Launch) (Z : State) (a0 : Array Value) (hw : ∀ d ∈ tables_1, d.before a0 Z = true) (ws : List Jvm.Cond) (x1 : Addr) (x2 : Addr) (tv : Addr) (kb : ClassId) (pre : List Int32) (t2 : Addr) (cs2 : List Int32) (G1 : Int32) (fm : Value) (h0 : Heap) (n0 : Nat) (Z0 : n0 ≤ h0.size) (hp0 : Exa Z h0 x1 "java/lang/StringBuilder") (hp1 : Fld Z h0 x1 "java/lang/AbstractStringBuilder" "value" "[B" (.ref tv)) (hp2 : Fld Z h0 x1 "java/lang/AbstractStringBuilder" "coder" "B" (.int 0)) (hp3 : Fld Z h0 x1 "java/lang/AbstractStringBuilder" "count" "I" (.int (Int32.ofNat pre.length))) (hp4 : Fld Z h0 x1 "java/lang/AbstractStringBuilder" "maybeLatin1" "Z" (.int 0)) (hp5 : Arv Z h0 tv kb .byte (16 : Int32) (pre.map fun c => Value.int (StrChars.lo8 c)) (.int 0)) (hp6 : Str Z h0 x2 t2 (0 : Int32) cs2) (hr : pre.length + cs2.length ≤ 16) (hp8 : n0 ≤ x1) (hp9 : n0 ≤ tv) (hp10 : t2 ≠ tv) (hp11 : t2 ≠ x1) (hp12 : x2 ≠ x1) (hp13 : x2 ≠ tv) (hp14 : tv ≠ x1) (hfm : fm.isRef = true) (hp16 : Sta Z Z.heap "jdk/internal/util/Preconditions" "SIOOBE_FORMATTER" "Ljava/util/function/BiFunction;" fm) (hp17 : Sta Z Z.heap "java/lang/String" "COMPACT_STRINGS" "Z" (.int G1)) (hG1 : ¬ (G1 = (0 : Int32))) (hp19 : Sta Z Z.heap "java/lang/StringUTF16" "$assertionsDisabled" "Z" (.int 1)) (hp20 : Sta Z Z.heap "java/lang/StringUTF16" "HI_BYTE_SHIFT" "I" (.int 0)) (hp21 : Sta Z Z.heap "java/lang/StringUTF16" "LO_BYTE_SHIFT" "I" (.int 8)) (hp22 : Old Z n0 h0) :
    MetFree l y_31 (head1 (Jvm.Cond.code y_31 jdk_68_method_22_code 3 (some (.object "java/lang/AbstractStringBuilder")) :: ws) ({ frames := 3, cells := 0, slots := 0, locals := 47 } : Room)) (fun a U => a = #[(.ref x1), (.ref x2)] ∧ Z.Warmed39 U.vm ∧ U.heap = h0) (fun _ _ _ _ _ => True) (fun _ U o U' => ∃ v L, o = .returned v ∧ Q_rmAp00 Z x1 x2 tv kb pre t2 cs2 G1 fm h0 n0 v U'.heap L ∧ FrameEnd U o U' L ({ frames := 3, cells := 0, slots := 0, locals := 47 } : Room).cells ({ frames := 3, cells := 0, slots := 0, locals := 47 } : Room).slots) := by
 refine bodyOf pn_30 (fun m => ef_rmAp00 m x1 x2) ?_
 intro p e s m below meth c T0 X0 hx hby hml hown hnm hret hk hZ e0
 have N0 := Fr.nil n0
 have K0 : Keep h0 h0 [x1, tv] := Keep.refl _ _
 have ne_t2_tv := hp10
 have ne_t2_x1 := hp11
 have ne_x2_x1 := hp12
 have ne_x2_tv := hp13
 have ne_tv_x1 := hp14
 have O0 := hp22
 refine go (S' := T0.setTop (mkF m 10 #[sr x1, sr x2, un] [(.ref x2)])) (fun t k => XS.aloadN X0.here hx rfl (hb hby d12_0) rfl rfl (XS.ifnonnullYes X0.here hx rfl (pc0 := 1) (pc' := 9) rfl (hb hby d12_1) rfl (by decide) (by decide) (XS.aloadN X0.here hx rfl (hb hby d12_9) rfl rfl k))) ?_
 have O265 : Old Z n0 h0 := O0.keep K0 (allS hp8 (allS hp9 all0))
 obtain ⟨kb266, N2266, vs266, qE266, qV266, qC266, qA266, qcd266, qbd266, ql266⟩ := id hp6
 obtain ⟨v267, T267, L267, X267, hQ267, st267⟩ := callV X0 hx hZ (y := y_30) (z := y_30) hown (ww hw 73 rfl) (ww hw 74 rfl) (notFace_of_selects (args := #[]) (mvT hZ (ww hw 76 rfl))) (ww hw 76 rfl) (ww hw 75 rfl) (by decide) (StrChars.Road.lenW (W := 0) hZ (own_sub StrChars_wordsLen hw) (kI := 4) (ww hw 7 rfl) qE266 qV266 qC266 qA266 qcd266 qbd266 (hp17.ext O265.2) hG1 ql266 (by decide) (by decide)) hp6.exa (g := (mkF m 10 #[sr x1, sr x2, un] [(.ref x2)])) rfl (by rw [hml]; rfl) (Q := (fun v h' L => v = some (.int (Int32.ofNat cs2.length)) ∧ L = [] ∧ h' = h0)) (kc := 0) (ks := 0) (argsL := []) (rest := []) (lenOf pd_21 rfl) rfl (mr0 rfl) (hb hby d12_10) e0 (by decide) (by decide)
 obtain ⟨rfl, rfl, e267⟩ := hQ267
 have N267 := Fr.app N0 (Fr.nil n0)
 refine go (S' := T267.setTop (mkF m 16 #[sr x1, sr x2, si (Int32.ofNat cs2.length)] [(.ref x1), (.ref x1)])) (fun t k => st267 _ (XS.istoreN X267.here hx rfl (hb hby d12_13) rfl (l' := #[sr x1, sr x2, si (Int32.ofNat cs2.length)]) rfl (XS.aloadN X267.here hx rfl (hb hby d12_14) rfl rfl (XS.aloadN X267.here hx rfl (hb hby d12_15) rfl rfl k)))) ?_
 obtain ⟨T268, X268, e268, st268⟩ := getF X267 hx hZ hown (host := "") (Or.inl (ww hw 83 rfl)) Via.refl e267 hp3 (g := (mkF m 16 #[sr x1, sr x2, si (Int32.ofNat cs2.length)] [(.ref x1), (.ref x1)])) rfl rfl (hb hby d12_16)
 refine go (S' := T268.setTop (mkF m 21 #[sr x1, sr x2, si (Int32.ofNat cs2.length)] [(.int ((Int32.ofNat pre.length) + (Int32.ofNat cs2.length))), (.ref x1)])) (fun t k => st268 _ (XS.iloadN X268.here hx rfl (hb hby d12_19) rfl (XS.iadd X268.here hx rfl (hb hby d12_20) rfl k))) ?_
 rw [own_add pre.length cs2.length]
 obtain ⟨v269, T269, L269, X269, hQ269, st269⟩ := callVp X268 hx hZ (y := y_19) hown (ww hw 85 rfl) (ww hw 86 rfl) (ww hw 88 rfl) (ww hw 89 rfl) (by decide) (backOf (W := 0) (rmEci0 l Z a0 hw [] x1 (Int32.ofNat (pre.length + cs2.length)) tv kb (pre.map fun c => Value.int (StrChars.lo8 c)) h0 n0 (Nat.le_trans Z0 K0.1) hp1 hp2 hp5 (own_cap0 _ hr)) hZ (ww hw 89 rfl) (ww hw 55 rfl) (by decide) (by decide)) hp0 (g := (mkF m 21 #[sr x1, sr x2, si (Int32.ofNat cs2.length)] [(.int (Int32.ofNat (pre.length + cs2.length))), (.ref x1)])) rfl (by rw [hml]; rfl) (kc := 0) (ks := 0) (argsL := [(.int (Int32.ofNat (pre.length + cs2.length)))]) (rest := []) (lenOf pd_22 rfl) rfl (mr0 rfl) (hb hby d12_21) e268 (by decide) (by decide)
 obtain ⟨rfl, N269q, e269⟩ := hQ269
 have N269 := Fr.app N267 N269q
 refine go (S' := T269.setTop (mkF m 26 #[sr x1, sr x2, si (Int32.ofNat cs2.length)] [(.ref x1), (.ref x1)])) (fun t k => st269 _ (XS.aloadN X269.here hx rfl (hb hby d12_24) rfl rfl (XS.aloadN X269.here hx rfl (hb hby d12_25) rfl rfl k))) ?_
 obtain ⟨T270, X270, e270, st270⟩ := getF X269 hx hZ hown (host := "") (Or.inl (ww hw 83 rfl)) Via.refl e269 hp3 (g := (mkF m 26 #[sr x1, sr x2, si (Int32.ofNat cs2.length)] [(.ref x1), (.ref x1)])) rfl rfl (hb hby d12_26)
 refine go (S' := T270.setTop (mkF m 30 #[sr x1, sr x2, si (Int32.ofNat cs2.length)] [(.ref x2), (.int (Int32.ofNat pre.length)), (.ref x1)])) (fun t k => st270 _ (XS.aloadN X270.here hx rfl (hb hby d12_29) rfl rfl k)) ?_
 obtain ⟨v271, T271, L271, X271, hQ271, st271⟩ := callVp X270 hx hZ (y := y_29) hown (ww hw 90 rfl) (ww hw 91 rfl) (ww hw 93 rfl) (ww hw 94 rfl) (by decide) (backOf (W := 0) (rmPs00 l Z a0 hw [] x1 (Int32.ofNat pre.length) x2 tv kb pre t2 cs2 G1 fm h0 n0 (Nat.le_trans Z0 K0.1) hp0 hp1 hp2 hp3 hp4 hp5 hp6 hr hp8 hp9 ne_t2_tv ne_t2_x1 ne_x2_x1 ne_x2_tv ne_tv_x1 hfm hp16 hp17 hG1 hp19 hp20 hp21 O265 rfl) hZ (ww hw 94 rfl) (ww hw 55 rfl) (by decide) (by decide)) hp0 (g := (mkF m 30 #[sr x1, sr x2, si (Int32.ofNat cs2.length)] [(.ref x2), (.int (Int32.ofNat pre.length)), (.ref x1)])) rfl (by rw [hml]; rfl) (kc := 0) (ks := 0) (argsL := [(.int (Int32.ofNat pre.length)), (.ref x2)]) (rest := []) (lenOf pd_23 rfl) rfl (mr0 rfl) (hb hby d12_30) e270 (by decide) (by decide)
 obtain ⟨rfl, N271q, Kq271, q271_0⟩ := hQ271
 have N271 := Fr.app N269 N271q
 have K272 : Keep h0 T271.heap [x1, tv] := K0.trans Kq271 (allS (P := fun x => x ∈ [x1, tv] ∨ h0.size ≤ x) (Or.inl (List.mem_of_getElem? (i := 1) rfl)) all0)
 refine go (S' := T271.setTop (mkF m 35 #[sr x1, sr x2, si (Int32.ofNat cs2.length)] [(.ref x1), (.ref x1)])) (fun t k => st271 _ (XS.aloadN X271.here hx rfl (hb hby d12_33) rfl rfl (XS.dup X271.here hx rfl (hb hby d12_34) rfl rfl k))) ?_
 have f273 : Fld Z T271.heap x1 "java/lang/AbstractStringBuilder" "count" "I" (.int (Int32.ofNat pre.length)) := (hp3.keep Kq271 (ninS (Ne.symm ne_tv_x1) nin0))
 obtain ⟨T274, X274, e274, st274⟩ := getF X271 hx hZ hown (host := "") (Or.inl (ww hw 83 rfl)) Via.refl rfl f273 (g := (mkF m 35 #[sr x1, sr x2, si (Int32.ofNat cs2.length)] [(.ref x1), (.ref x1)])) rfl rfl (hb hby d12_35)
 refine go (S' := T274.setTop (mkF m 40 #[sr x1, sr x2, si (Int32.ofNat cs2.length)] [(.int ((Int32.ofNat pre.length) + (Int32.ofNat cs2.length))), (.ref x1)])) (fun t k => st274 _ (XS.iloadN X274.here hx rfl (hb hby d12_38) rfl (XS.iadd X274.here hx rfl (hb hby d12_39) rfl k))) ?_
 rw [own_add pre.length cs2.length, ← List.length_append]
 obtain ⟨T275, h275, X275, e275, W275, st275⟩ := putF X274 hx hZ hown (host := "") (Or.inl (ww hw 83 rfl)) Via.refl e274 f273 (hp0.keep K272) (Or.inl (ww hw 84 rfl)) (ww hw 46 rfl) (ty := .int) (by decide) rfl rfl (g := (mkF m 40 #[sr x1, sr x2, si (Int32.ofNat cs2.length)] [(.int (Int32.ofNat (pre ++ cs2).length)), (.ref x1)])) rfl rfl (hb hby d12_40)
 have K276 : Keep h0 h275 [x1, tv] := K272.wr W275 (Or.inl (List.mem_of_getElem? (i := 0) rfl))
 have N277 := Fr.snoc X275 N271 hp8
 have f278 : Fld Z h275 x1 "java/lang/AbstractStringBuilder" "count" "I" (.int (Int32.ofNat (pre ++ cs2).length)) := (Fld.same W275 f273)
 refine go (S' := T275.setTop (mkF m 44 #[sr x1, sr x2, si (Int32.ofNat cs2.length)] [(.ref x1)])) (fun t k => st275 _ (XS.aloadN X275.here hx rfl (hb hby d12_43) rfl rfl k)) ?_
 refine finR X275 hx hk hret rfl rfl (hb hby d12_44) (by decide) (by decide) ?_
 have f279 : Fld Z h275 x1 "java/lang/AbstractStringBuilder" "value" "[B" (.ref tv) := (Fld.other W275 (hp1.keep Kq271 (ninS (Ne.symm ne_tv_x1) nin0)) (Or.inr (slot_ne (Or.inl (ww hw 60 rfl)) (Or.inl (ww hw 84 rfl)) (by decide) (t := (.array .byte)) (t' := .int) (by decide) (by decide))))
 have f280 : Fld Z h275 x1 "java/lang/AbstractStringBuilder" "coder" "B" (.int 0) := (Fld.other W275 (hp2.keep Kq271 (ninS (Ne.symm ne_tv_x1) nin0)) (Or.inr (slot_ne (Or.inl (ww hw 62 rfl)) (Or.inl (ww hw 84 rfl)) (by decide) (t := .byte) (t' := .int) (by decide) (by decide))))
 have f281 : Fld Z h275 x1 "java/lang/AbstractStringBuilder" "maybeLatin1" "Z" (.int 0) := (Fld.other W275 (hp4.keep Kq271 (ninS (Ne.symm ne_tv_x1) nin0)) (Or.inr (slot_ne (Or.inl (ww hw 309 rfl)) (Or.inl (ww hw 84 rfl)) (by decide) (t := .boolean) (t' := .int) (by decide) (by decide))))
 have f282 : Arv Z h275 tv kb .byte (16 : Int32) ((pre ++ cs2).map fun c => Value.int (StrChars.lo8 c)) (.int 0) := (q271_0.other W275 ne_tv_x1)
 rw [e275]
 exact ⟨rfl, N277, K276, f279, f280, f278, f281, f282⟩
theorem d11_0 : dd jdk_67_method_7_code 0 (.aload_n 0) 1 := by decide +kernel
theorem d11_1 : dd jdk_67_method_7_code 1 (.aload_n 1) 1 := by decide +kernel
theorem d11_2 : dd jdk_67_method_7_code 2 (.invokespecial 29) 3 := by decide +kernel
theorem pd_24 : parseMethodDescriptor "(Ljava/lang/String;)Ljava/lang/AbstractStringBuilder;" = some ⟨[(.object "java/lang/String")], some (.object "java/lang/AbstractStringBuilder")⟩ := by decide +kernel
theorem d11_5 : dd jdk_67_method_7_code 5 .pop 1 := by decide +kernel
theorem d11_6 : dd jdk_67_method_7_code 6 (.aload_n 0) 1 := by decide +kernel
theorem d11_7 : dd jdk_67_method_7_code 7 .areturn 1 := by decide +kernel
abbrev y_32 : MethodName := ⟨"java/lang/StringBuilder", "append", "(Ljava/lang/String;)Ljava/lang/StringBuilder;"⟩
theorem pn_31 : plainFor y_32 = true := by first | exact plainFor_of_name (by first | (simp [plainName, overriddenIn]; done) | decide +kernel) | decide +kernel
theorem ef_rmSa00 (m : MethodId) (x1 : Addr) (x2 : Addr) : entryFrame m #[(.ref x1), (.ref x2)] 2 = mkF m 0 #[sr x1, sr x2] [] := by first | (simp [entryFrame, mkF, argsToLocals, Value.category]; done) | rfl
def Q_rmSa00 (Z : State) (x1 : Addr) (x2 : Addr) (tv : Addr) (kb : ClassId) (pre : List Int32) (t2 : Addr) (cs2 : List Int32) (G1 : Int32) (fm : Value) (h0 : Heap) (n0 : Nat) (v : Option Value) (h : Heap) (L : List Loc) : Prop := v = some (.ref x1) ∧ Fr n0 L ∧ Keep h0 h [x1, tv] ∧ (Fld Z h x1 "java/lang/AbstractStringBuilder" "value" "[B" (.ref tv)) ∧ (Fld Z h x1 "java/lang/AbstractStringBuilder" "coder" "B" (.int 0)) ∧ (Fld Z h x1 "java/lang/AbstractStringBuilder" "count" "I" (.int (Int32.ofNat (pre ++ cs2).length))) ∧ (Fld Z h x1 "java/lang/AbstractStringBuilder" "maybeLatin1" "Z" (.int 0)) ∧ (Arv Z h tv kb .byte (16 : Int32) ((pre ++ cs2).map fun c => Value.int (StrChars.lo8 c)) (.int 0))
set_option maxRecDepth 65536 in
set_option maxHeartbeats 40000000 in
theorem rmSa00 (l : Launch) (Z : State) (a0 : Array Value) (hw : ∀ d ∈ tables_1, d.before a0 Z = true) (ws : List Jvm.Cond) (x1 : Addr) (x2 : Addr) (tv : Addr) (kb : ClassId) (pre : List Int32) (t2 : Addr) (cs2 : List Int32) (G1 : Int32) (fm : Value) (h0 : Heap) (n0 : Nat) (Z0 : n0 ≤ h0.size) (hp0 : Exa Z h0 x1 "java/lang/StringBuilder") (hp1 : Fld Z h0 x1 "java/lang/AbstractStringBuilder" "value" "[B" (.ref tv)) (hp2 : Fld Z h0 x1 "java/lang/AbstractStringBuilder" "coder" "B" (.int 0)) (hp3 : Fld Z h0 x1 "java/lang/AbstractStringBuilder" "count" "I" (.int (Int32.ofNat pre.length))) (hp4 : Fld Z h0 x1 "java/lang/AbstractStringBuilder" "maybeLatin1" "Z" (.int 0)) (hp5 : Arv Z h0 tv kb .byte (16 : Int32) (pre.map fun c => Value.int (StrChars.lo8 c)) (.int 0)) (hp6 : Str Z h0 x2 t2 (0 : Int32) cs2) (hr : pre.length + cs2.length ≤ 16) (hp8 : n0 ≤ x1) (hp9 : n0 ≤ tv) (hp10 : t2 ≠ tv) (hp11 : t2 ≠ x1) (hp12 : x2 ≠ x1) (hp13 : x2 ≠ tv) (hp14 : tv ≠ x1) (hfm : fm.isRef = true) (hp16 : Sta Z Z.heap "jdk/internal/util/Preconditions" "SIOOBE_FORMATTER" "Ljava/util/function/BiFunction;" fm) (hp17 : Sta Z Z.heap "java/lang/String" "COMPACT_STRINGS" "Z" (.int G1)) (hG1 : ¬ (G1 = (0 : Int32))) (hp19 : Sta Z Z.heap "java/lang/StringUTF16" "$assertionsDisabled" "Z" (.int 1)) (hp20 : Sta Z Z.heap "java/lang/StringUTF16" "HI_BYTE_SHIFT" "I" (.int 0)) (hp21 : Sta Z Z.heap "java/lang/StringUTF16" "LO_BYTE_SHIFT" "I" (.int 8)) (hp22 : Old Z n0 h0) :
    MetFree l y_32 (head1 (Jvm.Cond.code y_32 jdk_67_method_7_code 2 (some (.object "java/lang/StringBuilder")) :: ws) ({ frames := 4, cells := 0, slots := 0, locals := 61 } : Room)) (fun a U => a = #[(.ref x1), (.ref x2)] ∧ Z.Warmed39 U.vm ∧ U.heap = h0) (fun _ _ _ _ _ => True) (fun _ U o U' => ∃ v L, o = .returned v ∧ Q_rmSa00 Z x1 x2 tv kb pre t2 cs2 G1 fm h0 n0 v U'.heap L ∧ FrameEnd U o U' L ({ frames := 4, cells := 0, slots := 0, locals := 61 } : Room).cells ({ frames := 4, cells := 0, slots := 0, locals := 61 } : Room).slots) := by
 refine bodyOf pn_31 (fun m => ef_rmSa00 m x1 x2) ?_
 intro p e s m below meth c T0 X0 hx hby hml hown hnm hret hk hZ e0
 have N0 := Fr.nil n0
 have K0 : Keep h0 h0 [x1, tv] := Keep.refl _ _
 have ne_t2_tv := hp10
 have ne_t2_x1 := hp11
 have ne_x2_x1 := hp12
 have ne_x2_tv := hp13
 have ne_tv_x1 := hp14
 have O0 := hp22
 refine go (S' := T0.setTop (mkF m 2 #[sr x1, sr x2] [(.ref x2), (.ref x1)])) (fun t k => XS.aloadN X0.here hx rfl (hb hby d11_0) rfl rfl (XS.aloadN X0.here hx rfl (hb hby d11_1) rfl rfl k)) ?_
 have O283 : Old Z n0 h0 := O0.keep K0 (allS hp8 (allS hp9 all0))
 obtain ⟨v284, T284, L284, X284, hQ284, st284⟩ := callSu X0 hx hZ (y := y_31) hown (ww hw 68 rfl) (own_same (ww hw 69 rfl) (nf_sel (args := a0) (y' := y_19) rfl (ww hw 88 rfl)) (by decide)) (ww hw 69 rfl) (ww hw 70 rfl) (ww hw 72 rfl) (by decide) (backOf (W := 0) (rmAp00 l Z a0 hw [] x1 x2 tv kb pre t2 cs2 G1 fm h0 n0 (Nat.le_trans Z0 K0.1) hp0 hp1 hp2 hp3 hp4 hp5 hp6 hr hp8 hp9 ne_t2_tv ne_t2_x1 ne_x2_x1 ne_x2_tv ne_tv_x1 hfm hp16 hp17 hG1 hp19 hp20 hp21 O283) hZ (ww hw 72 rfl) (ww hw 55 rfl) (by decide) (by decide)) (Ins.of_exa hp0 (ww hw 54 rfl)) (g := (mkF m 2 #[sr x1, sr x2] [(.ref x2), (.ref x1)])) rfl (by rw [hml]; rfl) (kc := 0) (ks := 0) (argsL := [(.ref x2)]) (rest := []) (lenOf pd_24 rfl) rfl (mr0 rfl) (hb hby d11_2) e0 (by decide) (by decide)
 obtain ⟨rfl, N284q, Kq284, q284_0, q284_1, q284_2, q284_3, q284_4⟩ := hQ284
 have N284 := Fr.app N0 N284q
 have K285 : Keep h0 T284.heap [x1, tv] := K0.trans Kq284 (allS (P := fun x => x ∈ [x1, tv] ∨ h0.size ≤ x) (Or.inl (List.mem_of_getElem? (i := 0) rfl)) (allS (P := fun x => x ∈ [x1, tv] ∨ h0.size ≤ x) (Or.inl (List.mem_of_getElem? (i := 1) rfl)) all0))
 refine go (S' := T284.setTop (mkF m 7 #[sr x1, sr x2] [(.ref x1)])) (fun t k => st284 _ (XS.pop X284.here hx rfl (hb hby d11_5) rfl rfl (XS.aloadN X284.here hx rfl (hb hby d11_6) rfl rfl k))) ?_
 refine finR X284 hx hk hret rfl rfl (hb hby d11_7) (by decide) (by decide) ?_
 exact ⟨rfl, N284, K285, q284_0, q284_1, q284_2, q284_3, q284_4⟩
theorem ef_rmPs01 (m : MethodId) (x1 : Addr) (pi : Int32) (x2 : Addr) : entryFrame m #[(.ref x1), (.int pi), (.ref x2)] 3 = mkF m 0 #[sr x1, si pi, sr x2] [] := by first | (simp [entryFrame, mkF, argsToLocals, Value.category]; done) | rfl
def Q_rmPs01 (Z : State) (x1 : Addr) (pi : Int32) (x2 : Addr) (tv : Addr) (kb : ClassId) (pre : List Int32) (t2 : Addr) (cs2 : List Int32) (G1 : Int32) (fm : Value) (h0 : Heap) (n0 : Nat) (v : Option Value) (h : Heap) (L : List Loc) : Prop := ∃ (t3 : Addr), ∃ (k3 : ClassId), v = none ∧ Fr n0 L ∧ Keep h0 h [x1] ∧ (h0.size ≤ t3) ∧ (Fld Z h x1 "java/lang/AbstractStringBuilder" "value" "[B" (.ref t3)) ∧ (Fld Z h x1 "java/lang/AbstractStringBuilder" "coder" "B" (.int 1)) ∧ (Fld Z h x1 "java/lang/AbstractStringBuilder" "count" "I" (.int (Int32.ofNat pre.length))) ∧ (Fld Z h x1 "java/lang/AbstractStringBuilder" "maybeLatin1" "Z" (.int 0)) ∧ (Arv Z h t3 k3 .byte (Int32.ofNat (2 * 16)) (StrChars.Road.wideBytes (pre ++ cs2)) (.int 0))
set_option maxRecDepth 65536 in
set_option maxHeartbeats 40000000 in
theorem rmPs01 (l : Launch) (Z : State) (a0 : Array Value) (hw : ∀ d ∈ tables_1, d.before a0 Z = true) (ws : List Jvm.Cond) (x1 : Addr) (pi : Int32) (x2 : Addr) (tv : Addr) (kb : ClassId) (pre : List Int32) (t2 : Addr) (cs2 : List Int32) (G1 : Int32) (fm : Value) (h0 : Heap) (n0 : Nat) (Z0 : n0 ≤ h0.size) (hp0 : Exa Z h0 x1 "java/lang/StringBuilder") (hp1 : Fld Z h0 x1 "java/lang/AbstractStringBuilder" "value" "[B" (.ref tv)) (hp2 : Fld Z h0 x1 "java/lang/AbstractStringBuilder" "coder" "B" (.int 0)) (hp3 : Fld Z h0 x1 "java/lang/AbstractStringBuilder" "count" "I" (.int (Int32.ofNat pre.length))) (hp4 : Fld Z h0 x1 "java/lang/AbstractStringBuilder" "maybeLatin1" "Z" (.int 0)) (hp5 : Arv Z h0 tv kb .byte (16 : Int32) (pre.map fun c => Value.int (StrChars.lo8 c)) (.int 0)) (hp6 : Str Z h0 x2 t2 (1 : Int32) cs2) (hlat : ∀ c ∈ pre, ¬ c < 0 ∧ ¬ (255 : Int32) < c) (hr : pre.length + cs2.length ≤ 16) (hp9 : n0 ≤ x1) (hp10 : n0 ≤ tv) (hp11 : t2 ≠ tv) (hp12 : t2 ≠ x1) (hp13 : x2 ≠ x1) (hp14 : x2 ≠ tv) (hp15 : tv ≠ x1) (hfm : fm.isRef = true) (hp17 : Sta Z Z.heap "jdk/internal/util/Preconditions" "SIOOBE_FORMATTER" "Ljava/util/function/BiFunction;" fm) (hp18 : Sta Z Z.heap "java/lang/String" "COMPACT_STRINGS" "Z" (.int G1)) (hG1 : ¬ (G1 = (0 : Int32))) (hp20 : Sta Z Z.heap "java/lang/StringUTF16" "$assertionsDisabled" "Z" (.int 1)) (hp21 : Sta Z Z.heap "java/lang/StringUTF16" "HI_BYTE_SHIFT" "I" (.int 0)) (hp22 : Sta Z Z.heap "java/lang/StringUTF16" "LO_BYTE_SHIFT" "I" (.int 8)) (hp23 : Old Z n0 h0) (hpi : pi = Int32.ofNat pre.length) :
    MetFree l y_29 (head1 (Jvm.Cond.code y_29 jdk_68_method_73_code 3 none :: ws) ({ frames := 7, cells := 1, slots := 32, locals := 102 } : Room)) (fun a U => a = #[(.ref x1), (.int pi), (.ref x2)] ∧ Z.Warmed39 U.vm ∧ U.heap = h0) (fun _ _ _ _ _ => True) (fun _ U o U' => ∃ v L, o = .returned v ∧ Q_rmPs01 Z x1 pi x2 tv kb pre t2 cs2 G1 fm h0 n0 v U'.heap L ∧ FrameEnd U o U' L ({ frames := 7, cells := 1, slots := 32, locals := 102 } : Room).cells ({ frames := 7, cells := 1, slots := 32, locals := 102 } : Room).slots) := by
 refine bodyOf pn_29 (fun m => ef_rmPs01 m x1 pi x2) ?_
 intro p e s m below meth c T0 X0 hx hby hml hown hnm hret hk hZ e0
 have N0 := Fr.nil n0
 have K0 : Keep h0 h0 [x1] := Keep.refl _ _
 have ne_t2_tv := hp11
 have ne_t2_x1 := hp12
 have ne_x2_x1 := hp13
 have ne_x2_tv := hp14
 have ne_tv_x1 := hp15
 have O0 := hp23
 refine go (S' := T0.setTop (mkF m 2 #[sr x1, si pi, sr x2] [(.ref x2), (.ref x1)])) (fun t k => XS.aloadN X0.here hx rfl (hb hby d16_0) rfl rfl (XS.aloadN X0.here hx rfl (hb hby d16_1) rfl rfl k)) ?_
 have O286 : Old Z n0 h0 := O0.keep K0 (allS hp9 all0)
 obtain ⟨v287, T287, L287, X287, hQ287, st287⟩ := callVp X0 hx hZ (y := y_27) hown (ww hw 95 rfl) (ww hw 96 rfl) (ww hw 98 rfl) (ww hw 99 rfl) (by decide) (backOf (W := 0) (rmNn01 l Z a0 hw [] x1 x2 tv kb pre t2 cs2 G1 fm h0 n0 (Nat.le_trans Z0 K0.1) hp0 hp1 hp2 hp3 hp4 hp5 hp6 hlat (by omega) hp9 hfm hp17 hp18 hG1 hp20 hp21 hp22 O286) hZ (ww hw 99 rfl) (ww hw 55 rfl) (by decide) (by decide)) hp0 (g := (mkF m 2 #[sr x1, si pi, sr x2] [(.ref x2), (.ref x1)])) rfl (by rw [hml]; rfl) (kc := 1) (ks := 32) (argsL := [(.ref x2)]) (rest := []) (lenOf pd_19 rfl) rfl (mr0 rfl) (hb hby d16_2) e0 (by decide) (by decide)
 obtain ⟨t3_287, k3_287, rfl, N287q, Kq287, q287_0, q287_1, q287_2, q287_3, q287_4, q287_5⟩ := hQ287
 have N287 := Fr.app N0 N287q
 have K288 : Keep h0 T287.heap [x1] := K0.trans Kq287 (allS (P := fun x => x ∈ [x1] ∨ h0.size ≤ x) (Or.inl (List.mem_of_getElem? (i := 0) rfl)) all0)
 have lt_x1_t3_287 : x1 < t3_287 := Nat.lt_of_lt_of_le hp0.lt q287_0
 have lt_tv_t3_287 : tv < t3_287 := Nat.lt_of_lt_of_le hp5.lt q287_0
 have lt_x2_t3_287 : x2 < t3_287 := Nat.lt_of_lt_of_le hp6.lt1 q287_0
 have lt_t2_t3_287 : t2 < t3_287 := Nat.lt_of_lt_of_le hp6.lt2 q287_0
 have sz_t3_287 : h0.size ≤ t3_287 := Nat.le_trans K0.1 q287_0
 have ge_t3_287 : n0 ≤ t3_287 := Nat.le_trans Z0 sz_t3_287
 refine go (S' := T287.setTop (mkF m 7 #[sr x1, si pi, sr x2] [(.ref x1), (.ref x2)])) (fun t k => st287 _ (XS.aloadN X287.here hx rfl (hb hby d16_5) rfl rfl (XS.aloadN X287.here hx rfl (hb hby d16_6) rfl rfl k))) ?_
 obtain ⟨T289, X289, e289, st289⟩ := getF X287 hx hZ hown (host := "") (Or.inl (ww hw 59 rfl)) Via.refl rfl q287_1 (g := (mkF m 7 #[sr x1, si pi, sr x2] [(.ref x1), (.ref x2)])) rfl rfl (hb hby d16_7)
 refine go (S' := T289.setTop (mkF m 12 #[sr x1, si pi, sr x2] [(.ref x1), (.int pi), (.ref t3_287), (.ref x2)])) (fun t k => st289 _ (XS.iloadN X289.here hx rfl (hb hby d16_10) rfl (XS.aloadN X289.here hx rfl (hb hby d16_11) rfl rfl k))) ?_
 obtain ⟨T290, X290, e290, st290⟩ := getF X289 hx hZ hown (host := "") (Or.inl (ww hw 61 rfl)) Via.refl e289 q287_2 (g := (mkF m 12 #[sr x1, si pi, sr x2] [(.ref x1), (.int pi), (.ref t3_287), (.ref x2)])) rfl rfl (hb hby d16_12)
 refine go (S' := T290.setTop (mkF m 15 #[sr x1, si pi, sr x2] [(.int 1), (.int pi), (.ref t3_287), (.ref x2)])) st290 ?_
 have O291 : Old Z n0 T287.heap := O0.keep K288 (allS hp9 all0)
 obtain ⟨v292, T292, L292, X292, hQ292, st292⟩ := callV X290 hx hZ (y := y_28) (z := y_28) hown (ww hw 101 rfl) (ww hw 102 rfl) (notFace_of_selects (args := #[]) (mvT hZ (ww hw 104 rfl))) (ww hw 104 rfl) (ww hw 103 rfl) (by decide) (backOf (W := 0) (rmGb11 l Z a0 hw [] x2 t3_287 pi t2 cs2 k3_287 pre G1 fm T287.heap n0 (Nat.le_trans Z0 K288.1) (hp6.keep K288 (ninS ne_x2_x1 nin0) (ninS ne_t2_x1 nin0)) q287_5 hpi hr ge_t3_287 (Nat.ne_of_lt lt_t2_t3_287) hfm hp17 hp18 hG1 hp20 hp21 hp22 O291) hZ (ww hw 105 rfl) (ww hw 8 rfl) (by decide) (by decide)) (hp6.keep K288 (ninS ne_x2_x1 nin0) (ninS ne_t2_x1 nin0)).exa (g := (mkF m 15 #[sr x1, si pi, sr x2] [(.int 1), (.int pi), (.ref t3_287), (.ref x2)])) rfl (by rw [hml]; rfl) (kc := 0) (ks := 0) (argsL := [(.ref t3_287), (.int pi), (.int 1)]) (rest := []) (lenOf pd_20 rfl) rfl (mr0 rfl) (hb hby d16_15) e290 (by decide) (by decide)
 obtain ⟨rfl, N292q, Kq292, q292_0⟩ := hQ292
 have N292 := Fr.app N287 N292q
 have K293 : Keep h0 T292.heap [x1] := K288.trans Kq292 (allS (P := fun x => x ∈ [x1] ∨ h0.size ≤ x) (Or.inr sz_t3_287) all0)
 refine go (S' := T292.setTop (mkF m 18 #[sr x1, si pi, sr x2] [])) st292 ?_
 refine finV X292 hx hk hret (hb hby d16_18) (by decide) (by decide) ?_
 have f294 : Fld Z T292.heap x1 "java/lang/AbstractStringBuilder" "value" "[B" (.ref t3_287) := (q287_1.keep Kq292 (ninS (Nat.ne_of_lt lt_x1_t3_287) nin0))
 have f295 : Fld Z T292.heap x1 "java/lang/AbstractStringBuilder" "coder" "B" (.int 1) := (q287_2.keep Kq292 (ninS (Nat.ne_of_lt lt_x1_t3_287) nin0))
 have f296 : Fld Z T292.heap x1 "java/lang/AbstractStringBuilder" "count" "I" (.int (Int32.ofNat pre.length)) := (q287_3.keep Kq292 (ninS (Nat.ne_of_lt lt_x1_t3_287) nin0))
 have f297 : Fld Z T292.heap x1 "java/lang/AbstractStringBuilder" "maybeLatin1" "Z" (.int 0) := (q287_4.keep Kq292 (ninS (Nat.ne_of_lt lt_x1_t3_287) nin0))
 exact ⟨t3_287, k3_287, rfl, N292, K293, sz_t3_287, f294, f295, f296, f297, q292_0⟩
theorem ef_rmAp01 (m : MethodId) (x1 : Addr) (x2 : Addr) : entryFrame m #[(.ref x1), (.ref x2)] 3 = mkF m 0 #[sr x1, sr x2, un] [] := by first | (simp [entryFrame, mkF, argsToLocals, Value.category]; done) | rfl
def Q_rmAp01 (Z : State) (x1 : Addr) (x2 : Addr) (tv : Addr) (kb : ClassId) (pre : List Int32) (t2 : Addr) (cs2 : List Int32) (G1 : Int32) (fm : Value) (h0 : Heap) (n0 : Nat) (v : Option Value) (h : Heap) (L : List Loc) : Prop := ∃ (t3 : Addr), ∃ (k3 : ClassId), v = some (.ref x1) ∧ Fr n0 L ∧ Keep h0 h [x1] ∧ (h0.size ≤ t3) ∧ (Fld Z h x1 "java/lang/AbstractStringBuilder" "value" "[B" (.ref t3)) ∧ (Fld Z h x1 "java/lang/AbstractStringBuilder" "coder" "B" (.int 1)) ∧ (Fld Z h x1 "java/lang/AbstractStringBuilder" "count" "I" (.int (Int32.ofNat (pre ++ cs2).length))) ∧ (Fld Z h x1 "java/lang/AbstractStringBuilder" "maybeLatin1" "Z" (.int 0)) ∧ (Arv Z h t3 k3 .byte (Int32.ofNat (2 * 16)) (StrChars.Road.wideBytes (pre ++ cs2)) (.int 0))
set_option maxRecDepth 65536 in
set_option maxHeartbeats 40000000 in
theorem rmAp01 (l : Launch) (Z : State) (a0 : Array Value) (hw : ∀ d ∈ tables_1, d.before a0 Z = true) (ws : List Jvm.Cond) (x1 : Addr) (x2 : Addr) (tv : Addr) (kb : ClassId) (pre : List Int32) (t2 : Addr) (cs2 : List Int32) (G1 : Int32) (fm : Value) (h0 : Heap) (n0 : Nat) (Z0 : n0 ≤ h0.size) (hp0 : Exa Z h0 x1 "java/lang/StringBuilder") (hp1 : Fld Z h0 x1 "java/lang/AbstractStringBuilder" "value" "[B" (.ref tv)) (hp2 : Fld Z h0 x1 "java/lang/AbstractStringBuilder" "coder" "B" (.int 0)) (hp3 : Fld Z h0 x1 "java/lang/AbstractStringBuilder" "count" "I" (.int (Int32.ofNat pre.length))) (hp4 : Fld Z h0 x1 "java/lang/AbstractStringBuilder" "maybeLatin1" "Z" (.int 0)) (hp5 : Arv Z h0 tv kb .byte (16 : Int32) (pre.map fun c => Value.int (StrChars.lo8 c)) (.int 0)) (hp6 : Str Z h0 x2 t2 (1 : Int32) cs2) (hlat : ∀ c ∈ pre, ¬ c < 0 ∧ ¬ (255 : Int32) < c) (hr : pre.length + cs2.length ≤ 16) (hp9 : n0 ≤ x1) (hp10 : n0 ≤ tv) (hp11 : t2 ≠ tv) (hp12 : t2 ≠ x1) (hp13 : x2 ≠ x1) (hp14 : x2 ≠ tv) (hp15 : tv ≠ x1) (hfm : fm.isRef = true) (hp17 : Sta Z Z.heap "jdk/internal/util/Preconditions" "SIOOBE_FORMATTER" "Ljava/util/function/BiFunction;" fm) (hp18 : Sta Z Z.heap "java/lang/String" "COMPACT_STRINGS" "Z" (.int G1)) (hG1 : ¬ (G1 = (0 : Int32))) (hp20 : Sta Z Z.heap "java/lang/StringUTF16" "$assertionsDisabled" "Z" (.int 1)) (hp21 : Sta Z Z.heap "java/lang/StringUTF16" "HI_BYTE_SHIFT" "I" (.int 0)) (hp22 : Sta Z Z.heap "java/lang/StringUTF16" "LO_BYTE_SHIFT" "I" (.int 8)) (hp23 : Old Z n0 h0) :
    MetFree l y_31 (head1 (Jvm.Cond.code y_31 jdk_68_method_22_code 3 (some (.object "java/lang/AbstractStringBuilder")) :: ws) ({ frames := 8, cells := 1, slots := 32, locals := 116 } : Room)) (fun a U => a = #[(.ref x1), (.ref x2)] ∧ Z.Warmed39 U.vm ∧ U.heap = h0) (fun _ _ _ _ _ => True) (fun _ U o U' => ∃ v L, o = .returned v ∧ Q_rmAp01 Z x1 x2 tv kb pre t2 cs2 G1 fm h0 n0 v U'.heap L ∧ FrameEnd U o U' L ({ frames := 8, cells := 1, slots := 32, locals := 116 } : Room).cells ({ frames := 8, cells := 1, slots := 32, locals := 116 } : Room).slots) := by
 refine bodyOf pn_30 (fun m => ef_rmAp01 m x1 x2) ?_
 intro p e s m below meth c T0 X0 hx hby hml hown hnm hret hk hZ e0
 have N0 := Fr.nil n0
 have K0 : Keep h0 h0 [x1] := Keep.refl _ _
 have ne_t2_tv := hp11
 have ne_t2_x1 := hp12
 have ne_x2_x1 := hp13
 have ne_x2_tv := hp14
 have ne_tv_x1 := hp15
 have O0 := hp23
 refine go (S' := T0.setTop (mkF m 10 #[sr x1, sr x2, un] [(.ref x2)])) (fun t k => XS.aloadN X0.here hx rfl (hb hby d12_0) rfl rfl (XS.ifnonnullYes X0.here hx rfl (pc0 := 1) (pc' := 9) rfl (hb hby d12_1) rfl (by decide) (by decide) (XS.aloadN X0.here hx rfl (hb hby d12_9) rfl rfl k))) ?_
 have O298 : Old Z n0 h0 := O0.keep K0 (allS hp9 all0)
 obtain ⟨kb299, N2299, vs299, qE299, qV299, qC299, qA299, qcd299, qbd299, ql299⟩ := id hp6
 obtain ⟨v300, T300, L300, X300, hQ300, st300⟩ := callV X0 hx hZ (y := y_30) (z := y_30) hown (ww hw 73 rfl) (ww hw 74 rfl) (notFace_of_selects (args := #[]) (mvT hZ (ww hw 76 rfl))) (ww hw 76 rfl) (ww hw 75 rfl) (by decide) (StrChars.Road.lenW (W := 0) hZ (own_sub StrChars_wordsLen hw) (kI := 4) (ww hw 7 rfl) qE299 qV299 qC299 qA299 qcd299 qbd299 (hp18.ext O298.2) hG1 ql299 (by decide) (by decide)) hp6.exa (g := (mkF m 10 #[sr x1, sr x2, un] [(.ref x2)])) rfl (by rw [hml]; rfl) (Q := (fun v h' L => v = some (.int (Int32.ofNat cs2.length)) ∧ L = [] ∧ h' = h0)) (kc := 0) (ks := 0) (argsL := []) (rest := []) (lenOf pd_21 rfl) rfl (mr0 rfl) (hb hby d12_10) e0 (by decide) (by decide)
 obtain ⟨rfl, rfl, e300⟩ := hQ300
 have N300 := Fr.app N0 (Fr.nil n0)
 refine go (S' := T300.setTop (mkF m 16 #[sr x1, sr x2, si (Int32.ofNat cs2.length)] [(.ref x1), (.ref x1)])) (fun t k => st300 _ (XS.istoreN X300.here hx rfl (hb hby d12_13) rfl (l' := #[sr x1, sr x2, si (Int32.ofNat cs2.length)]) rfl (XS.aloadN X300.here hx rfl (hb hby d12_14) rfl rfl (XS.aloadN X300.here hx rfl (hb hby d12_15) rfl rfl k)))) ?_
 obtain ⟨T301, X301, e301, st301⟩ := getF X300 hx hZ hown (host := "") (Or.inl (ww hw 83 rfl)) Via.refl e300 hp3 (g := (mkF m 16 #[sr x1, sr x2, si (Int32.ofNat cs2.length)] [(.ref x1), (.ref x1)])) rfl rfl (hb hby d12_16)
 refine go (S' := T301.setTop (mkF m 21 #[sr x1, sr x2, si (Int32.ofNat cs2.length)] [(.int ((Int32.ofNat pre.length) + (Int32.ofNat cs2.length))), (.ref x1)])) (fun t k => st301 _ (XS.iloadN X301.here hx rfl (hb hby d12_19) rfl (XS.iadd X301.here hx rfl (hb hby d12_20) rfl k))) ?_
 rw [own_add pre.length cs2.length]
 obtain ⟨v302, T302, L302, X302, hQ302, st302⟩ := callVp X301 hx hZ (y := y_19) hown (ww hw 85 rfl) (ww hw 86 rfl) (ww hw 88 rfl) (ww hw 89 rfl) (by decide) (backOf (W := 0) (rmEci0 l Z a0 hw [] x1 (Int32.ofNat (pre.length + cs2.length)) tv kb (pre.map fun c => Value.int (StrChars.lo8 c)) h0 n0 (Nat.le_trans Z0 K0.1) hp1 hp2 hp5 (own_cap0 _ hr)) hZ (ww hw 89 rfl) (ww hw 55 rfl) (by decide) (by decide)) hp0 (g := (mkF m 21 #[sr x1, sr x2, si (Int32.ofNat cs2.length)] [(.int (Int32.ofNat (pre.length + cs2.length))), (.ref x1)])) rfl (by rw [hml]; rfl) (kc := 0) (ks := 0) (argsL := [(.int (Int32.ofNat (pre.length + cs2.length)))]) (rest := []) (lenOf pd_22 rfl) rfl (mr0 rfl) (hb hby d12_21) e301 (by decide) (by decide)
 obtain ⟨rfl, N302q, e302⟩ := hQ302
 have N302 := Fr.app N300 N302q
 refine go (S' := T302.setTop (mkF m 26 #[sr x1, sr x2, si (Int32.ofNat cs2.length)] [(.ref x1), (.ref x1)])) (fun t k => st302 _ (XS.aloadN X302.here hx rfl (hb hby d12_24) rfl rfl (XS.aloadN X302.here hx rfl (hb hby d12_25) rfl rfl k))) ?_
 obtain ⟨T303, X303, e303, st303⟩ := getF X302 hx hZ hown (host := "") (Or.inl (ww hw 83 rfl)) Via.refl e302 hp3 (g := (mkF m 26 #[sr x1, sr x2, si (Int32.ofNat cs2.length)] [(.ref x1), (.ref x1)])) rfl rfl (hb hby d12_26)
 refine go (S' := T303.setTop (mkF m 30 #[sr x1, sr x2, si (Int32.ofNat cs2.length)] [(.ref x2), (.int (Int32.ofNat pre.length)), (.ref x1)])) (fun t k => st303 _ (XS.aloadN X303.here hx rfl (hb hby d12_29) rfl rfl k)) ?_
 obtain ⟨v304, T304, L304, X304, hQ304, st304⟩ := callVp X303 hx hZ (y := y_29) hown (ww hw 90 rfl) (ww hw 91 rfl) (ww hw 93 rfl) (ww hw 94 rfl) (by decide) (backOf (W := 0) (rmPs01 l Z a0 hw [] x1 (Int32.ofNat pre.length) x2 tv kb pre t2 cs2 G1 fm h0 n0 (Nat.le_trans Z0 K0.1) hp0 hp1 hp2 hp3 hp4 hp5 hp6 hlat hr hp9 hp10 ne_t2_tv ne_t2_x1 ne_x2_x1 ne_x2_tv ne_tv_x1 hfm hp17 hp18 hG1 hp20 hp21 hp22 O298 rfl) hZ (ww hw 94 rfl) (ww hw 55 rfl) (by decide) (by decide)) hp0 (g := (mkF m 30 #[sr x1, sr x2, si (Int32.ofNat cs2.length)] [(.ref x2), (.int (Int32.ofNat pre.length)), (.ref x1)])) rfl (by rw [hml]; rfl) (kc := 1) (ks := 32) (argsL := [(.int (Int32.ofNat pre.length)), (.ref x2)]) (rest := []) (lenOf pd_23 rfl) rfl (mr0 rfl) (hb hby d12_30) e303 (by decide) (by decide)
 obtain ⟨t3_304, k3_304, rfl, N304q, Kq304, q304_0, q304_1, q304_2, q304_3, q304_4, q304_5⟩ := hQ304
 have N304 := Fr.app N302 N304q
 have K305 : Keep h0 T304.heap [x1] := K0.trans Kq304 (allS (P := fun x => x ∈ [x1] ∨ h0.size ≤ x) (Or.inl (List.mem_of_getElem? (i := 0) rfl)) all0)
 have lt_x1_t3_304 : x1 < t3_304 := Nat.lt_of_lt_of_le hp0.lt q304_0
 have lt_tv_t3_304 : tv < t3_304 := Nat.lt_of_lt_of_le hp5.lt q304_0
 have lt_x2_t3_304 : x2 < t3_304 := Nat.lt_of_lt_of_le hp6.lt1 q304_0
 have lt_t2_t3_304 : t2 < t3_304 := Nat.lt_of_lt_of_le hp6.lt2 q304_0
 have sz_t3_304 : h0.size ≤ t3_304 := Nat.le_trans K0.1 q304_0
 have ge_t3_304 : n0 ≤ t3_304 := Nat.le_trans Z0 sz_t3_304
 refine go (S' := T304.setTop (mkF m 35 #[sr x1, sr x2, si (Int32.ofNat cs2.length)] [(.ref x1), (.ref x1)])) (fun t k => st304 _ (XS.aloadN X304.here hx rfl (hb hby d12_33) rfl rfl (XS.dup X304.here hx rfl (hb hby d12_34) rfl rfl k))) ?_
 obtain ⟨T306, X306, e306, st306⟩ := getF X304 hx hZ hown (host := "") (Or.inl (ww hw 83 rfl)) Via.refl rfl q304_3 (g := (mkF m 35 #[sr x1, sr x2, si (Int32.ofNat cs2.length)] [(.ref x1), (.ref x1)])) rfl rfl (hb hby d12_35)
 refine go (S' := T306.setTop (mkF m 40 #[sr x1, sr x2, si (Int32.ofNat cs2.length)] [(.int ((Int32.ofNat pre.length) + (Int32.ofNat cs2.length))), (.ref x1)])) (fun t k => st306 _ (XS.iloadN X306.here hx rfl (hb hby d12_38) rfl (XS.iadd X306.here hx rfl (hb hby d12_39) rfl k))) ?_
 rw [own_add pre.length cs2.length, ← List.length_append]
 obtain ⟨T307, h307, X307, e307, W307, st307⟩ := putF X306 hx hZ hown (host := "") (Or.inl (ww hw 83 rfl)) Via.refl e306 q304_3 (hp0.keep K305) (Or.inl (ww hw 84 rfl)) (ww hw 46 rfl) (ty := .int) (by decide) rfl rfl (g := (mkF m 40 #[sr x1, sr x2, si (Int32.ofNat cs2.length)] [(.int (Int32.ofNat (pre ++ cs2).length)), (.ref x1)])) rfl rfl (hb hby d12_40)
 have K308 : Keep h0 h307 [x1] := K305.wr W307 (Or.inl (List.mem_of_getElem? (i := 0) rfl))
 have N309 := Fr.snoc X307 N304 hp9
 have f310 : Fld Z h307 x1 "java/lang/AbstractStringBuilder" "count" "I" (.int (Int32.ofNat (pre ++ cs2).length)) := (Fld.same W307 q304_3)
 refine go (S' := T307.setTop (mkF m 44 #[sr x1, sr x2, si (Int32.ofNat cs2.length)] [(.ref x1)])) (fun t k => st307 _ (XS.aloadN X307.here hx rfl (hb hby d12_43) rfl rfl k)) ?_
 refine finR X307 hx hk hret rfl rfl (hb hby d12_44) (by decide) (by decide) ?_
 have f311 : Fld Z h307 x1 "java/lang/AbstractStringBuilder" "value" "[B" (.ref t3_304) := (Fld.other W307 q304_1 (Or.inr (slot_ne (Or.inl (ww hw 60 rfl)) (Or.inl (ww hw 84 rfl)) (by decide) (t := (.array .byte)) (t' := .int) (by decide) (by decide))))
 have f312 : Fld Z h307 x1 "java/lang/AbstractStringBuilder" "coder" "B" (.int 1) := (Fld.other W307 q304_2 (Or.inr (slot_ne (Or.inl (ww hw 62 rfl)) (Or.inl (ww hw 84 rfl)) (by decide) (t := .byte) (t' := .int) (by decide) (by decide))))
 have f313 : Fld Z h307 x1 "java/lang/AbstractStringBuilder" "maybeLatin1" "Z" (.int 0) := (Fld.other W307 q304_4 (Or.inr (slot_ne (Or.inl (ww hw 309 rfl)) (Or.inl (ww hw 84 rfl)) (by decide) (t := .boolean) (t' := .int) (by decide) (by decide))))
 have f314 : Arv Z h307 t3_304 k3_304 .byte (Int32.ofNat (2 * 16)) (StrChars.Road.wideBytes (pre ++ cs2)) (.int 0) := (q304_5.other W307 (Nat.ne_of_gt lt_x1_t3_304))
 rw [e307]
 exact ⟨t3_304, k3_304, rfl, N309, K308, sz_t3_304, f311, f312, f310, f313, f314⟩
theorem ef_rmSa01 (m : MethodId) (x1 : Addr) (x2 : Addr) : entryFrame m #[(.ref x1), (.ref x2)] 2 = mkF m 0 #[sr x1, sr x2] [] := by first | (simp [entryFrame, mkF, argsToLocals, Value.category]; done) | rfl
def Q_rmSa01 (Z : State) (x1 : Addr) (x2 : Addr) (tv : Addr) (kb : ClassId) (pre : List Int32) (t2 : Addr) (cs2 : List Int32) (G1 : Int32) (fm : Value) (h0 : Heap) (n0 : Nat) (v : Option Value) (h : Heap) (L : List Loc) : Prop := ∃ (t3 : Addr), ∃ (k3 : ClassId), v = some (.ref x1) ∧ Fr n0 L ∧ Keep h0 h [x1] ∧ (h0.size ≤ t3) ∧ (Fld Z h x1 "java/lang/AbstractStringBuilder" "value" "[B" (.ref t3)) ∧ (Fld Z h x1 "java/lang/AbstractStringBuilder" "coder" "B" (.int 1)) ∧ (Fld Z h x1 "java/lang/AbstractStringBuilder" "count" "I" (.int (Int32.ofNat (pre ++ cs2).length))) ∧ (Fld Z h x1 "java/lang/AbstractStringBuilder" "maybeLatin1" "Z" (.int 0)) ∧ (Arv Z h t3 k3 .byte (Int32.ofNat (2 * 16)) (StrChars.Road.wideBytes (pre ++ cs2)) (.int 0))
set_option maxRecDepth 65536 in
set_option maxHeartbeats 40000000 in
theorem rmSa01 (l : Launch) (Z : State) (a0 : Array Value) (hw : ∀ d ∈ tables_1, d.before a0 Z = true) (ws : List Jvm.Cond) (x1 : Addr) (x2 : Addr) (tv : Addr) (kb : ClassId) (pre : List Int32) (t2 : Addr) (cs2 : List Int32) (G1 : Int32) (fm : Value) (h0 : Heap) (n0 : Nat) (Z0 : n0 ≤ h0.size) (hp0 : Exa Z h0 x1 "java/lang/StringBuilder") (hp1 : Fld Z h0 x1 "java/lang/AbstractStringBuilder" "value" "[B" (.ref tv)) (hp2 : Fld Z h0 x1 "java/lang/AbstractStringBuilder" "coder" "B" (.int 0)) (hp3 : Fld Z h0 x1 "java/lang/AbstractStringBuilder" "count" "I" (.int (Int32.ofNat pre.length))) (hp4 : Fld Z h0 x1 "java/lang/AbstractStringBuilder" "maybeLatin1" "Z" (.int 0)) (hp5 : Arv Z h0 tv kb .byte (16 : Int32) (pre.map fun c => Value.int (StrChars.lo8 c)) (.int 0)) (hp6 : Str Z h0 x2 t2 (1 : Int32) cs2) (hlat : ∀ c ∈ pre, ¬ c < 0 ∧ ¬ (255 : Int32) < c) (hr : pre.length + cs2.length ≤ 16) (hp9 : n0 ≤ x1) (hp10 : n0 ≤ tv) (hp11 : t2 ≠ tv) (hp12 : t2 ≠ x1) (hp13 : x2 ≠ x1) (hp14 : x2 ≠ tv) (hp15 : tv ≠ x1) (hfm : fm.isRef = true) (hp17 : Sta Z Z.heap "jdk/internal/util/Preconditions" "SIOOBE_FORMATTER" "Ljava/util/function/BiFunction;" fm) (hp18 : Sta Z Z.heap "java/lang/String" "COMPACT_STRINGS" "Z" (.int G1)) (hG1 : ¬ (G1 = (0 : Int32))) (hp20 : Sta Z Z.heap "java/lang/StringUTF16" "$assertionsDisabled" "Z" (.int 1)) (hp21 : Sta Z Z.heap "java/lang/StringUTF16" "HI_BYTE_SHIFT" "I" (.int 0)) (hp22 : Sta Z Z.heap "java/lang/StringUTF16" "LO_BYTE_SHIFT" "I" (.int 8)) (hp23 : Old Z n0 h0) :
    MetFree l y_32 (head1 (Jvm.Cond.code y_32 jdk_67_method_7_code 2 (some (.object "java/lang/StringBuilder")) :: ws) ({ frames := 9, cells := 1, slots := 32, locals := 130 } : Room)) (fun a U => a = #[(.ref x1), (.ref x2)] ∧ Z.Warmed39 U.vm ∧ U.heap = h0) (fun _ _ _ _ _ => True) (fun _ U o U' => ∃ v L, o = .returned v ∧ Q_rmSa01 Z x1 x2 tv kb pre t2 cs2 G1 fm h0 n0 v U'.heap L ∧ FrameEnd U o U' L ({ frames := 9, cells := 1, slots := 32, locals := 130 } : Room).cells ({ frames := 9, cells := 1, slots := 32, locals := 130 } : Room).slots) := by
 refine bodyOf pn_31 (fun m => ef_rmSa01 m x1 x2) ?_
 intro p e s m below meth c T0 X0 hx hby hml hown hnm hret hk hZ e0
 have N0 := Fr.nil n0
 have K0 : Keep h0 h0 [x1] := Keep.refl _ _
 have ne_t2_tv := hp11
 have ne_t2_x1 := hp12
 have ne_x2_x1 := hp13
 have ne_x2_tv := hp14
 have ne_tv_x1 := hp15
 have O0 := hp23
 refine go (S' := T0.setTop (mkF m 2 #[sr x1, sr x2] [(.ref x2), (.ref x1)])) (fun t k => XS.aloadN X0.here hx rfl (hb hby d11_0) rfl rfl (XS.aloadN X0.here hx rfl (hb hby d11_1) rfl rfl k)) ?_
 have O315 : Old Z n0 h0 := O0.keep K0 (allS hp9 all0)
 obtain ⟨v316, T316, L316, X316, hQ316, st316⟩ := callSu X0 hx hZ (y := y_31) hown (ww hw 68 rfl) (own_same (ww hw 69 rfl) (nf_sel (args := a0) (y' := y_19) rfl (ww hw 88 rfl)) (by decide)) (ww hw 69 rfl) (ww hw 70 rfl) (ww hw 72 rfl) (by decide) (backOf (W := 0) (rmAp01 l Z a0 hw [] x1 x2 tv kb pre t2 cs2 G1 fm h0 n0 (Nat.le_trans Z0 K0.1) hp0 hp1 hp2 hp3 hp4 hp5 hp6 hlat hr hp9 hp10 ne_t2_tv ne_t2_x1 ne_x2_x1 ne_x2_tv ne_tv_x1 hfm hp17 hp18 hG1 hp20 hp21 hp22 O315) hZ (ww hw 72 rfl) (ww hw 55 rfl) (by decide) (by decide)) (Ins.of_exa hp0 (ww hw 54 rfl)) (g := (mkF m 2 #[sr x1, sr x2] [(.ref x2), (.ref x1)])) rfl (by rw [hml]; rfl) (kc := 1) (ks := 32) (argsL := [(.ref x2)]) (rest := []) (lenOf pd_24 rfl) rfl (mr0 rfl) (hb hby d11_2) e0 (by decide) (by decide)
 obtain ⟨t3_316, k3_316, rfl, N316q, Kq316, q316_0, q316_1, q316_2, q316_3, q316_4, q316_5⟩ := hQ316
 have N316 := Fr.app N0 N316q
 have K317 : Keep h0 T316.heap [x1] := K0.trans Kq316 (allS (P := fun x => x ∈ [x1] ∨ h0.size ≤ x) (Or.inl (List.mem_of_getElem? (i := 0) rfl)) all0)
 have lt_x1_t3_316 : x1 < t3_316 := Nat.lt_of_lt_of_le hp0.lt q316_0
 have lt_tv_t3_316 : tv < t3_316 := Nat.lt_of_lt_of_le hp5.lt q316_0
 have lt_x2_t3_316 : x2 < t3_316 := Nat.lt_of_lt_of_le hp6.lt1 q316_0
 have lt_t2_t3_316 : t2 < t3_316 := Nat.lt_of_lt_of_le hp6.lt2 q316_0
 have sz_t3_316 : h0.size ≤ t3_316 := Nat.le_trans K0.1 q316_0
 have ge_t3_316 : n0 ≤ t3_316 := Nat.le_trans Z0 sz_t3_316
 refine go (S' := T316.setTop (mkF m 7 #[sr x1, sr x2] [(.ref x1)])) (fun t k => st316 _ (XS.pop X316.here hx rfl (hb hby d11_5) rfl rfl (XS.aloadN X316.here hx rfl (hb hby d11_6) rfl rfl k))) ?_
 refine finR X316 hx hk hret rfl rfl (hb hby d11_7) (by decide) (by decide) ?_
 exact ⟨t3_316, k3_316, rfl, N316, K317, sz_t3_316, q316_1, q316_2, q316_3, q316_4, q316_5⟩
theorem ef_rmPs10 (m : MethodId) (x1 : Addr) (pi : Int32) (x2 : Addr) : entryFrame m #[(.ref x1), (.int pi), (.ref x2)] 3 = mkF m 0 #[sr x1, si pi, sr x2] [] := by first | (simp [entryFrame, mkF, argsToLocals, Value.category]; done) | rfl
def Q_rmPs10 (Z : State) (x1 : Addr) (pi : Int32) (x2 : Addr) (tv : Addr) (kb : ClassId) (pre : List Int32) (t2 : Addr) (cs2 : List Int32) (G1 : Int32) (fm : Value) (h0 : Heap) (n0 : Nat) (v : Option Value) (h : Heap) (L : List Loc) : Prop := v = none ∧ Fr n0 L ∧ Keep h0 h [tv] ∧ (Arv Z h tv kb .byte (Int32.ofNat (2 * 16)) (StrChars.Road.wideBytes (pre ++ cs2)) (.int 0))
set_option maxRecDepth 65536 in
set_option maxHeartbeats 40000000 in
theorem rmPs10 (l : Launch) (Z : State) (a0 : Array Value) (hw : ∀ d ∈ tables_1, d.before a0 Z = true) (ws : List Jvm.Cond) (x1 : Addr) (pi : Int32) (x2 : Addr) (tv : Addr) (kb : ClassId) (pre : List Int32) (t2 : Addr) (cs2 : List Int32) (G1 : Int32) (fm : Value) (h0 : Heap) (n0 : Nat) (Z0 : n0 ≤ h0.size) (hp0 : Exa Z h0 x1 "java/lang/StringBuilder") (hp1 : Fld Z h0 x1 "java/lang/AbstractStringBuilder" "value" "[B" (.ref tv)) (hp2 : Fld Z h0 x1 "java/lang/AbstractStringBuilder" "coder" "B" (.int 1)) (hp3 : Fld Z h0 x1 "java/lang/AbstractStringBuilder" "count" "I" (.int (Int32.ofNat pre.length))) (hp4 : Fld Z h0 x1 "java/lang/AbstractStringBuilder" "maybeLatin1" "Z" (.int 0)) (hp5 : Arv Z h0 tv kb .byte (Int32.ofNat (2 * 16)) (StrChars.Road.wideBytes pre) (.int 0)) (hp6 : Str Z h0 x2 t2 (0 : Int32) cs2) (hr : pre.length + cs2.length ≤ 16) (hp8 : n0 ≤ x1) (hp9 : n0 ≤ tv) (hp10 : t2 ≠ tv) (hp11 : t2 ≠ x1) (hp12 : x2 ≠ x1) (hp13 : x2 ≠ tv) (hp14 : tv ≠ x1) (hfm : fm.isRef = true) (hp16 : Sta Z Z.heap "jdk/internal/util/Preconditions" "SIOOBE_FORMATTER" "Ljava/util/function/BiFunction;" fm) (hp17 : Sta Z Z.heap "java/lang/String" "COMPACT_STRINGS" "Z" (.int G1)) (hG1 : ¬ (G1 = (0 : Int32))) (hp19 : Sta Z Z.heap "java/lang/StringUTF16" "$assertionsDisabled" "Z" (.int 1)) (hp20 : Sta Z Z.heap "java/lang/StringUTF16" "HI_BYTE_SHIFT" "I" (.int 0)) (hp21 : Sta Z Z.heap "java/lang/StringUTF16" "LO_BYTE_SHIFT" "I" (.int 8)) (hp22 : Old Z n0 h0) (hpi : pi = Int32.ofNat pre.length) :
    MetFree l y_29 (head1 (Jvm.Cond.code y_29 jdk_68_method_73_code 3 none :: ws) ({ frames := 6, cells := 0, slots := 0, locals := 91 } : Room)) (fun a U => a = #[(.ref x1), (.int pi), (.ref x2)] ∧ Z.Warmed39 U.vm ∧ U.heap = h0) (fun _ _ _ _ _ => True) (fun _ U o U' => ∃ v L, o = .returned v ∧ Q_rmPs10 Z x1 pi x2 tv kb pre t2 cs2 G1 fm h0 n0 v U'.heap L ∧ FrameEnd U o U' L ({ frames := 6, cells := 0, slots := 0, locals := 91 } : Room).cells ({ frames := 6, cells := 0, slots := 0, locals := 91 } : Room).slots) := by
 refine bodyOf pn_29 (fun m => ef_rmPs10 m x1 pi x2) ?_
 intro p e s m below meth c T0 X0 hx hby hml hown hnm hret hk hZ e0
 have N0 := Fr.nil n0
 have K0 : Keep h0 h0 [tv] := Keep.refl _ _
 have ne_t2_tv := hp10
 have ne_t2_x1 := hp11
 have ne_x2_x1 := hp12
 have ne_x2_tv := hp13
 have ne_tv_x1 := hp14
 have O0 := hp22
 refine go (S' := T0.setTop (mkF m 2 #[sr x1, si pi, sr x2] [(.ref x2), (.ref x1)])) (fun t k => XS.aloadN X0.here hx rfl (hb hby d16_0) rfl rfl (XS.aloadN X0.here hx rfl (hb hby d16_1) rfl rfl k)) ?_
 have O318 : Old Z n0 h0 := O0.keep K0 (allS hp9 all0)
 obtain ⟨v319, T319, L319, X319, hQ319, st319⟩ := callVp X0 hx hZ (y := y_27) hown (ww hw 95 rfl) (ww hw 96 rfl) (ww hw 98 rfl) (ww hw 99 rfl) (by decide) (backOf (W := 0) (rmNn10 l Z a0 hw [] x1 x2 t2 cs2 G1 h0 n0 (Nat.le_trans Z0 K0.1) hp0 hp2 hp6 hp17 hG1 O318) hZ (ww hw 99 rfl) (ww hw 55 rfl) (by decide) (by decide)) hp0 (g := (mkF m 2 #[sr x1, si pi, sr x2] [(.ref x2), (.ref x1)])) rfl (by rw [hml]; rfl) (kc := 0) (ks := 0) (argsL := [(.ref x2)]) (rest := []) (lenOf pd_19 rfl) rfl (mr0 rfl) (hb hby d16_2) e0 (by decide) (by decide)
 obtain ⟨rfl, N319q, e319⟩ := hQ319
 have N319 := Fr.app N0 N319q
 refine go (S' := T319.setTop (mkF m 7 #[sr x1, si pi, sr x2] [(.ref x1), (.ref x2)])) (fun t k => st319 _ (XS.aloadN X319.here hx rfl (hb hby d16_5) rfl rfl (XS.aloadN X319.here hx rfl (hb hby d16_6) rfl rfl k))) ?_
 obtain ⟨T320, X320, e320, st320⟩ := getF X319 hx hZ hown (host := "") (Or.inl (ww hw 59 rfl)) Via.refl e319 hp1 (g := (mkF m 7 #[sr x1, si pi, sr x2] [(.ref x1), (.ref x2)])) rfl rfl (hb hby d16_7)
 refine go (S' := T320.setTop (mkF m 12 #[sr x1, si pi, sr x2] [(.ref x1), (.int pi), (.ref tv), (.ref x2)])) (fun t k => st320 _ (XS.iloadN X320.here hx rfl (hb hby d16_10) rfl (XS.aloadN X320.here hx rfl (hb hby d16_11) rfl rfl k))) ?_
 obtain ⟨T321, X321, e321, st321⟩ := getF X320 hx hZ hown (host := "") (Or.inl (ww hw 61 rfl)) Via.refl e320 hp2 (g := (mkF m 12 #[sr x1, si pi, sr x2] [(.ref x1), (.int pi), (.ref tv), (.ref x2)])) rfl rfl (hb hby d16_12)
 refine go (S' := T321.setTop (mkF m 15 #[sr x1, si pi, sr x2] [(.int 1), (.int pi), (.ref tv), (.ref x2)])) st321 ?_
 obtain ⟨v322, T322, L322, X322, hQ322, st322⟩ := callV X321 hx hZ (y := y_28) (z := y_28) hown (ww hw 101 rfl) (ww hw 102 rfl) (notFace_of_selects (args := #[]) (mvT hZ (ww hw 104 rfl))) (ww hw 104 rfl) (ww hw 103 rfl) (by decide) (backOf (W := 0) (rmGb01 l Z a0 hw [] x2 tv pi t2 cs2 kb pre G1 fm h0 n0 (Nat.le_trans Z0 K0.1) hp6 hp5 hpi hr hp9 ne_t2_tv hfm hp16 hp17 hG1 hp19 hp20 hp21 O318) hZ (ww hw 105 rfl) (ww hw 8 rfl) (by decide) (by decide)) hp6.exa (g := (mkF m 15 #[sr x1, si pi, sr x2] [(.int 1), (.int pi), (.ref tv), (.ref x2)])) rfl (by rw [hml]; rfl) (kc := 0) (ks := 0) (argsL := [(.ref tv), (.int pi), (.int 1)]) (rest := []) (lenOf pd_20 rfl) rfl (mr0 rfl) (hb hby d16_15) e321 (by decide) (by decide)
 obtain ⟨rfl, N322q, Kq322, q322_0⟩ := hQ322
 have N322 := Fr.app N319 N322q
 have K323 : Keep h0 T322.heap [tv] := K0.trans Kq322 (allS (P := fun x => x ∈ [tv] ∨ h0.size ≤ x) (Or.inl (List.mem_of_getElem? (i := 0) rfl)) all0)
 refine go (S' := T322.setTop (mkF m 18 #[sr x1, si pi, sr x2] [])) st322 ?_
 refine finV X322 hx hk hret (hb hby d16_18) (by decide) (by decide) ?_
 exact ⟨rfl, N322, K323, q322_0⟩
theorem ef_rmAp10 (m : MethodId) (x1 : Addr) (x2 : Addr) : entryFrame m #[(.ref x1), (.ref x2)] 3 = mkF m 0 #[sr x1, sr x2, un] [] := by first | (simp [entryFrame, mkF, argsToLocals, Value.category]; done) | rfl
def Q_rmAp10 (Z : State) (x1 : Addr) (x2 : Addr) (tv : Addr) (kb : ClassId) (pre : List Int32) (t2 : Addr) (cs2 : List Int32) (G1 : Int32) (fm : Value) (h0 : Heap) (n0 : Nat) (v : Option Value) (h : Heap) (L : List Loc) : Prop := v = some (.ref x1) ∧ Fr n0 L ∧ Keep h0 h [x1, tv] ∧ (Fld Z h x1 "java/lang/AbstractStringBuilder" "value" "[B" (.ref tv)) ∧ (Fld Z h x1 "java/lang/AbstractStringBuilder" "coder" "B" (.int 1)) ∧ (Fld Z h x1 "java/lang/AbstractStringBuilder" "count" "I" (.int (Int32.ofNat (pre ++ cs2).length))) ∧ (Fld Z h x1 "java/lang/AbstractStringBuilder" "maybeLatin1" "Z" (.int 0)) ∧ (Arv Z h tv kb .byte (Int32.ofNat (2 * 16)) (StrChars.Road.wideBytes (pre ++ cs2)) (.int 0))
set_option maxRecDepth 65536 in
set_option maxHeartbeats 40000000 in
theorem rmAp10 (l : Launch) (Z : State) (a0 : Array Value) (hw : ∀ d ∈ tables_1, d.before a0 Z = true) (ws : List Jvm.Cond) (x1 : Addr) (x2 : Addr) (tv : Addr) (kb : ClassId) (pre : List Int32) (t2 : Addr) (cs2 : List Int32) (G1 : Int32) (fm : Value) (h0 : Heap) (n0 : Nat) (Z0 : n0 ≤ h0.size) (hp0 : Exa Z h0 x1 "java/lang/StringBuilder") (hp1 : Fld Z h0 x1 "java/lang/AbstractStringBuilder" "value" "[B" (.ref tv)) (hp2 : Fld Z h0 x1 "java/lang/AbstractStringBuilder" "coder" "B" (.int 1)) (hp3 : Fld Z h0 x1 "java/lang/AbstractStringBuilder" "count" "I" (.int (Int32.ofNat pre.length))) (hp4 : Fld Z h0 x1 "java/lang/AbstractStringBuilder" "maybeLatin1" "Z" (.int 0)) (hp5 : Arv Z h0 tv kb .byte (Int32.ofNat (2 * 16)) (StrChars.Road.wideBytes pre) (.int 0)) (hp6 : Str Z h0 x2 t2 (0 : Int32) cs2) (hr : pre.length + cs2.length ≤ 16) (hp8 : n0 ≤ x1) (hp9 : n0 ≤ tv) (hp10 : t2 ≠ tv) (hp11 : t2 ≠ x1) (hp12 : x2 ≠ x1) (hp13 : x2 ≠ tv) (hp14 : tv ≠ x1) (hfm : fm.isRef = true) (hp16 : Sta Z Z.heap "jdk/internal/util/Preconditions" "SIOOBE_FORMATTER" "Ljava/util/function/BiFunction;" fm) (hp17 : Sta Z Z.heap "java/lang/String" "COMPACT_STRINGS" "Z" (.int G1)) (hG1 : ¬ (G1 = (0 : Int32))) (hp19 : Sta Z Z.heap "java/lang/StringUTF16" "$assertionsDisabled" "Z" (.int 1)) (hp20 : Sta Z Z.heap "java/lang/StringUTF16" "HI_BYTE_SHIFT" "I" (.int 0)) (hp21 : Sta Z Z.heap "java/lang/StringUTF16" "LO_BYTE_SHIFT" "I" (.int 8)) (hp22 : Old Z n0 h0) :
    MetFree l y_31 (head1 (Jvm.Cond.code y_31 jdk_68_method_22_code 3 (some (.object "java/lang/AbstractStringBuilder")) :: ws) ({ frames := 7, cells := 0, slots := 0, locals := 105 } : Room)) (fun a U => a = #[(.ref x1), (.ref x2)] ∧ Z.Warmed39 U.vm ∧ U.heap = h0) (fun _ _ _ _ _ => True) (fun _ U o U' => ∃ v L, o = .returned v ∧ Q_rmAp10 Z x1 x2 tv kb pre t2 cs2 G1 fm h0 n0 v U'.heap L ∧ FrameEnd U o U' L ({ frames := 7, cells := 0, slots := 0, locals := 105 } : Room).cells ({ frames := 7, cells := 0, slots := 0, locals := 105 } : Room).slots) := by
 refine bodyOf pn_30 (fun m => ef_rmAp10 m x1 x2) ?_
 intro p e s m below meth c T0 X0 hx hby hml hown hnm hret hk hZ e0
 have N0 := Fr.nil n0
 have K0 : Keep h0 h0 [x1, tv] := Keep.refl _ _
 have ne_t2_tv := hp10
 have ne_t2_x1 := hp11
 have ne_x2_x1 := hp12
 have ne_x2_tv := hp13
 have ne_tv_x1 := hp14
 have O0 := hp22
 refine go (S' := T0.setTop (mkF m 10 #[sr x1, sr x2, un] [(.ref x2)])) (fun t k => XS.aloadN X0.here hx rfl (hb hby d12_0) rfl rfl (XS.ifnonnullYes X0.here hx rfl (pc0 := 1) (pc' := 9) rfl (hb hby d12_1) rfl (by decide) (by decide) (XS.aloadN X0.here hx rfl (hb hby d12_9) rfl rfl k))) ?_
 have O324 : Old Z n0 h0 := O0.keep K0 (allS hp8 (allS hp9 all0))
 obtain ⟨kb325, N2325, vs325, qE325, qV325, qC325, qA325, qcd325, qbd325, ql325⟩ := id hp6
 obtain ⟨v326, T326, L326, X326, hQ326, st326⟩ := callV X0 hx hZ (y := y_30) (z := y_30) hown (ww hw 73 rfl) (ww hw 74 rfl) (notFace_of_selects (args := #[]) (mvT hZ (ww hw 76 rfl))) (ww hw 76 rfl) (ww hw 75 rfl) (by decide) (StrChars.Road.lenW (W := 0) hZ (own_sub StrChars_wordsLen hw) (kI := 4) (ww hw 7 rfl) qE325 qV325 qC325 qA325 qcd325 qbd325 (hp17.ext O324.2) hG1 ql325 (by decide) (by decide)) hp6.exa (g := (mkF m 10 #[sr x1, sr x2, un] [(.ref x2)])) rfl (by rw [hml]; rfl) (Q := (fun v h' L => v = some (.int (Int32.ofNat cs2.length)) ∧ L = [] ∧ h' = h0)) (kc := 0) (ks := 0) (argsL := []) (rest := []) (lenOf pd_21 rfl) rfl (mr0 rfl) (hb hby d12_10) e0 (by decide) (by decide)
 obtain ⟨rfl, rfl, e326⟩ := hQ326
 have N326 := Fr.app N0 (Fr.nil n0)
 refine go (S' := T326.setTop (mkF m 16 #[sr x1, sr x2, si (Int32.ofNat cs2.length)] [(.ref x1), (.ref x1)])) (fun t k => st326 _ (XS.istoreN X326.here hx rfl (hb hby d12_13) rfl (l' := #[sr x1, sr x2, si (Int32.ofNat cs2.length)]) rfl (XS.aloadN X326.here hx rfl (hb hby d12_14) rfl rfl (XS.aloadN X326.here hx rfl (hb hby d12_15) rfl rfl k)))) ?_
 obtain ⟨T327, X327, e327, st327⟩ := getF X326 hx hZ hown (host := "") (Or.inl (ww hw 83 rfl)) Via.refl e326 hp3 (g := (mkF m 16 #[sr x1, sr x2, si (Int32.ofNat cs2.length)] [(.ref x1), (.ref x1)])) rfl rfl (hb hby d12_16)
 refine go (S' := T327.setTop (mkF m 21 #[sr x1, sr x2, si (Int32.ofNat cs2.length)] [(.int ((Int32.ofNat pre.length) + (Int32.ofNat cs2.length))), (.ref x1)])) (fun t k => st327 _ (XS.iloadN X327.here hx rfl (hb hby d12_19) rfl (XS.iadd X327.here hx rfl (hb hby d12_20) rfl k))) ?_
 rw [own_add pre.length cs2.length]
 obtain ⟨v328, T328, L328, X328, hQ328, st328⟩ := callVp X327 hx hZ (y := y_19) hown (ww hw 85 rfl) (ww hw 86 rfl) (ww hw 88 rfl) (ww hw 89 rfl) (by decide) (backOf (W := 0) (rmEci1 l Z a0 hw [] x1 (Int32.ofNat (pre.length + cs2.length)) tv kb (StrChars.Road.wideBytes pre) h0 n0 (Nat.le_trans Z0 K0.1) hp1 hp2 hp5 (own_cap1 _ hr)) hZ (ww hw 89 rfl) (ww hw 55 rfl) (by decide) (by decide)) hp0 (g := (mkF m 21 #[sr x1, sr x2, si (Int32.ofNat cs2.length)] [(.int (Int32.ofNat (pre.length + cs2.length))), (.ref x1)])) rfl (by rw [hml]; rfl) (kc := 0) (ks := 0) (argsL := [(.int (Int32.ofNat (pre.length + cs2.length)))]) (rest := []) (lenOf pd_22 rfl) rfl (mr0 rfl) (hb hby d12_21) e327 (by decide) (by decide)
 obtain ⟨rfl, N328q, e328⟩ := hQ328
 have N328 := Fr.app N326 N328q
 refine go (S' := T328.setTop (mkF m 26 #[sr x1, sr x2, si (Int32.ofNat cs2.length)] [(.ref x1), (.ref x1)])) (fun t k => st328 _ (XS.aloadN X328.here hx rfl (hb hby d12_24) rfl rfl (XS.aloadN X328.here hx rfl (hb hby d12_25) rfl rfl k))) ?_
 obtain ⟨T329, X329, e329, st329⟩ := getF X328 hx hZ hown (host := "") (Or.inl (ww hw 83 rfl)) Via.refl e328 hp3 (g := (mkF m 26 #[sr x1, sr x2, si (Int32.ofNat cs2.length)] [(.ref x1), (.ref x1)])) rfl rfl (hb hby d12_26)
 refine go (S' := T329.setTop (mkF m 30 #[sr x1, sr x2, si (Int32.ofNat cs2.length)] [(.ref x2), (.int (Int32.ofNat pre.length)), (.ref x1)])) (fun t k => st329 _ (XS.aloadN X329.here hx rfl (hb hby d12_29) rfl rfl k)) ?_
 obtain ⟨v330, T330, L330, X330, hQ330, st330⟩ := callVp X329 hx hZ (y := y_29) hown (ww hw 90 rfl) (ww hw 91 rfl) (ww hw 93 rfl) (ww hw 94 rfl) (by decide) (backOf (W := 0) (rmPs10 l Z a0 hw [] x1 (Int32.ofNat pre.length) x2 tv kb pre t2 cs2 G1 fm h0 n0 (Nat.le_trans Z0 K0.1) hp0 hp1 hp2 hp3 hp4 hp5 hp6 hr hp8 hp9 ne_t2_tv ne_t2_x1 ne_x2_x1 ne_x2_tv ne_tv_x1 hfm hp16 hp17 hG1 hp19 hp20 hp21 O324 rfl) hZ (ww hw 94 rfl) (ww hw 55 rfl) (by decide) (by decide)) hp0 (g := (mkF m 30 #[sr x1, sr x2, si (Int32.ofNat cs2.length)] [(.ref x2), (.int (Int32.ofNat pre.length)), (.ref x1)])) rfl (by rw [hml]; rfl) (kc := 0) (ks := 0) (argsL := [(.int (Int32.ofNat pre.length)), (.ref x2)]) (rest := []) (lenOf pd_23 rfl) rfl (mr0 rfl) (hb hby d12_30) e329 (by decide) (by decide)
 obtain ⟨rfl, N330q, Kq330, q330_0⟩ := hQ330
 have N330 := Fr.app N328 N330q
 have K331 : Keep h0 T330.heap [x1, tv] := K0.trans Kq330 (allS (P := fun x => x ∈ [x1, tv] ∨ h0.size ≤ x) (Or.inl (List.mem_of_getElem? (i := 1) rfl)) all0)
 refine go (S' := T330.setTop (mkF m 35 #[sr x1, sr x2, si (Int32.ofNat cs2.length)] [(.ref x1), (.ref x1)])) (fun t k => st330 _ (XS.aloadN X330.here hx rfl (hb hby d12_33) rfl rfl (XS.dup X330.here hx rfl (hb hby d12_34) rfl rfl k))) ?_
 have f332 : Fld Z T330.heap x1 "java/lang/AbstractStringBuilder" "count" "I" (.int (Int32.ofNat pre.length)) := (hp3.keep Kq330 (ninS (Ne.symm ne_tv_x1) nin0))
 obtain ⟨T333, X333, e333, st333⟩ := getF X330 hx hZ hown (host := "") (Or.inl (ww hw 83 rfl)) Via.refl rfl f332 (g := (mkF m 35 #[sr x1, sr x2, si (Int32.ofNat cs2.length)] [(.ref x1), (.ref x1)])) rfl rfl (hb hby d12_35)
 refine go (S' := T333.setTop (mkF m 40 #[sr x1, sr x2, si (Int32.ofNat cs2.length)] [(.int ((Int32.ofNat pre.length) + (Int32.ofNat cs2.length))), (.ref x1)])) (fun t k => st333 _ (XS.iloadN X333.here hx rfl (hb hby d12_38) rfl (XS.iadd X333.here hx rfl (hb hby d12_39) rfl k))) ?_
 rw [own_add pre.length cs2.length, ← List.length_append]
 obtain ⟨T334, h334, X334, e334, W334, st334⟩ := putF X333 hx hZ hown (host := "") (Or.inl (ww hw 83 rfl)) Via.refl e333 f332 (hp0.keep K331) (Or.inl (ww hw 84 rfl)) (ww hw 46 rfl) (ty := .int) (by decide) rfl rfl (g := (mkF m 40 #[sr x1, sr x2, si (Int32.ofNat cs2.length)] [(.int (Int32.ofNat (pre ++ cs2).length)), (.ref x1)])) rfl rfl (hb hby d12_40)
 have K335 : Keep h0 h334 [x1, tv] := K331.wr W334 (Or.inl (List.mem_of_getElem? (i := 0) rfl))
 have N336 := Fr.snoc X334 N330 hp8
 have f337 : Fld Z h334 x1 "java/lang/AbstractStringBuilder" "count" "I" (.int (Int32.ofNat (pre ++ cs2).length)) := (Fld.same W334 f332)
 refine go (S' := T334.setTop (mkF m 44 #[sr x1, sr x2, si (Int32.ofNat cs2.length)] [(.ref x1)])) (fun t k => st334 _ (XS.aloadN X334.here hx rfl (hb hby d12_43) rfl rfl k)) ?_
 refine finR X334 hx hk hret rfl rfl (hb hby d12_44) (by decide) (by decide) ?_
 have f338 : Fld Z h334 x1 "java/lang/AbstractStringBuilder" "value" "[B" (.ref tv) := (Fld.other W334 (hp1.keep Kq330 (ninS (Ne.symm ne_tv_x1) nin0)) (Or.inr (slot_ne (Or.inl (ww hw 60 rfl)) (Or.inl (ww hw 84 rfl)) (by decide) (t := (.array .byte)) (t' := .int) (by decide) (by decide))))
 have f339 : Fld Z h334 x1 "java/lang/AbstractStringBuilder" "coder" "B" (.int 1) := (Fld.other W334 (hp2.keep Kq330 (ninS (Ne.symm ne_tv_x1) nin0)) (Or.inr (slot_ne (Or.inl (ww hw 62 rfl)) (Or.inl (ww hw 84 rfl)) (by decide) (t := .byte) (t' := .int) (by decide) (by decide))))
 have f340 : Fld Z h334 x1 "java/lang/AbstractStringBuilder" "maybeLatin1" "Z" (.int 0) := (Fld.other W334 (hp4.keep Kq330 (ninS (Ne.symm ne_tv_x1) nin0)) (Or.inr (slot_ne (Or.inl (ww hw 309 rfl)) (Or.inl (ww hw 84 rfl)) (by decide) (t := .boolean) (t' := .int) (by decide) (by decide))))
 have f341 : Arv Z h334 tv kb .byte (Int32.ofNat (2 * 16)) (StrChars.Road.wideBytes (pre ++ cs2)) (.int 0) := (q330_0.other W334 ne_tv_x1)
 rw [e334]
 exact ⟨rfl, N336, K335, f338, f339, f337, f340, f341⟩
theorem ef_rmSa10 (m : MethodId) (x1 : Addr) (x2 : Addr) : entryFrame m #[(.ref x1), (.ref x2)] 2 = mkF m 0 #[sr x1, sr x2] [] := by first | (simp [entryFrame, mkF, argsToLocals, Value.category]; done) | rfl
def Q_rmSa10 (Z : State) (x1 : Addr) (x2 : Addr) (tv : Addr) (kb : ClassId) (pre : List Int32) (t2 : Addr) (cs2 : List Int32) (G1 : Int32) (fm : Value) (h0 : Heap) (n0 : Nat) (v : Option Value) (h : Heap) (L : List Loc) : Prop := v = some (.ref x1) ∧ Fr n0 L ∧ Keep h0 h [x1, tv] ∧ (Fld Z h x1 "java/lang/AbstractStringBuilder" "value" "[B" (.ref tv)) ∧ (Fld Z h x1 "java/lang/AbstractStringBuilder" "coder" "B" (.int 1)) ∧ (Fld Z h x1 "java/lang/AbstractStringBuilder" "count" "I" (.int (Int32.ofNat (pre ++ cs2).length))) ∧ (Fld Z h x1 "java/lang/AbstractStringBuilder" "maybeLatin1" "Z" (.int 0)) ∧ (Arv Z h tv kb .byte (Int32.ofNat (2 * 16)) (StrChars.Road.wideBytes (pre ++ cs2)) (.int 0))
set_option maxRecDepth 65536 in
set_option maxHeartbeats 40000000 in
theorem rmSa10 (l : Launch) (Z : State) (a0 : Array Value) (hw : ∀ d ∈ tables_1, d.before a0 Z = true) (ws : List Jvm.Cond) (x1 : Addr) (x2 : Addr) (tv : Addr) (kb : ClassId) (pre : List Int32) (t2 : Addr) (cs2 : List Int32) (G1 : Int32) (fm : Value) (h0 : Heap) (n0 : Nat) (Z0 : n0 ≤ h0.size) (hp0 : Exa Z h0 x1 "java/lang/StringBuilder") (hp1 : Fld Z h0 x1 "java/lang/AbstractStringBuilder" "value" "[B" (.ref tv)) (hp2 : Fld Z h0 x1 "java/lang/AbstractStringBuilder" "coder" "B" (.int 1)) (hp3 : Fld Z h0 x1 "java/lang/AbstractStringBuilder" "count" "I" (.int (Int32.ofNat pre.length))) (hp4 : Fld Z h0 x1 "java/lang/AbstractStringBuilder" "maybeLatin1" "Z" (.int 0)) (hp5 : Arv Z h0 tv kb .byte (Int32.ofNat (2 * 16)) (StrChars.Road.wideBytes pre) (.int 0)) (hp6 : Str Z h0 x2 t2 (0 : Int32) cs2) (hr : pre.length + cs2.length ≤ 16) (hp8 : n0 ≤ x1) (hp9 : n0 ≤ tv) (hp10 : t2 ≠ tv) (hp11 : t2 ≠ x1) (hp12 : x2 ≠ x1) (hp13 : x2 ≠ tv) (hp14 : tv ≠ x1) (hfm : fm.isRef = true) (hp16 : Sta Z Z.heap "jdk/internal/util/Preconditions" "SIOOBE_FORMATTER" "Ljava/util/function/BiFunction;" fm) (hp17 : Sta Z Z.heap "java/lang/String" "COMPACT_STRINGS" "Z" (.int G1)) (hG1 : ¬ (G1 = (0 : Int32))) (hp19 : Sta Z Z.heap "java/lang/StringUTF16" "$assertionsDisabled" "Z" (.int 1)) (hp20 : Sta Z Z.heap "java/lang/StringUTF16" "HI_BYTE_SHIFT" "I" (.int 0)) (hp21 : Sta Z Z.heap "java/lang/StringUTF16" "LO_BYTE_SHIFT" "I" (.int 8)) (hp22 : Old Z n0 h0) :
    MetFree l y_32 (head1 (Jvm.Cond.code y_32 jdk_67_method_7_code 2 (some (.object "java/lang/StringBuilder")) :: ws) ({ frames := 8, cells := 0, slots := 0, locals := 119 } : Room)) (fun a U => a = #[(.ref x1), (.ref x2)] ∧ Z.Warmed39 U.vm ∧ U.heap = h0) (fun _ _ _ _ _ => True) (fun _ U o U' => ∃ v L, o = .returned v ∧ Q_rmSa10 Z x1 x2 tv kb pre t2 cs2 G1 fm h0 n0 v U'.heap L ∧ FrameEnd U o U' L ({ frames := 8, cells := 0, slots := 0, locals := 119 } : Room).cells ({ frames := 8, cells := 0, slots := 0, locals := 119 } : Room).slots) := by
 refine bodyOf pn_31 (fun m => ef_rmSa10 m x1 x2) ?_
 intro p e s m below meth c T0 X0 hx hby hml hown hnm hret hk hZ e0
 have N0 := Fr.nil n0
 have K0 : Keep h0 h0 [x1, tv] := Keep.refl _ _
 have ne_t2_tv := hp10
 have ne_t2_x1 := hp11
 have ne_x2_x1 := hp12
 have ne_x2_tv := hp13
 have ne_tv_x1 := hp14
 have O0 := hp22
 refine go (S' := T0.setTop (mkF m 2 #[sr x1, sr x2] [(.ref x2), (.ref x1)])) (fun t k => XS.aloadN X0.here hx rfl (hb hby d11_0) rfl rfl (XS.aloadN X0.here hx rfl (hb hby d11_1) rfl rfl k)) ?_
 have O342 : Old Z n0 h0 := O0.keep K0 (allS hp8 (allS hp9 all0))
 obtain ⟨v343, T343, L343, X343, hQ343, st343⟩ := callSu X0 hx hZ (y := y_31) hown (ww hw 68 rfl) (own_same (ww hw 69 rfl) (nf_sel (args := a0) (y' := y_19) rfl (ww hw 88 rfl)) (by decide)) (ww hw 69 rfl) (ww hw 70 rfl) (ww hw 72 rfl) (by decide) (backOf (W := 0) (rmAp10 l Z a0 hw [] x1 x2 tv kb pre t2 cs2 G1 fm h0 n0 (Nat.le_trans Z0 K0.1) hp0 hp1 hp2 hp3 hp4 hp5 hp6 hr hp8 hp9 ne_t2_tv ne_t2_x1 ne_x2_x1 ne_x2_tv ne_tv_x1 hfm hp16 hp17 hG1 hp19 hp20 hp21 O342) hZ (ww hw 72 rfl) (ww hw 55 rfl) (by decide) (by decide)) (Ins.of_exa hp0 (ww hw 54 rfl)) (g := (mkF m 2 #[sr x1, sr x2] [(.ref x2), (.ref x1)])) rfl (by rw [hml]; rfl) (kc := 0) (ks := 0) (argsL := [(.ref x2)]) (rest := []) (lenOf pd_24 rfl) rfl (mr0 rfl) (hb hby d11_2) e0 (by decide) (by decide)
 obtain ⟨rfl, N343q, Kq343, q343_0, q343_1, q343_2, q343_3, q343_4⟩ := hQ343
 have N343 := Fr.app N0 N343q
 have K344 : Keep h0 T343.heap [x1, tv] := K0.trans Kq343 (allS (P := fun x => x ∈ [x1, tv] ∨ h0.size ≤ x) (Or.inl (List.mem_of_getElem? (i := 0) rfl)) (allS (P := fun x => x ∈ [x1, tv] ∨ h0.size ≤ x) (Or.inl (List.mem_of_getElem? (i := 1) rfl)) all0))
 refine go (S' := T343.setTop (mkF m 7 #[sr x1, sr x2] [(.ref x1)])) (fun t k => st343 _ (XS.pop X343.here hx rfl (hb hby d11_5) rfl rfl (XS.aloadN X343.here hx rfl (hb hby d11_6) rfl rfl k))) ?_
 refine finR X343 hx hk hret rfl rfl (hb hby d11_7) (by decide) (by decide) ?_
 exact ⟨rfl, N343, K344, q343_0, q343_1, q343_2, q343_3, q343_4⟩
theorem ef_rmPs11 (m : MethodId) (x1 : Addr) (pi : Int32) (x2 : Addr) : entryFrame m #[(.ref x1), (.int pi), (.ref x2)] 3 = mkF m 0 #[sr x1, si pi, sr x2] [] := by first | (simp [entryFrame, mkF, argsToLocals, Value.category]; done) | rfl
def Q_rmPs11 (Z : State) (x1 : Addr) (pi : Int32) (x2 : Addr) (tv : Addr) (kb : ClassId) (pre : List Int32) (t2 : Addr) (cs2 : List Int32) (G1 : Int32) (fm : Value) (h0 : Heap) (n0 : Nat) (v : Option Value) (h : Heap) (L : List Loc) : Prop := v = none ∧ Fr n0 L ∧ Keep h0 h [tv] ∧ (Arv Z h tv kb .byte (Int32.ofNat (2 * 16)) (StrChars.Road.wideBytes (pre ++ cs2)) (.int 0))
set_option maxRecDepth 65536 in
set_option maxHeartbeats 40000000 in
theorem rmPs11 (l : Launch) (Z : State) (a0 : Array Value) (hw : ∀ d ∈ tables_1, d.before a0 Z = true) (ws : List Jvm.Cond) (x1 : Addr) (pi : Int32) (x2 : Addr) (tv : Addr) (kb : ClassId) (pre : List Int32) (t2 : Addr) (cs2 : List Int32) (G1 : Int32) (fm : Value) (h0 : Heap) (n0 : Nat) (Z0 : n0 ≤ h0.size) (hp0 : Exa Z h0 x1 "java/lang/StringBuilder") (hp1 : Fld Z h0 x1 "java/lang/AbstractStringBuilder" "value" "[B" (.ref tv)) (hp2 : Fld Z h0 x1 "java/lang/AbstractStringBuilder" "coder" "B" (.int 1)) (hp3 : Fld Z h0 x1 "java/lang/AbstractStringBuilder" "count" "I" (.int (Int32.ofNat pre.length))) (hp4 : Fld Z h0 x1 "java/lang/AbstractStringBuilder" "maybeLatin1" "Z" (.int 0)) (hp5 : Arv Z h0 tv kb .byte (Int32.ofNat (2 * 16)) (StrChars.Road.wideBytes pre) (.int 0)) (hp6 : Str Z h0 x2 t2 (1 : Int32) cs2) (hr : pre.length + cs2.length ≤ 16) (hp8 : n0 ≤ x1) (hp9 : n0 ≤ tv) (hp10 : t2 ≠ tv) (hp11 : t2 ≠ x1) (hp12 : x2 ≠ x1) (hp13 : x2 ≠ tv) (hp14 : tv ≠ x1) (hfm : fm.isRef = true) (hp16 : Sta Z Z.heap "jdk/internal/util/Preconditions" "SIOOBE_FORMATTER" "Ljava/util/function/BiFunction;" fm) (hp17 : Sta Z Z.heap "java/lang/String" "COMPACT_STRINGS" "Z" (.int G1)) (hG1 : ¬ (G1 = (0 : Int32))) (hp19 : Sta Z Z.heap "java/lang/StringUTF16" "$assertionsDisabled" "Z" (.int 1)) (hp20 : Sta Z Z.heap "java/lang/StringUTF16" "HI_BYTE_SHIFT" "I" (.int 0)) (hp21 : Sta Z Z.heap "java/lang/StringUTF16" "LO_BYTE_SHIFT" "I" (.int 8)) (hp22 : Old Z n0 h0) (hpi : pi = Int32.ofNat pre.length) :
    MetFree l y_29 (head1 (Jvm.Cond.code y_29 jdk_68_method_73_code 3 none :: ws) ({ frames := 2, cells := 0, slots := 0, locals := 33 } : Room)) (fun a U => a = #[(.ref x1), (.int pi), (.ref x2)] ∧ Z.Warmed39 U.vm ∧ U.heap = h0) (fun _ _ _ _ _ => True) (fun _ U o U' => ∃ v L, o = .returned v ∧ Q_rmPs11 Z x1 pi x2 tv kb pre t2 cs2 G1 fm h0 n0 v U'.heap L ∧ FrameEnd U o U' L ({ frames := 2, cells := 0, slots := 0, locals := 33 } : Room).cells ({ frames := 2, cells := 0, slots := 0, locals := 33 } : Room).slots) := by
 refine bodyOf pn_29 (fun m => ef_rmPs11 m x1 pi x2) ?_
 intro p e s m below meth c T0 X0 hx hby hml hown hnm hret hk hZ e0
 have N0 := Fr.nil n0
 have K0 : Keep h0 h0 [tv] := Keep.refl _ _
 have ne_t2_tv := hp10
 have ne_t2_x1 := hp11
 have ne_x2_x1 := hp12
 have ne_x2_tv := hp13
 have ne_tv_x1 := hp14
 have O0 := hp22
 refine go (S' := T0.setTop (mkF m 2 #[sr x1, si pi, sr x2] [(.ref x2), (.ref x1)])) (fun t k => XS.aloadN X0.here hx rfl (hb hby d16_0) rfl rfl (XS.aloadN X0.here hx rfl (hb hby d16_1) rfl rfl k)) ?_
 have O345 : Old Z n0 h0 := O0.keep K0 (allS hp9 all0)
 obtain ⟨v346, T346, L346, X346, hQ346, st346⟩ := callVp X0 hx hZ (y := y_27) hown (ww hw 95 rfl) (ww hw 96 rfl) (ww hw 98 rfl) (ww hw 99 rfl) (by decide) (backOf (W := 0) (rmNn11 l Z a0 hw [] x1 x2 t2 cs2 G1 h0 n0 (Nat.le_trans Z0 K0.1) hp0 hp2 hp6 hp17 hG1 O345) hZ (ww hw 99 rfl) (ww hw 55 rfl) (by decide) (by decide)) hp0 (g := (mkF m 2 #[sr x1, si pi, sr x2] [(.ref x2), (.ref x1)])) rfl (by rw [hml]; rfl) (kc := 0) (ks := 0) (argsL := [(.ref x2)]) (rest := []) (lenOf pd_19 rfl) rfl (mr0 rfl) (hb hby d16_2) e0 (by decide) (by decide)
 obtain ⟨rfl, N346q, e346⟩ := hQ346
 have N346 := Fr.app N0 N346q
 refine go (S' := T346.setTop (mkF m 7 #[sr x1, si pi, sr x2] [(.ref x1), (.ref x2)])) (fun t k => st346 _ (XS.aloadN X346.here hx rfl (hb hby d16_5) rfl rfl (XS.aloadN X346.here hx rfl (hb hby d16_6) rfl rfl k))) ?_
 obtain ⟨T347, X347, e347, st347⟩ := getF X346 hx hZ hown (host := "") (Or.inl (ww hw 59 rfl)) Via.refl e346 hp1 (g := (mkF m 7 #[sr x1, si pi, sr x2] [(.ref x1), (.ref x2)])) rfl rfl (hb hby d16_7)
 refine go (S' := T347.setTop (mkF m 12 #[sr x1, si pi, sr x2] [(.ref x1), (.int pi), (.ref tv), (.ref x2)])) (fun t k => st347 _ (XS.iloadN X347.here hx rfl (hb hby d16_10) rfl (XS.aloadN X347.here hx rfl (hb hby d16_11) rfl rfl k))) ?_
 obtain ⟨T348, X348, e348, st348⟩ := getF X347 hx hZ hown (host := "") (Or.inl (ww hw 61 rfl)) Via.refl e347 hp2 (g := (mkF m 12 #[sr x1, si pi, sr x2] [(.ref x1), (.int pi), (.ref tv), (.ref x2)])) rfl rfl (hb hby d16_12)
 refine go (S' := T348.setTop (mkF m 15 #[sr x1, si pi, sr x2] [(.int 1), (.int pi), (.ref tv), (.ref x2)])) st348 ?_
 obtain ⟨v349, T349, L349, X349, hQ349, st349⟩ := callV X348 hx hZ (y := y_28) (z := y_28) hown (ww hw 101 rfl) (ww hw 102 rfl) (notFace_of_selects (args := #[]) (mvT hZ (ww hw 104 rfl))) (ww hw 104 rfl) (ww hw 103 rfl) (by decide) (backOf (W := 0) (rmGb11 l Z a0 hw [] x2 tv pi t2 cs2 kb pre G1 fm h0 n0 (Nat.le_trans Z0 K0.1) hp6 hp5 hpi hr hp9 ne_t2_tv hfm hp16 hp17 hG1 hp19 hp20 hp21 O345) hZ (ww hw 105 rfl) (ww hw 8 rfl) (by decide) (by decide)) hp6.exa (g := (mkF m 15 #[sr x1, si pi, sr x2] [(.int 1), (.int pi), (.ref tv), (.ref x2)])) rfl (by rw [hml]; rfl) (kc := 0) (ks := 0) (argsL := [(.ref tv), (.int pi), (.int 1)]) (rest := []) (lenOf pd_20 rfl) rfl (mr0 rfl) (hb hby d16_15) e348 (by decide) (by decide)
 obtain ⟨rfl, N349q, Kq349, q349_0⟩ := hQ349
 have N349 := Fr.app N346 N349q
 have K350 : Keep h0 T349.heap [tv] := K0.trans Kq349 (allS (P := fun x => x ∈ [tv] ∨ h0.size ≤ x) (Or.inl (List.mem_of_getElem? (i := 0) rfl)) all0)
 refine go (S' := T349.setTop (mkF m 18 #[sr x1, si pi, sr x2] [])) st349 ?_
 refine finV X349 hx hk hret (hb hby d16_18) (by decide) (by decide) ?_
 exact ⟨rfl, N349, K350, q349_0⟩
theorem ef_rmAp11 (m : MethodId) (x1 : Addr) (x2 : Addr) : entryFrame m #[(.ref x1), (.ref x2)] 3 = mkF m 0 #[sr x1, sr x2, un] [] := by first | (simp [entryFrame, mkF, argsToLocals, Value.category]; done) | rfl
def Q_rmAp11 (Z : State) (x1 : Addr) (x2 : Addr) (tv : Addr) (kb : ClassId) (pre : List Int32) (t2 : Addr) (cs2 : List Int32) (G1 : Int32) (fm : Value) (h0 : Heap) (n0 : Nat) (v : Option Value) (h : Heap) (L : List Loc) : Prop := v = some (.ref x1) ∧ Fr n0 L ∧ Keep h0 h [x1, tv] ∧ (Fld Z h x1 "java/lang/AbstractStringBuilder" "value" "[B" (.ref tv)) ∧ (Fld Z h x1 "java/lang/AbstractStringBuilder" "coder" "B" (.int 1)) ∧ (Fld Z h x1 "java/lang/AbstractStringBuilder" "count" "I" (.int (Int32.ofNat (pre ++ cs2).length))) ∧ (Fld Z h x1 "java/lang/AbstractStringBuilder" "maybeLatin1" "Z" (.int 0)) ∧ (Arv Z h tv kb .byte (Int32.ofNat (2 * 16)) (StrChars.Road.wideBytes (pre ++ cs2)) (.int 0))
set_option maxRecDepth 65536 in
set_option maxHeartbeats 40000000 in
theorem rmAp11 (l : Launch) (Z : State) (a0 : Array Value) (hw : ∀ d ∈ tables_1, d.before a0 Z = true) (ws : List Jvm.Cond) (x1 : Addr) (x2 : Addr) (tv : Addr) (kb : ClassId) (pre : List Int32) (t2 : Addr) (cs2 : List Int32) (G1 : Int32) (fm : Value) (h0 : Heap) (n0 : Nat) (Z0 : n0 ≤ h0.size) (hp0 : Exa Z h0 x1 "java/lang/StringBuilder") (hp1 : Fld Z h0 x1 "java/lang/AbstractStringBuilder" "value" "[B" (.ref tv)) (hp2 : Fld Z h0 x1 "java/lang/AbstractStringBuilder" "coder" "B" (.int 1)) (hp3 : Fld Z h0 x1 "java/lang/AbstractStringBuilder" "count" "I" (.int (Int32.ofNat pre.length))) (hp4 : Fld Z h0 x1 "java/lang/AbstractStringBuilder" "maybeLatin1" "Z" (.int 0)) (hp5 : Arv Z h0 tv kb .byte (Int32.ofNat (2 * 16)) (StrChars.Road.wideBytes pre) (.int 0)) (hp6 : Str Z h0 x2 t2 (1 : Int32) cs2) (hr : pre.length + cs2.length ≤ 16) (hp8 : n0 ≤ x1) (hp9 : n0 ≤ tv) (hp10 : t2 ≠ tv) (hp11 : t2 ≠ x1) (hp12 : x2 ≠ x1) (hp13 : x2 ≠ tv) (hp14 : tv ≠ x1) (hfm : fm.isRef = true) (hp16 : Sta Z Z.heap "jdk/internal/util/Preconditions" "SIOOBE_FORMATTER" "Ljava/util/function/BiFunction;" fm) (hp17 : Sta Z Z.heap "java/lang/String" "COMPACT_STRINGS" "Z" (.int G1)) (hG1 : ¬ (G1 = (0 : Int32))) (hp19 : Sta Z Z.heap "java/lang/StringUTF16" "$assertionsDisabled" "Z" (.int 1)) (hp20 : Sta Z Z.heap "java/lang/StringUTF16" "HI_BYTE_SHIFT" "I" (.int 0)) (hp21 : Sta Z Z.heap "java/lang/StringUTF16" "LO_BYTE_SHIFT" "I" (.int 8)) (hp22 : Old Z n0 h0) :
    MetFree l y_31 (head1 (Jvm.Cond.code y_31 jdk_68_method_22_code 3 (some (.object "java/lang/AbstractStringBuilder")) :: ws) ({ frames := 3, cells := 0, slots := 0, locals := 47 } : Room)) (fun a U => a = #[(.ref x1), (.ref x2)] ∧ Z.Warmed39 U.vm ∧ U.heap = h0) (fun _ _ _ _ _ => True) (fun _ U o U' => ∃ v L, o = .returned v ∧ Q_rmAp11 Z x1 x2 tv kb pre t2 cs2 G1 fm h0 n0 v U'.heap L ∧ FrameEnd U o U' L ({ frames := 3, cells := 0, slots := 0, locals := 47 } : Room).cells ({ frames := 3, cells := 0, slots := 0, locals := 47 } : Room).slots) := by
 refine bodyOf pn_30 (fun m => ef_rmAp11 m x1 x2) ?_
 intro p e s m below meth c T0 X0 hx hby hml hown hnm hret hk hZ e0
 have N0 := Fr.nil n0
 have K0 : Keep h0 h0 [x1, tv] := Keep.refl _ _
 have ne_t2_tv := hp10
 have ne_t2_x1 := hp11
 have ne_x2_x1 := hp12
 have ne_x2_tv := hp13
 have ne_tv_x1 := hp14
 have O0 := hp22
 refine go (S' := T0.setTop (mkF m 10 #[sr x1, sr x2, un] [(.ref x2)])) (fun t k => XS.aloadN X0.here hx rfl (hb hby d12_0) rfl rfl (XS.ifnonnullYes X0.here hx rfl (pc0 := 1) (pc' := 9) rfl (hb hby d12_1) rfl (by decide) (by decide) (XS.aloadN X0.here hx rfl (hb hby d12_9) rfl rfl k))) ?_
 have O351 : Old Z n0 h0 := O0.keep K0 (allS hp8 (allS hp9 all0))
 obtain ⟨kb352, N2352, vs352, qE352, qV352, qC352, qA352, qcd352, qbd352, ql352⟩ := id hp6
 obtain ⟨v353, T353, L353, X353, hQ353, st353⟩ := callV X0 hx hZ (y := y_30) (z := y_30) hown (ww hw 73 rfl) (ww hw 74 rfl) (notFace_of_selects (args := #[]) (mvT hZ (ww hw 76 rfl))) (ww hw 76 rfl) (ww hw 75 rfl) (by decide) (StrChars.Road.lenW (W := 0) hZ (own_sub StrChars_wordsLen hw) (kI := 4) (ww hw 7 rfl) qE352 qV352 qC352 qA352 qcd352 qbd352 (hp17.ext O351.2) hG1 ql352 (by decide) (by decide)) hp6.exa (g := (mkF m 10 #[sr x1, sr x2, un] [(.ref x2)])) rfl (by rw [hml]; rfl) (Q := (fun v h' L => v = some (.int (Int32.ofNat cs2.length)) ∧ L = [] ∧ h' = h0)) (kc := 0) (ks := 0) (argsL := []) (rest := []) (lenOf pd_21 rfl) rfl (mr0 rfl) (hb hby d12_10) e0 (by decide) (by decide)
 obtain ⟨rfl, rfl, e353⟩ := hQ353
 have N353 := Fr.app N0 (Fr.nil n0)
 refine go (S' := T353.setTop (mkF m 16 #[sr x1, sr x2, si (Int32.ofNat cs2.length)] [(.ref x1), (.ref x1)])) (fun t k => st353 _ (XS.istoreN X353.here hx rfl (hb hby d12_13) rfl (l' := #[sr x1, sr x2, si (Int32.ofNat cs2.length)]) rfl (XS.aloadN X353.here hx rfl (hb hby d12_14) rfl rfl (XS.aloadN X353.here hx rfl (hb hby d12_15) rfl rfl k)))) ?_
 obtain ⟨T354, X354, e354, st354⟩ := getF X353 hx hZ hown (host := "") (Or.inl (ww hw 83 rfl)) Via.refl e353 hp3 (g := (mkF m 16 #[sr x1, sr x2, si (Int32.ofNat cs2.length)] [(.ref x1), (.ref x1)])) rfl rfl (hb hby d12_16)
 refine go (S' := T354.setTop (mkF m 21 #[sr x1, sr x2, si (Int32.ofNat cs2.length)] [(.int ((Int32.ofNat pre.length) + (Int32.ofNat cs2.length))), (.ref x1)])) (fun t k => st354 _ (XS.iloadN X354.here hx rfl (hb hby d12_19) rfl (XS.iadd X354.here hx rfl (hb hby d12_20) rfl k))) ?_
 rw [own_add pre.length cs2.length]
 obtain ⟨v355, T355, L355, X355, hQ355, st355⟩ := callVp X354 hx hZ (y := y_19) hown (ww hw 85 rfl) (ww hw 86 rfl) (ww hw 88 rfl) (ww hw 89 rfl) (by decide) (backOf (W := 0) (rmEci1 l Z a0 hw [] x1 (Int32.ofNat (pre.length + cs2.length)) tv kb (StrChars.Road.wideBytes pre) h0 n0 (Nat.le_trans Z0 K0.1) hp1 hp2 hp5 (own_cap1 _ hr)) hZ (ww hw 89 rfl) (ww hw 55 rfl) (by decide) (by decide)) hp0 (g := (mkF m 21 #[sr x1, sr x2, si (Int32.ofNat cs2.length)] [(.int (Int32.ofNat (pre.length + cs2.length))), (.ref x1)])) rfl (by rw [hml]; rfl) (kc := 0) (ks := 0) (argsL := [(.int (Int32.ofNat (pre.length + cs2.length)))]) (rest := []) (lenOf pd_22 rfl) rfl (mr0 rfl) (hb hby d12_21) e354 (by decide) (by decide)
 obtain ⟨rfl, N355q, e355⟩ := hQ355
 have N355 := Fr.app N353 N355q
 refine go (S' := T355.setTop (mkF m 26 #[sr x1, sr x2, si (Int32.ofNat cs2.length)] [(.ref x1), (.ref x1)])) (fun t k => st355 _ (XS.aloadN X355.here hx rfl (hb hby d12_24) rfl rfl (XS.aloadN X355.here hx rfl (hb hby d12_25) rfl rfl k))) ?_
 obtain ⟨T356, X356, e356, st356⟩ := getF X355 hx hZ hown (host := "") (Or.inl (ww hw 83 rfl)) Via.refl e355 hp3 (g := (mkF m 26 #[sr x1, sr x2, si (Int32.ofNat cs2.length)] [(.ref x1), (.ref x1)])) rfl rfl (hb hby d12_26)
 refine go (S' := T356.setTop (mkF m 30 #[sr x1, sr x2, si (Int32.ofNat cs2.length)] [(.ref x2), (.int (Int32.ofNat pre.length)), (.ref x1)])) (fun t k => st356 _ (XS.aloadN X356.here hx rfl (hb hby d12_29) rfl rfl k)) ?_
 obtain ⟨v357, T357, L357, X357, hQ357, st357⟩ := callVp X356 hx hZ (y := y_29) hown (ww hw 90 rfl) (ww hw 91 rfl) (ww hw 93 rfl) (ww hw 94 rfl) (by decide) (backOf (W := 0) (rmPs11 l Z a0 hw [] x1 (Int32.ofNat pre.length) x2 tv kb pre t2 cs2 G1 fm h0 n0 (Nat.le_trans Z0 K0.1) hp0 hp1 hp2 hp3 hp4 hp5 hp6 hr hp8 hp9 ne_t2_tv ne_t2_x1 ne_x2_x1 ne_x2_tv ne_tv_x1 hfm hp16 hp17 hG1 hp19 hp20 hp21 O351 rfl) hZ (ww hw 94 rfl) (ww hw 55 rfl) (by decide) (by decide)) hp0 (g := (mkF m 30 #[sr x1, sr x2, si (Int32.ofNat cs2.length)] [(.ref x2), (.int (Int32.ofNat pre.length)), (.ref x1)])) rfl (by rw [hml]; rfl) (kc := 0) (ks := 0) (argsL := [(.int (Int32.ofNat pre.length)), (.ref x2)]) (rest := []) (lenOf pd_23 rfl) rfl (mr0 rfl) (hb hby d12_30) e356 (by decide) (by decide)
 obtain ⟨rfl, N357q, Kq357, q357_0⟩ := hQ357
 have N357 := Fr.app N355 N357q
 have K358 : Keep h0 T357.heap [x1, tv] := K0.trans Kq357 (allS (P := fun x => x ∈ [x1, tv] ∨ h0.size ≤ x) (Or.inl (List.mem_of_getElem? (i := 1) rfl)) all0)
 refine go (S' := T357.setTop (mkF m 35 #[sr x1, sr x2, si (Int32.ofNat cs2.length)] [(.ref x1), (.ref x1)])) (fun t k => st357 _ (XS.aloadN X357.here hx rfl (hb hby d12_33) rfl rfl (XS.dup X357.here hx rfl (hb hby d12_34) rfl rfl k))) ?_
 have f359 : Fld Z T357.heap x1 "java/lang/AbstractStringBuilder" "count" "I" (.int (Int32.ofNat pre.length)) := (hp3.keep Kq357 (ninS (Ne.symm ne_tv_x1) nin0))
 obtain ⟨T360, X360, e360, st360⟩ := getF X357 hx hZ hown (host := "") (Or.inl (ww hw 83 rfl)) Via.refl rfl f359 (g := (mkF m 35 #[sr x1, sr x2, si (Int32.ofNat cs2.length)] [(.ref x1), (.ref x1)])) rfl rfl (hb hby d12_35)
 refine go (S' := T360.setTop (mkF m 40 #[sr x1, sr x2, si (Int32.ofNat cs2.length)] [(.int ((Int32.ofNat pre.length) + (Int32.ofNat cs2.length))), (.ref x1)])) (fun t k => st360 _ (XS.iloadN X360.here hx rfl (hb hby d12_38) rfl (XS.iadd X360.here hx rfl (hb hby d12_39) rfl k))) ?_
 rw [own_add pre.length cs2.length, ← List.length_append]
 obtain ⟨T361, h361, X361, e361, W361, st361⟩ := putF X360 hx hZ hown (host := "") (Or.inl (ww hw 83 rfl)) Via.refl e360 f359 (hp0.keep K358) (Or.inl (ww hw 84 rfl)) (ww hw 46 rfl) (ty := .int) (by decide) rfl rfl (g := (mkF m 40 #[sr x1, sr x2, si (Int32.ofNat cs2.length)] [(.int (Int32.ofNat (pre ++ cs2).length)), (.ref x1)])) rfl rfl (hb hby d12_40)
 have K362 : Keep h0 h361 [x1, tv] := K358.wr W361 (Or.inl (List.mem_of_getElem? (i := 0) rfl))
 have N363 := Fr.snoc X361 N357 hp8
 have f364 : Fld Z h361 x1 "java/lang/AbstractStringBuilder" "count" "I" (.int (Int32.ofNat (pre ++ cs2).length)) := (Fld.same W361 f359)
 refine go (S' := T361.setTop (mkF m 44 #[sr x1, sr x2, si (Int32.ofNat cs2.length)] [(.ref x1)])) (fun t k => st361 _ (XS.aloadN X361.here hx rfl (hb hby d12_43) rfl rfl k)) ?_
 refine finR X361 hx hk hret rfl rfl (hb hby d12_44) (by decide) (by decide) ?_
 have f365 : Fld Z h361 x1 "java/lang/AbstractStringBuilder" "value" "[B" (.ref tv) := (Fld.other W361 (hp1.keep Kq357 (ninS (Ne.symm ne_tv_x1) nin0)) (Or.inr (slot_ne (Or.inl (ww hw 60 rfl)) (Or.inl (ww hw 84 rfl)) (by decide) (t := (.array .byte)) (t' := .int) (by decide) (by decide))))
 have f366 : Fld Z h361 x1 "java/lang/AbstractStringBuilder" "coder" "B" (.int 1) := (Fld.other W361 (hp2.keep Kq357 (ninS (Ne.symm ne_tv_x1) nin0)) (Or.inr (slot_ne (Or.inl (ww hw 62 rfl)) (Or.inl (ww hw 84 rfl)) (by decide) (t := .byte) (t' := .int) (by decide) (by decide))))
 have f367 : Fld Z h361 x1 "java/lang/AbstractStringBuilder" "maybeLatin1" "Z" (.int 0) := (Fld.other W361 (hp4.keep Kq357 (ninS (Ne.symm ne_tv_x1) nin0)) (Or.inr (slot_ne (Or.inl (ww hw 309 rfl)) (Or.inl (ww hw 84 rfl)) (by decide) (t := .boolean) (t' := .int) (by decide) (by decide))))
 have f368 : Arv Z h361 tv kb .byte (Int32.ofNat (2 * 16)) (StrChars.Road.wideBytes (pre ++ cs2)) (.int 0) := (q357_0.other W361 ne_tv_x1)
 rw [e361]
 exact ⟨rfl, N363, K362, f365, f366, f364, f367, f368⟩
theorem ef_rmSa11 (m : MethodId) (x1 : Addr) (x2 : Addr) : entryFrame m #[(.ref x1), (.ref x2)] 2 = mkF m 0 #[sr x1, sr x2] [] := by first | (simp [entryFrame, mkF, argsToLocals, Value.category]; done) | rfl
def Q_rmSa11 (Z : State) (x1 : Addr) (x2 : Addr) (tv : Addr) (kb : ClassId) (pre : List Int32) (t2 : Addr) (cs2 : List Int32) (G1 : Int32) (fm : Value) (h0 : Heap) (n0 : Nat) (v : Option Value) (h : Heap) (L : List Loc) : Prop := v = some (.ref x1) ∧ Fr n0 L ∧ Keep h0 h [x1, tv] ∧ (Fld Z h x1 "java/lang/AbstractStringBuilder" "value" "[B" (.ref tv)) ∧ (Fld Z h x1 "java/lang/AbstractStringBuilder" "coder" "B" (.int 1)) ∧ (Fld Z h x1 "java/lang/AbstractStringBuilder" "count" "I" (.int (Int32.ofNat (pre ++ cs2).length))) ∧ (Fld Z h x1 "java/lang/AbstractStringBuilder" "maybeLatin1" "Z" (.int 0)) ∧ (Arv Z h tv kb .byte (Int32.ofNat (2 * 16)) (StrChars.Road.wideBytes (pre ++ cs2)) (.int 0))
set_option maxRecDepth 65536 in
set_option maxHeartbeats 40000000 in
theorem rmSa11 (l : Launch) (Z : State) (a0 : Array Value) (hw : ∀ d ∈ tables_1, d.before a0 Z = true) (ws : List Jvm.Cond) (x1 : Addr) (x2 : Addr) (tv : Addr) (kb : ClassId) (pre : List Int32) (t2 : Addr) (cs2 : List Int32) (G1 : Int32) (fm : Value) (h0 : Heap) (n0 : Nat) (Z0 : n0 ≤ h0.size) (hp0 : Exa Z h0 x1 "java/lang/StringBuilder") (hp1 : Fld Z h0 x1 "java/lang/AbstractStringBuilder" "value" "[B" (.ref tv)) (hp2 : Fld Z h0 x1 "java/lang/AbstractStringBuilder" "coder" "B" (.int 1)) (hp3 : Fld Z h0 x1 "java/lang/AbstractStringBuilder" "count" "I" (.int (Int32.ofNat pre.length))) (hp4 : Fld Z h0 x1 "java/lang/AbstractStringBuilder" "maybeLatin1" "Z" (.int 0)) (hp5 : Arv Z h0 tv kb .byte (Int32.ofNat (2 * 16)) (StrChars.Road.wideBytes pre) (.int 0)) (hp6 : Str Z h0 x2 t2 (1 : Int32) cs2) (hr : pre.length + cs2.length ≤ 16) (hp8 : n0 ≤ x1) (hp9 : n0 ≤ tv) (hp10 : t2 ≠ tv) (hp11 : t2 ≠ x1) (hp12 : x2 ≠ x1) (hp13 : x2 ≠ tv) (hp14 : tv ≠ x1) (hfm : fm.isRef = true) (hp16 : Sta Z Z.heap "jdk/internal/util/Preconditions" "SIOOBE_FORMATTER" "Ljava/util/function/BiFunction;" fm) (hp17 : Sta Z Z.heap "java/lang/String" "COMPACT_STRINGS" "Z" (.int G1)) (hG1 : ¬ (G1 = (0 : Int32))) (hp19 : Sta Z Z.heap "java/lang/StringUTF16" "$assertionsDisabled" "Z" (.int 1)) (hp20 : Sta Z Z.heap "java/lang/StringUTF16" "HI_BYTE_SHIFT" "I" (.int 0)) (hp21 : Sta Z Z.heap "java/lang/StringUTF16" "LO_BYTE_SHIFT" "I" (.int 8)) (hp22 : Old Z n0 h0) :
    MetFree l y_32 (head1 (Jvm.Cond.code y_32 jdk_67_method_7_code 2 (some (.object "java/lang/StringBuilder")) :: ws) ({ frames := 4, cells := 0, slots := 0, locals := 61 } : Room)) (fun a U => a = #[(.ref x1), (.ref x2)] ∧ Z.Warmed39 U.vm ∧ U.heap = h0) (fun _ _ _ _ _ => True) (fun _ U o U' => ∃ v L, o = .returned v ∧ Q_rmSa11 Z x1 x2 tv kb pre t2 cs2 G1 fm h0 n0 v U'.heap L ∧ FrameEnd U o U' L ({ frames := 4, cells := 0, slots := 0, locals := 61 } : Room).cells ({ frames := 4, cells := 0, slots := 0, locals := 61 } : Room).slots) := by
 refine bodyOf pn_31 (fun m => ef_rmSa11 m x1 x2) ?_
 intro p e s m below meth c T0 X0 hx hby hml hown hnm hret hk hZ e0
 have N0 := Fr.nil n0
 have K0 : Keep h0 h0 [x1, tv] := Keep.refl _ _
 have ne_t2_tv := hp10
 have ne_t2_x1 := hp11
 have ne_x2_x1 := hp12
 have ne_x2_tv := hp13
 have ne_tv_x1 := hp14
 have O0 := hp22
 refine go (S' := T0.setTop (mkF m 2 #[sr x1, sr x2] [(.ref x2), (.ref x1)])) (fun t k => XS.aloadN X0.here hx rfl (hb hby d11_0) rfl rfl (XS.aloadN X0.here hx rfl (hb hby d11_1) rfl rfl k)) ?_
 have O369 : Old Z n0 h0 := O0.keep K0 (allS hp8 (allS hp9 all0))
 obtain ⟨v370, T370, L370, X370, hQ370, st370⟩ := callSu X0 hx hZ (y := y_31) hown (ww hw 68 rfl) (own_same (ww hw 69 rfl) (nf_sel (args := a0) (y' := y_19) rfl (ww hw 88 rfl)) (by decide)) (ww hw 69 rfl) (ww hw 70 rfl) (ww hw 72 rfl) (by decide) (backOf (W := 0) (rmAp11 l Z a0 hw [] x1 x2 tv kb pre t2 cs2 G1 fm h0 n0 (Nat.le_trans Z0 K0.1) hp0 hp1 hp2 hp3 hp4 hp5 hp6 hr hp8 hp9 ne_t2_tv ne_t2_x1 ne_x2_x1 ne_x2_tv ne_tv_x1 hfm hp16 hp17 hG1 hp19 hp20 hp21 O369) hZ (ww hw 72 rfl) (ww hw 55 rfl) (by decide) (by decide)) (Ins.of_exa hp0 (ww hw 54 rfl)) (g := (mkF m 2 #[sr x1, sr x2] [(.ref x2), (.ref x1)])) rfl (by rw [hml]; rfl) (kc := 0) (ks := 0) (argsL := [(.ref x2)]) (rest := []) (lenOf pd_24 rfl) rfl (mr0 rfl) (hb hby d11_2) e0 (by decide) (by decide)
 obtain ⟨rfl, N370q, Kq370, q370_0, q370_1, q370_2, q370_3, q370_4⟩ := hQ370
 have N370 := Fr.app N0 N370q
 have K371 : Keep h0 T370.heap [x1, tv] := K0.trans Kq370 (allS (P := fun x => x ∈ [x1, tv] ∨ h0.size ≤ x) (Or.inl (List.mem_of_getElem? (i := 0) rfl)) (allS (P := fun x => x ∈ [x1, tv] ∨ h0.size ≤ x) (Or.inl (List.mem_of_getElem? (i := 1) rfl)) all0))
 refine go (S' := T370.setTop (mkF m 7 #[sr x1, sr x2] [(.ref x1)])) (fun t k => st370 _ (XS.pop X370.here hx rfl (hb hby d11_5) rfl rfl (XS.aloadN X370.here hx rfl (hb hby d11_6) rfl rfl k))) ?_
 refine finR X370 hx hk hret rfl rfl (hb hby d11_7) (by decide) (by decide) ?_
 exact ⟨rfl, N370, K371, q370_0, q370_1, q370_2, q370_3, q370_4⟩
theorem d10_0 : dd jdk_68_method_2_code 0 (.aload_n 0) 1 := by decide +kernel
theorem d10_1 : dd jdk_68_method_2_code 1 (.invokespecial 3) 3 := by decide +kernel
theorem d10_4 : dd jdk_68_method_2_code 4 (.getstatic 18) 3 := by decide +kernel
theorem d10_7 : dd jdk_68_method_2_code 7 (.ifCond .eq 18) 3 := by decide +kernel
theorem d10_10 : dd jdk_68_method_2_code 10 (.aload_n 0) 1 := by decide +kernel
theorem d10_11 : dd jdk_68_method_2_code 11 (.iload_n 1) 1 := by decide +kernel
theorem d10_12 : dd jdk_68_method_2_code 12 (.newarray .byte) 2 := by decide +kernel
theorem d10_14 : dd jdk_68_method_2_code 14 (.putfield 15) 3 := by decide +kernel
theorem d10_17 : dd jdk_68_method_2_code 17 (.aload_n 0) 1 := by decide +kernel
theorem d10_18 : dd jdk_68_method_2_code 18 (.iconst 0) 1 := by decide +kernel
theorem d10_19 : dd jdk_68_method_2_code 19 (.putfield 22) 3 := by decide +kernel
theorem d10_22 : dd jdk_68_method_2_code 22 (.goto 16) 3 := by decide +kernel
theorem d10_38 : dd jdk_68_method_2_code 38 .return_ 1 := by decide +kernel
abbrev y_33 : MethodName := ⟨"java/lang/AbstractStringBuilder", "<init>", "(I)V"⟩
theorem pn_32 : plainFor y_33 = true := by first | exact plainFor_of_name (by first | (simp [plainName, overriddenIn]; done) | decide +kernel) | decide +kernel
theorem ef_rmAbi (m : MethodId) (x1 : Addr) : entryFrame m #[(.ref x1), (.int 16)] 2 = mkF m 0 #[sr x1, si 16] [] := by first | (simp [entryFrame, mkF, argsToLocals, Value.category]; done) | rfl
def Q_rmAbi (Z : State) (x1 : Addr) (G1 : Int32) (h0 : Heap) (n0 : Nat) (v : Option Value) (h : Heap) (L : List Loc) : Prop := ∃ (tv : Addr), ∃ (kb : ClassId), v = none ∧ Fr n0 L ∧ Keep h0 h [x1] ∧ (h0.size ≤ tv) ∧ (Fld Z h x1 "java/lang/AbstractStringBuilder" "value" "[B" (.ref tv)) ∧ (Fld Z h x1 "java/lang/AbstractStringBuilder" "coder" "B" (.int 0)) ∧ (Fld Z h x1 "java/lang/AbstractStringBuilder" "count" "I" (.int 0)) ∧ (Fld Z h x1 "java/lang/AbstractStringBuilder" "maybeLatin1" "Z" (.int 0)) ∧ (Arv Z h tv kb .byte (16 : Int32) [] (.int 0))
set_option maxRecDepth 65536 in
set_option maxHeartbeats 40000000 in
theorem rmAbi (l : Launch) (Z : State) (a0 : Array Value) (hw : ∀ d ∈ tables_1, d.before a0 Z = true) (ws : List Jvm.Cond) (x1 : Addr) (G1 : Int32) (h0 : Heap) (n0 : Nat) (Z0 : n0 ≤ h0.size) (hp0 : Exa Z h0 x1 "java/lang/StringBuilder") (hp1 : Fld Z h0 x1 "java/lang/AbstractStringBuilder" "value" "[B" .null) (hp2 : Fld Z h0 x1 "java/lang/AbstractStringBuilder" "coder" "B" (.int 0)) (hp3 : Fld Z h0 x1 "java/lang/AbstractStringBuilder" "count" "I" (.int 0)) (hp4 : Fld Z h0 x1 "java/lang/AbstractStringBuilder" "maybeLatin1" "Z" (.int 0)) (hp5 : n0 ≤ x1) (hp6 : Sta Z Z.heap "java/lang/String" "COMPACT_STRINGS" "Z" (.int G1)) (hG1 : ¬ (G1 = (0 : Int32))) (hp8 : Old Z n0 h0) :
    MetFree l y_33 (head1 (Jvm.Cond.code y_33 jdk_68_method_2_code 2 none :: ws) ({ frames := 1, cells := 1, slots := 16, locals := 12 } : Room)) (fun a U => a = #[(.ref x1), (.int 16)] ∧ Z.Warmed39 U.vm ∧ U.heap = h0) (fun _ _ _ _ _ => True) (fun _ U o U' => ∃ v L, o = .returned v ∧ Q_rmAbi Z x1 G1 h0 n0 v U'.heap L ∧ FrameEnd U o U' L ({ frames := 1, cells := 1, slots := 16, locals := 12 } : Room).cells ({ frames := 1, cells := 1, slots := 16, locals := 12 } : Room).slots) := by
 refine bodyOf pn_32 (fun m => ef_rmAbi m x1) ?_
 intro p e s m below meth c T0 X0 hx hby hml hown hnm hret hk hZ e0
 have N0 := Fr.nil n0
 have K0 : Keep h0 h0 [x1] := Keep.refl _ _
 have O0 := hp8
 refine go (S' := T0.setTop (mkF m 1 #[sr x1, si 16] [(.ref x1)])) (fun t k => XS.aloadN X0.here hx rfl (hb hby d10_0) rfl rfl k) ?_
 obtain ⟨T372, X372, e372, st372⟩ := initO X0 hx hZ hown (ww hw 57 rfl) (ww hw 18 rfl) (ww hw 19 rfl) e0 (g := (mkF m 1 #[sr x1, si 16] [(.ref x1)])) rfl (by rw [hml]; rfl) rfl (hb hby d10_1) (by decide) (W := 0) (mr0 rfl) (by decide)
 refine go (S' := T372.setTop (mkF m 4 #[sr x1, si 16] [])) st372 ?_
 have O374 : Old Z n0 h0 := O0.keep K0 (allS hp5 all0)
 obtain ⟨T373, X373, e373, st373⟩ := getS2 X372 hx hZ hown (host := "") (Or.inl (ww hw 58 rfl)) Via.refl e372 (hp6.ext O374.2) (g := (mkF m 4 #[sr x1, si 16] [])) rfl (hb hby d10_4)
 refine go (S' := T373.setTop (mkF m 12 #[sr x1, si 16] [(.int 16), (.ref x1)])) (fun t k => st373 _ (XS.ifNo X373.here hx rfl (hb hby d10_7) rfl ((if0 _ _).trans (feq hG1).1) (XS.aloadN X373.here hx rfl (hb hby d10_10) rfl rfl (XS.iloadN X373.here hx rfl (hb hby d10_11) rfl k)))) ?_
 obtain ⟨T375, h375, k375, X375, e375, E375, A375, st375⟩ := newP X373 hx hZ (ww hw 25 rfl) e373 (g := (mkF m 12 #[sr x1, si 16] [(.int 16), (.ref x1)])) rfl (hb hby d10_12) rfl (by decide) (cap := 16) (by decide) (by decide) (by decide) (by decide)
 obtain ⟨b375, g375⟩ : ∃ z, z = h0.size := ⟨_, rfl⟩
 rw [← g375] at A375 st375
 have lt_x1_b375 : x1 < b375 := by rw [g375]; exact hp0.lt
 have ge_b375 : n0 ≤ b375 := by rw [g375]; exact (Nat.le_trans Z0 K0.1)
 have sz_b375 : h0.size ≤ b375 := by rw [g375]; exact K0.1
 have K376 : Keep h0 h375 [x1] := K0.ext E375
 have V375 : Arv Z h375 b375 k375 .byte (16 : Int32) [] (.int 0) := Arv.new A375 (by decide)
 refine go (S' := T375.setTop (mkF m 14 #[sr x1, si 16] [(.ref b375), (.ref x1)])) st375 ?_
 have f377 : Fld Z h375 x1 "java/lang/AbstractStringBuilder" "value" "[B" .null := (hp1.ext E375)
 obtain ⟨T378, h378, X378, e378, W378, st378⟩ := putF X375 hx hZ hown (host := "") (Or.inl (ww hw 59 rfl)) Via.refl e375 f377 (hp0.keep K376) (Or.inl (ww hw 60 rfl)) (ww hw 46 rfl) (ty := (.array .byte)) (by decide) rfl rfl (g := (mkF m 14 #[sr x1, si 16] [(.ref b375), (.ref x1)])) rfl rfl (hb hby d10_14)
 have K379 : Keep h0 h378 [x1] := K376.wr W378 (Or.inl (List.mem_of_getElem? (i := 0) rfl))
 have N380 := Fr.snoc X378 N0 hp5
 have f381 : Fld Z h378 x1 "java/lang/AbstractStringBuilder" "value" "[B" (.ref b375) := (Fld.same W378 f377)
 refine go (S' := T378.setTop (mkF m 19 #[sr x1, si 16] [(.int 0), (.ref x1)])) (fun t k => st378 _ (XS.aloadN X378.here hx rfl (hb hby d10_17) rfl rfl (XS.iconst X378.here hx rfl (hb hby d10_18) k))) ?_
 have f382 : Fld Z h378 x1 "java/lang/AbstractStringBuilder" "coder" "B" (.int 0) := (Fld.other W378 (hp2.ext E375) (Or.inr (slot_ne (Or.inl (ww hw 62 rfl)) (Or.inl (ww hw 60 rfl)) (by decide) (t := .byte) (t' := (.array .byte)) (by decide) (by decide))))
 obtain ⟨T383, h383, X383, e383, W383, st383⟩ := putF X378 hx hZ hown (host := "") (Or.inl (ww hw 61 rfl)) Via.refl e378 f382 (hp0.keep K379) (Or.inl (ww hw 62 rfl)) (ww hw 46 rfl) (ty := .byte) (by decide) (by decide) (by decide) (g := (mkF m 19 #[sr x1, si 16] [(.int 0), (.ref x1)])) rfl rfl (hb hby d10_19)
 have K384 : Keep h0 h383 [x1] := K379.wr W383 (Or.inl (List.mem_of_getElem? (i := 0) rfl))
 have N385 := Fr.snoc X383 N380 hp5
 have f386 : Fld Z h383 x1 "java/lang/AbstractStringBuilder" "coder" "B" (.int 0) := (Fld.same W383 f382)
 refine go (S' := T383.setTop (mkF m 38 #[sr x1, si 16] [])) (fun t k => st383 _ (XS.goto X383.here hx rfl (pc0 := 22) (pc' := 38) rfl (hb hby d10_22) (by decide) (by decide) k)) ?_
 refine finV X383 hx hk hret (hb hby d10_38) (by decide) (by decide) ?_
 have f387 : Fld Z h383 x1 "java/lang/AbstractStringBuilder" "value" "[B" (.ref b375) := (Fld.other W383 f381 (Or.inr (slot_ne (Or.inl (ww hw 60 rfl)) (Or.inl (ww hw 62 rfl)) (by decide) (t := (.array .byte)) (t' := .byte) (by decide) (by decide))))
 have f388 : Fld Z h383 x1 "java/lang/AbstractStringBuilder" "count" "I" (.int 0) := (Fld.other W383 (Fld.other W378 (hp3.ext E375) (Or.inr (slot_ne (Or.inl (ww hw 84 rfl)) (Or.inl (ww hw 60 rfl)) (by decide) (t := .int) (t' := (.array .byte)) (by decide) (by decide)))) (Or.inr (slot_ne (Or.inl (ww hw 84 rfl)) (Or.inl (ww hw 62 rfl)) (by decide) (t := .int) (t' := .byte) (by decide) (by decide))))
 have f389 : Fld Z h383 x1 "java/lang/AbstractStringBuilder" "maybeLatin1" "Z" (.int 0) := (Fld.other W383 (Fld.other W378 (hp4.ext E375) (Or.inr (slot_ne (Or.inl (ww hw 309 rfl)) (Or.inl (ww hw 60 rfl)) (by decide) (t := .boolean) (t' := (.array .byte)) (by decide) (by decide)))) (Or.inr (slot_ne (Or.inl (ww hw 309 rfl)) (Or.inl (ww hw 62 rfl)) (by decide) (t := .boolean) (t' := .byte) (by decide) (by decide))))
 have f390 : Arv Z h383 b375 k375 .byte (16 : Int32) [] (.int 0) := ((V375.other W378 (Nat.ne_of_gt lt_x1_b375)).other W383 (Nat.ne_of_gt lt_x1_b375))
 rw [e383]
 exact ⟨b375, k375, rfl, N385, K384, sz_b375, f387, f386, f388, f389, f390⟩
theorem d9_0 : dd jdk_67_method_1_code 0 (.aload_n 0) 1 := by decide +kernel
theorem d9_1 : dd jdk_67_method_1_code 1 (.bipush 16) 2 := by decide +kernel
theorem d9_3 : dd jdk_67_method_1_code 3 (.invokespecial 1) 3 := by decide +kernel
theorem d9_6 : dd jdk_67_method_1_code 6 .return_ 1 := by decide +kernel
abbrev y_34 : MethodName := ⟨"java/lang/StringBuilder", "<init>", "()V"⟩
theorem pn_33 : plainFor y_34 = true := by first | exact plainFor_of_name (by first | (simp [plainName, overriddenIn]; done) | decide +kernel) | decide +kernel
theorem ef_rmSbi (m : MethodId) (x1 : Addr) : entryFrame m #[(.ref x1)] 1 = mkF m 0 #[sr x1] [] := by first | (simp [entryFrame, mkF, argsToLocals, Value.category]; done) | rfl
def Q_rmSbi (Z : State) (x1 : Addr) (G1 : Int32) (h0 : Heap) (n0 : Nat) (v : Option Value) (h : Heap) (L : List Loc) : Prop := ∃ (tv : Addr), ∃ (kb : ClassId), v = none ∧ Fr n0 L ∧ Keep h0 h [x1] ∧ (h0.size ≤ tv) ∧ (Fld Z h x1 "java/lang/AbstractStringBuilder" "value" "[B" (.ref tv)) ∧ (Fld Z h x1 "java/lang/AbstractStringBuilder" "coder" "B" (.int 0)) ∧ (Fld Z h x1 "java/lang/AbstractStringBuilder" "count" "I" (.int 0)) ∧ (Fld Z h x1 "java/lang/AbstractStringBuilder" "maybeLatin1" "Z" (.int 0)) ∧ (Arv Z h tv kb .byte (16 : Int32) [] (.int 0))
set_option maxRecDepth 65536 in
set_option maxHeartbeats 40000000 in
theorem rmSbi (l : Launch) (Z : State) (a0 : Array Value) (hw : ∀ d ∈ tables_1, d.before a0 Z = true) (ws : List Jvm.Cond) (x1 : Addr) (G1 : Int32) (h0 : Heap) (n0 : Nat) (Z0 : n0 ≤ h0.size) (hp0 : Exa Z h0 x1 "java/lang/StringBuilder") (hp1 : Fld Z h0 x1 "java/lang/AbstractStringBuilder" "value" "[B" .null) (hp2 : Fld Z h0 x1 "java/lang/AbstractStringBuilder" "coder" "B" (.int 0)) (hp3 : Fld Z h0 x1 "java/lang/AbstractStringBuilder" "count" "I" (.int 0)) (hp4 : Fld Z h0 x1 "java/lang/AbstractStringBuilder" "maybeLatin1" "Z" (.int 0)) (hp5 : n0 ≤ x1) (hp6 : Sta Z Z.heap "java/lang/String" "COMPACT_STRINGS" "Z" (.int G1)) (hG1 : ¬ (G1 = (0 : Int32))) (hp8 : Old Z n0 h0) :
    MetFree l y_34 (head1 (Jvm.Cond.code y_34 jdk_67_method_1_code 1 none :: ws) ({ frames := 2, cells := 1, slots := 16, locals := 25 } : Room)) (fun a U => a = #[(.ref x1)] ∧ Z.Warmed39 U.vm ∧ U.heap = h0) (fun _ _ _ _ _ => True) (fun _ U o U' => ∃ v L, o = .returned v ∧ Q_rmSbi Z x1 G1 h0 n0 v U'.heap L ∧ FrameEnd U o U' L ({ frames := 2, cells := 1, slots := 16, locals := 25 } : Room).cells ({ frames := 2, cells := 1, slots := 16, locals := 25 } : Room).slots) := by
 refine bodyOf pn_33 (fun m => ef_rmSbi m x1) ?_
 intro p e s m below meth c T0 X0 hx hby hml hown hnm hret hk hZ e0
 have N0 := Fr.nil n0
 have K0 : Keep h0 h0 [x1] := Keep.refl _ _
 have O0 := hp8
 refine go (S' := T0.setTop (mkF m 3 #[sr x1] [(.int 16), (.ref x1)])) (fun t k => XS.aloadN X0.here hx rfl (hb hby d9_0) rfl rfl (XS.bipush X0.here hx rfl (hb hby d9_1) k)) ?_
 have O391 : Old Z n0 h0 := O0.keep K0 (allS hp5 all0)
 obtain ⟨v392, T392, L392, X392, hQ392, st392⟩ := callSp X0 hx hZ (y := y_33) rfl hown (ww hw 51 rfl) (ww hw 52 rfl) (ww hw 56 rfl) (by decide) (backOf (W := 0) (rmAbi l Z a0 hw [] x1 G1 h0 n0 (Nat.le_trans Z0 K0.1) hp0 hp1 hp2 hp3 hp4 hp5 hp6 hG1 O391) hZ (ww hw 56 rfl) (ww hw 55 rfl) (by decide) (by decide)) (g := (mkF m 3 #[sr x1] [(.int 16), (.ref x1)])) rfl (by rw [hml]; rfl) (a := x1) (kc := 1) (ks := 16) (argsL := [(.int 16)]) (rest := []) (lenOf pd_22 rfl) rfl (mr0 rfl) (hb hby d9_3) e0 (by decide) (by decide)
 obtain ⟨tv_392, kb_392, rfl, N392q, Kq392, q392_0, q392_1, q392_2, q392_3, q392_4, q392_5⟩ := hQ392
 have N392 := Fr.app N0 N392q
 have K393 : Keep h0 T392.heap [x1] := K0.trans Kq392 (allS (P := fun x => x ∈ [x1] ∨ h0.size ≤ x) (Or.inl (List.mem_of_getElem? (i := 0) rfl)) all0)
 have lt_x1_tv_392 : x1 < tv_392 := Nat.lt_of_lt_of_le hp0.lt q392_0
 have sz_tv_392 : h0.size ≤ tv_392 := Nat.le_trans K0.1 q392_0
 have ge_tv_392 : n0 ≤ tv_392 := Nat.le_trans Z0 sz_tv_392
 refine go (S' := T392.setTop (mkF m 6 #[sr x1] [])) st392 ?_
 refine finV X392 hx hk hret (hb hby d9_6) (by decide) (by decide) ?_
 exact ⟨tv_392, kb_392, rfl, N392, K393, sz_tv_392, q392_1, q392_2, q392_3, q392_4, q392_5⟩
theorem d22_0 : dd jdk_68_method_64_code 0 (.aload_n 0) 1 := by decide +kernel
theorem d22_1 : dd jdk_68_method_64_code 1 (.getfield 15) 3 := by decide +kernel
theorem d22_4 : dd jdk_68_method_64_code 4 .areturn 1 := by decide +kernel
abbrev y_35 : MethodName := ⟨"java/lang/AbstractStringBuilder", "getValue", "()[B"⟩
theorem pn_34 : plainFor y_35 = true := by first | exact plainFor_of_name (by first | (simp [plainName, overriddenIn]; done) | decide +kernel) | decide +kernel
theorem ef_rmGv (m : MethodId) (x1 : Addr) : entryFrame m #[(.ref x1)] 1 = mkF m 0 #[sr x1] [] := by first | (simp [entryFrame, mkF, argsToLocals, Value.category]; done) | rfl
def Q_rmGv (Z : State) (x1 : Addr) (tv : Addr) (h0 : Heap) (n0 : Nat) (v : Option Value) (h : Heap) (L : List Loc) : Prop := v = some (.ref tv) ∧ Fr n0 L ∧ h = h0
set_option maxRecDepth 65536 in
set_option maxHeartbeats 40000000 in
theorem rmGv (l : Launch) (Z : State) (a0 : Array Value) (hw : ∀ d ∈ tables_1, d.before a0 Z = true) (ws : List Jvm.Cond) (x1 : Addr) (tv : Addr) (h0 : Heap) (n0 : Nat) (Z0 : n0 ≤ h0.size) (hp0 : Fld Z h0 x1 "java/lang/AbstractStringBuilder" "value" "[B" (.ref tv)) :
    MetFree l y_35 (head1 (Jvm.Cond.code y_35 jdk_68_method_64_code 1 (some (.array .byte)) :: ws) ({ frames := 0, cells := 0, slots := 0, locals := 0 } : Room)) (fun a U => a = #[(.ref x1)] ∧ Z.Warmed39 U.vm ∧ U.heap = h0) (fun _ _ _ _ _ => True) (fun _ U o U' => ∃ v L, o = .returned v ∧ Q_rmGv Z x1 tv h0 n0 v U'.heap L ∧ FrameEnd U o U' L ({ frames := 0, cells := 0, slots := 0, locals := 0 } : Room).cells ({ frames := 0, cells := 0, slots := 0, locals := 0 } : Room).slots) := by
 refine bodyOf pn_34 (fun m => ef_rmGv m x1) ?_
 intro p e s m below meth c T0 X0 hx hby hml hown hnm hret hk hZ e0
 have N0 := Fr.nil n0
 have K0 : Keep h0 h0 [] := Keep.refl _ _
 refine go (S' := T0.setTop (mkF m 1 #[sr x1] [(.ref x1)])) (fun t k => XS.aloadN X0.here hx rfl (hb hby d22_0) rfl rfl k) ?_
 obtain ⟨T394, X394, e394, st394⟩ := getF X0 hx hZ hown (host := "") (Or.inl (ww hw 59 rfl)) Via.refl e0 hp0 (g := (mkF m 1 #[sr x1] [(.ref x1)])) rfl rfl (hb hby d22_1)
 refine go (S' := T394.setTop (mkF m 4 #[sr x1] [(.ref tv)])) st394 ?_
 refine finR X394 hx hk hret rfl rfl (hb hby d22_4) (by decide) (by decide) ?_
 rw [e394]
 exact ⟨rfl, N0, rfl⟩
theorem d24_0 : dd jdk_68_method_6_code 0 (.aload_n 0) 1 := by decide +kernel
theorem d24_1 : dd jdk_68_method_6_code 1 (.getfield 79) 3 := by decide +kernel
theorem d24_4 : dd jdk_68_method_6_code 4 .ireturn 1 := by decide +kernel
abbrev y_36 : MethodName := ⟨"java/lang/AbstractStringBuilder", "length", "()I"⟩
theorem pn_35 : plainFor y_36 = true := by first | exact plainFor_of_name (by first | (simp [plainName, overriddenIn]; done) | decide +kernel) | decide +kernel
theorem ef_rmAln (m : MethodId) (x1 : Addr) : entryFrame m #[(.ref x1)] 1 = mkF m 0 #[sr x1] [] := by first | (simp [entryFrame, mkF, argsToLocals, Value.category]; done) | rfl
def Q_rmAln (Z : State) (x1 : Addr) (n : Int32) (h0 : Heap) (n0 : Nat) (v : Option Value) (h : Heap) (L : List Loc) : Prop := v = some (.int n) ∧ Fr n0 L ∧ h = h0
set_option maxRecDepth 65536 in
set_option maxHeartbeats 40000000 in
theorem rmAln (l : Launch) (Z : State) (a0 : Array Value) (hw : ∀ d ∈ tables_1, d.before a0 Z = true) (ws : List Jvm.Cond) (x1 : Addr) (n : Int32) (h0 : Heap) (n0 : Nat) (Z0 : n0 ≤ h0.size) (hp0 : Fld Z h0 x1 "java/lang/AbstractStringBuilder" "count" "I" (.int n)) :
    MetFree l y_36 (head1 (Jvm.Cond.code y_36 jdk_68_method_6_code 1 (some .int) :: ws) ({ frames := 0, cells := 0, slots := 0, locals := 0 } : Room)) (fun a U => a = #[(.ref x1)] ∧ Z.Warmed39 U.vm ∧ U.heap = h0) (fun _ _ _ _ _ => True) (fun _ U o U' => ∃ v L, o = .returned v ∧ Q_rmAln Z x1 n h0 n0 v U'.heap L ∧ FrameEnd U o U' L ({ frames := 0, cells := 0, slots := 0, locals := 0 } : Room).cells ({ frames := 0, cells := 0, slots := 0, locals := 0 } : Room).slots) := by
 refine bodyOf pn_35 (fun m => ef_rmAln m x1) ?_
 intro p e s m below meth c T0 X0 hx hby hml hown hnm hret hk hZ e0
 have N0 := Fr.nil n0
 have K0 : Keep h0 h0 [] := Keep.refl _ _
 refine go (S' := T0.setTop (mkF m 1 #[sr x1] [(.ref x1)])) (fun t k => XS.aloadN X0.here hx rfl (hb hby d24_0) rfl rfl k) ?_
 obtain ⟨T395, X395, e395, st395⟩ := getF X0 hx hZ hown (host := "") (Or.inl (ww hw 83 rfl)) Via.refl e0 hp0 (g := (mkF m 1 #[sr x1] [(.ref x1)])) rfl rfl (hb hby d24_1)
 refine go (S' := T395.setTop (mkF m 4 #[sr x1] [(.int n)])) st395 ?_
 refine finI X395 hx hk hret (hb hby d24_4) (by decide) (by decide) ?_
 rw [e395]
 exact ⟨rfl, N0, rfl⟩
theorem d23_0 : dd jdk_67_method_93_code 0 (.aload_n 0) 1 := by decide +kernel
theorem d23_1 : dd jdk_67_method_93_code 1 (.invokespecial 343) 3 := by decide +kernel
theorem d23_4 : dd jdk_67_method_93_code 4 .ireturn 1 := by decide +kernel
abbrev y_37 : MethodName := ⟨"java/lang/StringBuilder", "length", "()I"⟩
theorem pn_36 : plainFor y_37 = true := by first | exact plainFor_of_name (by first | (simp [plainName, overriddenIn]; done) | decide +kernel) | decide +kernel
theorem ef_rmSln (m : MethodId) (x1 : Addr) : entryFrame m #[(.ref x1)] 1 = mkF m 0 #[sr x1] [] := by first | (simp [entryFrame, mkF, argsToLocals, Value.category]; done) | rfl
def Q_rmSln (Z : State) (x1 : Addr) (n : Int32) (h0 : Heap) (n0 : Nat) (v : Option Value) (h : Heap) (L : List Loc) : Prop := v = some (.int n) ∧ Fr n0 L ∧ h = h0
set_option maxRecDepth 65536 in
set_option maxHeartbeats 40000000 in
theorem rmSln (l : Launch) (Z : State) (a0 : Array Value) (hw : ∀ d ∈ tables_1, d.before a0 Z = true) (ws : List Jvm.Cond) (x1 : Addr) (n : Int32) (h0 : Heap) (n0 : Nat) (Z0 : n0 ≤ h0.size) (hp0 : Exa Z h0 x1 "java/lang/StringBuilder") (hp1 : Fld Z h0 x1 "java/lang/AbstractStringBuilder" "count" "I" (.int n)) :
    MetFree l y_37 (head1 (Jvm.Cond.code y_37 jdk_67_method_93_code 1 (some .int) :: ws) ({ frames := 1, cells := 0, slots := 0, locals := 12 } : Room)) (fun a U => a = #[(.ref x1)] ∧ Z.Warmed39 U.vm ∧ U.heap = h0) (fun _ _ _ _ _ => True) (fun _ U o U' => ∃ v L, o = .returned v ∧ Q_rmSln Z x1 n h0 n0 v U'.heap L ∧ FrameEnd U o U' L ({ frames := 1, cells := 0, slots := 0, locals := 12 } : Room).cells ({ frames := 1, cells := 0, slots := 0, locals := 12 } : Room).slots) := by
 refine bodyOf pn_36 (fun m => ef_rmSln m x1) ?_
 intro p e s m below meth c T0 X0 hx hby hml hown hnm hret hk hZ e0
 have N0 := Fr.nil n0
 have K0 : Keep h0 h0 [] := Keep.refl _ _
 refine go (S' := T0.setTop (mkF m 1 #[sr x1] [(.ref x1)])) (fun t k => XS.aloadN X0.here hx rfl (hb hby d23_0) rfl rfl k) ?_
 obtain ⟨v396, T396, L396, X396, hQ396, st396⟩ := callSu X0 hx hZ (y := y_36) hown (ww hw 135 rfl) (own_same (ww hw 131 rfl) (nf_sel (args := a0) (y' := y_19) rfl (ww hw 88 rfl)) (by decide)) (ww hw 131 rfl) (ww hw 70 rfl) (ww hw 136 rfl) (by decide) (backOf (W := 0) (rmAln l Z a0 hw [] x1 n h0 n0 (Nat.le_trans Z0 K0.1) hp1) hZ (ww hw 136 rfl) (ww hw 55 rfl) (by decide) (by decide)) (Ins.of_exa hp0 (ww hw 54 rfl)) (g := (mkF m 1 #[sr x1] [(.ref x1)])) rfl (by rw [hml]; rfl) (kc := 0) (ks := 0) (argsL := []) (rest := []) (lenOf pd_21 rfl) rfl (mr0 rfl) (hb hby d23_1) e0 (by decide) (by decide)
 obtain ⟨rfl, N396q, e396⟩ := hQ396
 have N396 := Fr.app N0 N396q
 refine go (S' := T396.setTop (mkF m 4 #[sr x1] [(.int n)])) st396 ?_
 refine finI X396 hx hk hret (hb hby d23_4) (by decide) (by decide) ?_
 rw [e396]
 exact ⟨rfl, N396, rfl⟩
theorem d28_0 : dd jdk_65_method_131_code 0 (.iload_n 1) 1 := by decide +kernel
theorem d28_1 : dd jdk_65_method_131_code 1 (.iload_n 0) 1 := by decide +kernel
theorem d28_2 : dd jdk_65_method_131_code 2 (.if_icmp .ge 35) 3 := by decide +kernel
theorem d28_37 : dd jdk_65_method_131_code 37 .return_ 1 := by decide +kernel
abbrev y_38 : MethodName := ⟨"java/util/Arrays", "checkLength", "(II)V"⟩
theorem pn_37 : plainFor y_38 = true := by first | exact plainFor_of_name (by first | (simp [plainName, overriddenIn]; done) | decide +kernel) | decide +kernel
theorem ef_rmChk (m : MethodId) (pt : Int32) : entryFrame m #[(.int 0), (.int pt)] 2 = mkF m 0 #[si 0, si pt] [] := by first | (simp [entryFrame, mkF, argsToLocals, Value.category]; done) | rfl
def Q_rmChk (Z : State) (pt : Int32) (h0 : Heap) (n0 : Nat) (v : Option Value) (h : Heap) (L : List Loc) : Prop := v = none ∧ Fr n0 L ∧ h = h0
set_option maxRecDepth 65536 in
set_option maxHeartbeats 40000000 in
theorem rmChk (l : Launch) (Z : State) (a0 : Array Value) (hw : ∀ d ∈ tables_1, d.before a0 Z = true) (ws : List Jvm.Cond) (pt : Int32) (h0 : Heap) (n0 : Nat) (Z0 : n0 ≤ h0.size) (hz : ¬ (pt < (0 : Int32))) :
    MetFree l y_38 (head1 (Jvm.Cond.code y_38 jdk_65_method_131_code 2 none :: ws) ({ frames := 0, cells := 0, slots := 0, locals := 0 } : Room)) (fun a U => a = #[(.int 0), (.int pt)] ∧ Z.Warmed39 U.vm ∧ U.heap = h0) (fun _ _ _ _ _ => True) (fun _ U o U' => ∃ v L, o = .returned v ∧ Q_rmChk Z pt h0 n0 v U'.heap L ∧ FrameEnd U o U' L ({ frames := 0, cells := 0, slots := 0, locals := 0 } : Room).cells ({ frames := 0, cells := 0, slots := 0, locals := 0 } : Room).slots) := by
 refine bodyOf pn_37 (fun m => ef_rmChk m pt) ?_
 intro p e s m below meth c T0 X0 hx hby hml hown hnm hret hk hZ e0
 have N0 := Fr.nil n0
 have K0 : Keep h0 h0 [] := Keep.refl _ _
 refine go (S' := T0.setTop (mkF m 37 #[si 0, si pt] [])) (fun t k => XS.iloadN X0.here hx rfl (hb hby d28_0) rfl (XS.iloadN X0.here hx rfl (hb hby d28_1) rfl (XS.icmpYes X0.here hx rfl (pc0 := 2) (pc' := 37) rfl (hb hby d28_2) rfl (flt hz).2.1 (by decide) (by decide) k))) ?_
 refine finV X0 hx hk hret (hb hby d28_37) (by decide) (by decide) ?_
 rw [e0]
 exact ⟨rfl, N0, rfl⟩
theorem d29_0 : dd jdk_29_method_69_code 0 (.iload_n 0) 1 := by decide +kernel
theorem d29_1 : dd jdk_29_method_69_code 1 (.iload_n 1) 1 := by decide +kernel
theorem d29_2 : dd jdk_29_method_69_code 2 (.if_icmp .gt 7) 3 := by decide +kernel
theorem d29_9 : dd jdk_29_method_69_code 9 (.iload_n 1) 1 := by decide +kernel
theorem d29_10 : dd jdk_29_method_69_code 10 .ireturn 1 := by decide +kernel
abbrev y_39 : MethodName := ⟨"java/lang/Math", "min", "(II)I"⟩
theorem pn_38 : plainFor y_39 = true := by first | exact plainFor_of_name (by first | (simp [plainName, overriddenIn]; done) | decide +kernel) | decide +kernel
theorem ef_rmMin (m : MethodId) (p1 : Int32) (p2 : Int32) : entryFrame m #[(.int p1), (.int p2)] 2 = mkF m 0 #[si p1, si p2] [] := by first | (simp [entryFrame, mkF, argsToLocals, Value.category]; done) | rfl
def Q_rmMin (Z : State) (p1 : Int32) (p2 : Int32) (h0 : Heap) (n0 : Nat) (v : Option Value) (h : Heap) (L : List Loc) : Prop := v = some (.int p2) ∧ Fr n0 L ∧ h = h0
set_option maxRecDepth 65536 in
set_option maxHeartbeats 40000000 in
theorem rmMin (l : Launch) (Z : State) (a0 : Array Value) (hw : ∀ d ∈ tables_1, d.before a0 Z = true) (ws : List Jvm.Cond) (p1 : Int32) (p2 : Int32) (h0 : Heap) (n0 : Nat) (Z0 : n0 ≤ h0.size) (hz : p2 < p1) :
    MetFree l y_39 (head1 (Jvm.Cond.code y_39 jdk_29_method_69_code 2 (some .int) :: ws) ({ frames := 0, cells := 0, slots := 0, locals := 0 } : Room)) (fun a U => a = #[(.int p1), (.int p2)] ∧ Z.Warmed39 U.vm ∧ U.heap = h0) (fun _ _ _ _ _ => True) (fun _ U o U' => ∃ v L, o = .returned v ∧ Q_rmMin Z p1 p2 h0 n0 v U'.heap L ∧ FrameEnd U o U' L ({ frames := 0, cells := 0, slots := 0, locals := 0 } : Room).cells ({ frames := 0, cells := 0, slots := 0, locals := 0 } : Room).slots) := by
 refine bodyOf pn_38 (fun m => ef_rmMin m p1 p2) ?_
 intro p e s m below meth c T0 X0 hx hby hml hown hnm hret hk hZ e0
 have N0 := Fr.nil n0
 have K0 : Keep h0 h0 [] := Keep.refl _ _
 refine go (S' := T0.setTop (mkF m 10 #[si p1, si p2] [(.int p2)])) (fun t k => XS.iloadN X0.here hx rfl (hb hby d29_0) rfl (XS.iloadN X0.here hx rfl (hb hby d29_1) rfl (XS.icmpYes X0.here hx rfl (pc0 := 2) (pc' := 9) rfl (hb hby d29_2) rfl (tlt hz).2.2.1 (by decide) (by decide) (XS.iloadN X0.here hx rfl (hb hby d29_9) rfl k)))) ?_
 refine finI X0 hx hk hret (hb hby d29_10) (by decide) (by decide) ?_
 rw [e0]
 exact ⟨rfl, N0, rfl⟩
theorem d27_0 : dd jdk_65_method_133_code 0 (.iload_n 1) 1 := by decide +kernel
theorem d27_1 : dd jdk_65_method_133_code 1 (.iload_n 2) 1 := by decide +kernel
theorem d27_2 : dd jdk_65_method_133_code 2 (.invokestatic 343) 3 := by decide +kernel
theorem d27_5 : dd jdk_65_method_133_code 5 (.iload_n 2) 1 := by decide +kernel
theorem d27_6 : dd jdk_65_method_133_code 6 (.iload_n 1) 1 := by decide +kernel
theorem d27_7 : dd jdk_65_method_133_code 7 .isub 1 := by decide +kernel
theorem d27_8 : dd jdk_65_method_133_code 8 (.istore_n 3) 1 := by decide +kernel
theorem d27_9 : dd jdk_65_method_133_code 9 (.iload_n 3) 1 := by decide +kernel
theorem d27_10 : dd jdk_65_method_133_code 10 (.newarray .byte) 2 := by decide +kernel
theorem d27_12 : dd jdk_65_method_133_code 12 (.astore 4) 2 := by decide +kernel
theorem d27_14 : dd jdk_65_method_133_code 14 (.aload_n 0) 1 := by decide +kernel
theorem d27_15 : dd jdk_65_method_133_code 15 (.iload_n 1) 1 := by decide +kernel
theorem d27_16 : dd jdk_65_method_133_code 16 (.aload 4) 2 := by decide +kernel
theorem d27_18 : dd jdk_65_method_133_code 18 (.iconst 0) 1 := by decide +kernel
theorem d27_19 : dd jdk_65_method_133_code 19 (.aload_n 0) 1 := by decide +kernel
theorem d27_20 : dd jdk_65_method_133_code 20 .arraylength 1 := by decide +kernel
theorem d27_21 : dd jdk_65_method_133_code 21 (.iload_n 1) 1 := by decide +kernel
theorem d27_22 : dd jdk_65_method_133_code 22 .isub 1 := by decide +kernel
theorem d27_23 : dd jdk_65_method_133_code 23 (.iload_n 3) 1 := by decide +kernel
theorem d27_24 : dd jdk_65_method_133_code 24 (.invokestatic 304) 3 := by decide +kernel
theorem pd_25 : parseMethodDescriptor "(II)I" = some ⟨[.int, .int], some .int⟩ := by decide +kernel
theorem d27_27 : dd jdk_65_method_133_code 27 (.invokestatic 150) 3 := by decide +kernel
theorem d27_30 : dd jdk_65_method_133_code 30 (.aload 4) 2 := by decide +kernel
theorem d27_32 : dd jdk_65_method_133_code 32 .areturn 1 := by decide +kernel
abbrev y_40 : MethodName := ⟨"java/util/Arrays", "copyOfRangeByte", "([BII)[B"⟩
theorem pn_39 : plainFor y_40 = true := by first | exact plainFor_of_name (by first | (simp [plainName, overriddenIn]; done) | decide +kernel) | decide +kernel
theorem ef_rmCrb (m : MethodId) (a1 : Addr) (pt : Int32) : entryFrame m #[(.ref a1), (.int 0), (.int pt)] 5 = mkF m 0 #[sr a1, si 0, si pt, un, un] [] := by first | (simp [entryFrame, mkF, argsToLocals, Value.category]; done) | rfl
def Q_rmCrb (Z : State) (a1 : Addr) (pt : Int32) (kA : ClassId) (N1 : Int32) (vs : List Value) (h0 : Heap) (n0 : Nat) (v : Option Value) (h : Heap) (L : List Loc) : Prop := ∃ (tv : Addr), ∃ (kb : ClassId), v = some (.ref tv) ∧ Fr n0 L ∧ Keep h0 h [] ∧ (h0.size ≤ tv) ∧ (Arv Z h tv kb .byte pt vs (.int 0))
set_option maxRecDepth 65536 in
set_option maxHeartbeats 40000000 in
theorem rmCrb (l : Launch) (Z : State) (a0 : Array Value) (hw : ∀ d ∈ tables_1, d.before a0 Z = true) (ws : List Jvm.Cond) (a1 : Addr) (pt : Int32) (kA : ClassId) (N1 : Int32) (vs : List Value) (h0 : Heap) (n0 : Nat) (Z0 : n0 ≤ h0.size) (hp0 : Arv Z h0 a1 kA .byte N1 vs (.int 0)) (hpt : pt = Int32.ofNat vs.length) (hlen : vs.length ≤ 28) (hlt : pt < N1) (hN1 : vs.length ≤ N1.toNatClampNeg) (hp5 : Old Z n0 h0) :
    MetFree l y_40 (head1 (Jvm.Cond.code y_40 jdk_65_method_133_code 5 (some (.array .byte)) :: ws) ({ frames := 1, cells := 1, slots := 28, locals := 18 } : Room)) (fun a U => a = #[(.ref a1), (.int 0), (.int pt)] ∧ Z.Warmed39 U.vm ∧ U.heap = h0) (fun _ _ _ _ _ => True) (fun _ U o U' => ∃ v L, o = .returned v ∧ Q_rmCrb Z a1 pt kA N1 vs h0 n0 v U'.heap L ∧ FrameEnd U o U' L ({ frames := 1, cells := 1, slots := 28, locals := 18 } : Room).cells ({ frames := 1, cells := 1, slots := 28, locals := 18 } : Room).slots) := by
 refine bodyOf pn_39 (fun m => ef_rmCrb m a1 pt) ?_
 intro p e s m below meth c T0 X0 hx hby hml hown hnm hret hk hZ e0
 have N0 := Fr.nil n0
 have K0 : Keep h0 h0 [] := Keep.refl _ _
 have O0 := hp5
 have hz : ¬ (pt < (0 : Int32)) := by rw [hpt]; exact oj_nn (by omega)
 refine go (S' := T0.setTop (mkF m 2 #[sr a1, si 0, si pt, un, un] [(.int pt), (.int 0)])) (fun t k => XS.iloadN X0.here hx rfl (hb hby d27_0) rfl (XS.iloadN X0.here hx rfl (hb hby d27_1) rfl k)) ?_
 obtain ⟨v397, T397, L397, X397, hQ397, st397⟩ := callSt X0 hx hZ (y := y_38) hown (ww hw 149 rfl) (ww hw 150 rfl) (ww hw 144 rfl) (ww hw 151 rfl) (by decide) (backOf (W := 0) (rmChk l Z a0 hw [] pt h0 n0 (Nat.le_trans Z0 K0.1) hz) hZ (ww hw 151 rfl) (ww hw 144 rfl) (by decide) (by decide)) (g := (mkF m 2 #[sr a1, si 0, si pt, un, un] [(.int pt), (.int 0)])) rfl (by rw [hml]; rfl) (kc := 0) (ks := 0) (argsL := [(.int 0), (.int pt)]) (rest := []) (lenOf pd_9 rfl) rfl (mr0 rfl) (hb hby d27_2) e0 (by decide) (by decide)
 obtain ⟨rfl, N397q, e397⟩ := hQ397
 have N397 := Fr.app N0 N397q
 refine go (S' := T397.setTop (mkF m 8 #[sr a1, si 0, si pt, un, un] [(.int (pt - (0 : Int32)))])) (fun t k => st397 _ (XS.iloadN X397.here hx rfl (hb hby d27_5) rfl (XS.iloadN X397.here hx rfl (hb hby d27_6) rfl (XS.isub X397.here hx rfl (hb hby d27_7) rfl k)))) ?_
 rw [own_sub0]
 refine go (S' := T397.setTop (mkF m 10 #[sr a1, si 0, si pt, si pt, un] [(.int pt)])) (fun t k => XS.istoreN X397.here hx rfl (hb hby d27_8) rfl (l' := #[sr a1, si 0, si pt, si pt, un]) rfl (XS.iloadN X397.here hx rfl (hb hby d27_9) rfl k)) ?_
 obtain ⟨T398, h398, k398, X398, e398, E398, A398, st398⟩ := newP X397 hx hZ (ww hw 25 rfl) e397 (g := (mkF m 10 #[sr a1, si 0, si pt, si pt, un] [(.int pt)])) rfl (hb hby d27_10) rfl (by rw [hpt]; exact oj_nn (by omega)) (cap := 28) (by rw [hpt, oj_n (by omega)]; omega) (by decide) (by decide) (by decide)
 obtain ⟨b398, g398⟩ : ∃ z, z = h0.size := ⟨_, rfl⟩
 rw [← g398] at A398 st398
 have lt_a1_b398 : a1 < b398 := by rw [g398]; exact hp0.lt
 have ge_b398 : n0 ≤ b398 := by rw [g398]; exact (Nat.le_trans Z0 K0.1)
 have sz_b398 : h0.size ≤ b398 := by rw [g398]; exact K0.1
 have K399 : Keep h0 h398 [] := K0.ext E398
 have V398 : Arv Z h398 b398 k398 .byte pt [] (.int 0) := Arv.new A398 (by rw [hpt]; exact oj_nn (by omega))
 refine go (S' := T398.setTop (mkF m 20 #[sr a1, si 0, si pt, si pt, sr b398] [(.ref a1), (.int 0), (.ref b398), (.int 0), (.ref a1)])) (fun t k => st398 _ (XS.astore X398.here hx rfl (hb hby d27_12) rfl rfl (l' := #[sr a1, si 0, si pt, si pt, sr b398]) rfl (XS.aloadN X398.here hx rfl (hb hby d27_14) rfl rfl (XS.iloadN X398.here hx rfl (hb hby d27_15) rfl (XS.aload X398.here hx rfl (hb hby d27_16) rfl rfl (XS.iconst X398.here hx rfl (hb hby d27_18) (XS.aloadN X398.here hx rfl (hb hby d27_19) rfl rfl k))))))) ?_
 obtain ⟨cl400, Ar400, -, S400, M400, -, -⟩ := id (hp0.keep K399 nin0)
 refine go (S' := T398.setTop (mkF m 23 #[sr a1, si 0, si pt, si pt, sr b398] [(.int (N1 - (0 : Int32))), (.int 0), (.ref b398), (.int 0), (.ref a1)])) (fun t k => X398.arraylength hx (by rw [e398]; exact Ar400.1) (State.isArrayOf_alike hZ.alike Ar400.2.1) (g := (mkF m 20 #[sr a1, si 0, si pt, si pt, sr b398] [(.ref a1), (.int 0), (.ref b398), (.int 0), (.ref a1)])) rfl rfl (hb hby d27_20) _ (by rw [len_of S400 M400]; exact (XS.iloadN X398.here hx rfl (hb hby d27_21) rfl (XS.isub X398.here hx rfl (hb hby d27_22) rfl k)))) ?_
 rw [own_sub0]
 refine go (S' := T398.setTop (mkF m 24 #[sr a1, si 0, si pt, si pt, sr b398] [(.int pt), (.int N1), (.int 0), (.ref b398), (.int 0), (.ref a1)])) (fun t k => XS.iloadN X398.here hx rfl (hb hby d27_23) rfl k) ?_
 obtain ⟨v401, T401, L401, X401, hQ401, st401⟩ := callSt X398 hx hZ (y := y_39) hown (ww hw 152 rfl) (ww hw 153 rfl) (ww hw 154 rfl) (ww hw 155 rfl) (by decide) (backOf (W := 4) (rmMin l Z a0 hw [] N1 pt h398 n0 (Nat.le_trans Z0 K399.1) hlt) hZ (ww hw 155 rfl) (ww hw 154 rfl) (by decide) (by decide)) (g := (mkF m 24 #[sr a1, si 0, si pt, si pt, sr b398] [(.int pt), (.int N1), (.int 0), (.ref b398), (.int 0), (.ref a1)])) rfl (by rw [hml]; rfl) (kc := 0) (ks := 0) (argsL := [(.int N1), (.int pt)]) (rest := [(.int 0), (.ref b398), (.int 0), (.ref a1)]) (lenOf pd_25 rfl) rfl (mr0 rfl) (hb hby d27_24) e398 (by decide) (by decide)
 obtain ⟨rfl, N401q, e401⟩ := hQ401
 have N401 := Fr.app N397 N401q
 refine go (S' := T401.setTop (mkF m 27 #[sr a1, si 0, si pt, si pt, sr b398] [(.int pt), (.int 0), (.ref b398), (.int 0), (.ref a1)])) st401 ?_
 obtain ⟨T402, h402, L402, X402, e402, N402, Kc402, V402, st402⟩ := cpB X401 hx hZ hown (ww hw 156 rfl) (ww hw 109 rfl) (ww hw 107 rfl) (ww hw 108 rfl) e401 (hp0.keep K399 nin0) V398 rfl hpt hN1 (by rw [hpt, oj_n (by omega)]; simp) (by simp; omega) N401 ge_b398 (g := (mkF m 27 #[sr a1, si 0, si pt, si pt, sr b398] [(.int pt), (.int 0), (.ref b398), (.int 0), (.ref a1)])) rfl (by rw [hml]; rfl) (rest := []) rfl (hb hby d27_27) (by decide) (W := 0) (mr0 rfl) (by decide)
 have K403 : Keep h0 h402 [] := K399.trans Kc402 (allS (P := fun x => x ∈ [] ∨ h0.size ≤ x) (Or.inr sz_b398) all0)
 have Vn402 : Arv Z h402 b398 k398 .byte pt vs (.int 0) := V402
 refine go (S' := T402.setTop (mkF m 32 #[sr a1, si 0, si pt, si pt, sr b398] [(.ref b398)])) (fun t k => st402 _ (XS.aload X402.here hx rfl (hb hby d27_30) rfl rfl k)) ?_
 refine finR X402 hx hk hret rfl rfl (hb hby d27_32) (by decide) (by decide) ?_
 rw [e402]
 exact ⟨b398, k398, rfl, N402, K403, sz_b398, Vn402⟩
theorem d26_0 : dd jdk_65_method_132_code 0 (.iload_n 1) 1 := by decide +kernel
theorem d26_1 : dd jdk_65_method_132_code 1 (.ifCond .ne 9) 3 := by decide +kernel
theorem d26_4 : dd jdk_65_method_132_code 4 (.iload_n 2) 1 := by decide +kernel
theorem d26_5 : dd jdk_65_method_132_code 5 (.aload_n 0) 1 := by decide +kernel
theorem d26_6 : dd jdk_65_method_132_code 6 .arraylength 1 := by decide +kernel
theorem d26_7 : dd jdk_65_method_132_code 7 (.if_icmp .eq 10) 3 := by decide +kernel
theorem d26_10 : dd jdk_65_method_132_code 10 (.aload_n 0) 1 := by decide +kernel
theorem d26_11 : dd jdk_65_method_132_code 11 (.iload_n 1) 1 := by decide +kernel
theorem d26_12 : dd jdk_65_method_132_code 12 (.iload_n 2) 1 := by decide +kernel
theorem d26_13 : dd jdk_65_method_132_code 13 (.invokestatic 339) 3 := by decide +kernel
theorem pd_26 : parseMethodDescriptor "([BII)[B" = some ⟨[(.array .byte), .int, .int], some (.array .byte)⟩ := by decide +kernel
theorem d26_16 : dd jdk_65_method_132_code 16 .areturn 1 := by decide +kernel
abbrev y_41 : MethodName := ⟨"java/util/Arrays", "copyOfRange", "([BII)[B"⟩
theorem pn_40 : plainFor y_41 = true := by first | exact plainFor_of_name (by first | (simp [plainName, overriddenIn]; done) | decide +kernel) | decide +kernel
theorem ef_rmCor (m : MethodId) (a1 : Addr) (pt : Int32) : entryFrame m #[(.ref a1), (.int 0), (.int pt)] 3 = mkF m 0 #[sr a1, si 0, si pt] [] := by first | (simp [entryFrame, mkF, argsToLocals, Value.category]; done) | rfl
def Q_rmCor (Z : State) (a1 : Addr) (pt : Int32) (kA : ClassId) (N1 : Int32) (vs : List Value) (h0 : Heap) (n0 : Nat) (v : Option Value) (h : Heap) (L : List Loc) : Prop := ∃ (tv : Addr), ∃ (kb : ClassId), v = some (.ref tv) ∧ Fr n0 L ∧ Keep h0 h [] ∧ (h0.size ≤ tv) ∧ (Arv Z h tv kb .byte pt vs (.int 0))
set_option maxRecDepth 65536 in
set_option maxHeartbeats 40000000 in
theorem rmCor (l : Launch) (Z : State) (a0 : Array Value) (hw : ∀ d ∈ tables_1, d.before a0 Z = true) (ws : List Jvm.Cond) (a1 : Addr) (pt : Int32) (kA : ClassId) (N1 : Int32) (vs : List Value) (h0 : Heap) (n0 : Nat) (Z0 : n0 ≤ h0.size) (hp0 : Arv Z h0 a1 kA .byte N1 vs (.int 0)) (hpt : pt = Int32.ofNat vs.length) (hlen : vs.length ≤ 28) (hlt : pt < N1) (hN1 : vs.length ≤ N1.toNatClampNeg) (hp5 : Old Z n0 h0) :
    MetFree l y_41 (head1 (Jvm.Cond.code y_41 jdk_65_method_132_code 3 (some (.array .byte)) :: ws) ({ frames := 2, cells := 1, slots := 28, locals := 34 } : Room)) (fun a U => a = #[(.ref a1), (.int 0), (.int pt)] ∧ Z.Warmed39 U.vm ∧ U.heap = h0) (fun _ _ _ _ _ => True) (fun _ U o U' => ∃ v L, o = .returned v ∧ Q_rmCor Z a1 pt kA N1 vs h0 n0 v U'.heap L ∧ FrameEnd U o U' L ({ frames := 2, cells := 1, slots := 28, locals := 34 } : Room).cells ({ frames := 2, cells := 1, slots := 28, locals := 34 } : Room).slots) := by
 refine bodyOf pn_40 (fun m => ef_rmCor m a1 pt) ?_
 intro p e s m below meth c T0 X0 hx hby hml hown hnm hret hk hZ e0
 have N0 := Fr.nil n0
 have K0 : Keep h0 h0 [] := Keep.refl _ _
 have O0 := hp5
 have hne : ¬ (pt = N1) := fun q => by rw [q] at hlt; exact absurd hlt (by rw [Int32.lt_iff_toInt_lt]; omega)
 refine go (S' := T0.setTop (mkF m 1 #[sr a1, si 0, si pt] [(.int 0)])) (fun t k => XS.iloadN X0.here hx rfl (hb hby d26_0) rfl k) ?_
 have hc404 : (0 : Int32) = (0 : Int32) := by decide
 refine go (S' := T0.setTop (mkF m 6 #[sr a1, si 0, si pt] [(.ref a1), (.int pt)])) (fun t k => XS.ifNo X0.here hx rfl (hb hby d26_1) rfl ((if0 _ _).trans (teq hc404).2) (XS.iloadN X0.here hx rfl (hb hby d26_4) rfl (XS.aloadN X0.here hx rfl (hb hby d26_5) rfl rfl k))) ?_
 obtain ⟨cl405, Ar405, -, S405, M405, -, -⟩ := id hp0
 refine go (S' := T0.setTop (mkF m 13 #[sr a1, si 0, si pt] [(.int pt), (.int 0), (.ref a1)])) (fun t k => X0.arraylength hx (by rw [e0]; exact Ar405.1) (State.isArrayOf_alike hZ.alike Ar405.2.1) (g := (mkF m 6 #[sr a1, si 0, si pt] [(.ref a1), (.int pt)])) rfl rfl (hb hby d26_6) _ (by rw [len_of S405 M405]; exact (XS.icmpNo X0.here hx rfl (hb hby d26_7) rfl (feq hne).1 (XS.aloadN X0.here hx rfl (hb hby d26_10) rfl rfl (XS.iloadN X0.here hx rfl (hb hby d26_11) rfl (XS.iloadN X0.here hx rfl (hb hby d26_12) rfl k)))))) ?_
 have O406 : Old Z n0 h0 := O0.keep K0 all0
 obtain ⟨v407, T407, L407, X407, hQ407, st407⟩ := callSt X0 hx hZ (y := y_40) hown (ww hw 146 rfl) (ww hw 147 rfl) (ww hw 144 rfl) (ww hw 148 rfl) (by decide) (backOf (W := 0) (rmCrb l Z a0 hw [] a1 pt kA N1 vs h0 n0 (Nat.le_trans Z0 K0.1) hp0 hpt hlen hlt hN1 O406) hZ (ww hw 148 rfl) (ww hw 144 rfl) (by decide) (by decide)) (g := (mkF m 13 #[sr a1, si 0, si pt] [(.int pt), (.int 0), (.ref a1)])) rfl (by rw [hml]; rfl) (kc := 1) (ks := 28) (argsL := [(.ref a1), (.int 0), (.int pt)]) (rest := []) (lenOf pd_26 rfl) rfl (mr0 rfl) (hb hby d26_13) e0 (by decide) (by decide)
 obtain ⟨tv_407, kb_407, rfl, N407q, Kq407, q407_0, q407_1⟩ := hQ407
 have N407 := Fr.app N0 N407q
 have K408 : Keep h0 T407.heap [] := K0.trans Kq407 all0
 have lt_a1_tv_407 : a1 < tv_407 := Nat.lt_of_lt_of_le hp0.lt q407_0
 have sz_tv_407 : h0.size ≤ tv_407 := Nat.le_trans K0.1 q407_0
 have ge_tv_407 : n0 ≤ tv_407 := Nat.le_trans Z0 sz_tv_407
 refine go (S' := T407.setTop (mkF m 16 #[sr a1, si 0, si pt] [(.ref tv_407)])) st407 ?_
 refine finR X407 hx hk hret rfl rfl (hb hby d26_16) (by decide) (by decide) ?_
 exact ⟨tv_407, kb_407, rfl, N407, K408, sz_tv_407, q407_1⟩
theorem d21_0 : dd jdk_42_method_150_code 0 (.aload_n 0) 1 := by decide +kernel
theorem d21_1 : dd jdk_42_method_150_code 1 (.invokespecial 1) 3 := by decide +kernel
theorem d21_4 : dd jdk_42_method_150_code 4 (.aload_n 1) 1 := by decide +kernel
theorem d21_5 : dd jdk_42_method_150_code 5 (.invokevirtual 552) 3 := by decide +kernel
theorem pd_27 : parseMethodDescriptor "()[B" = some ⟨[], some (.array .byte)⟩ := by decide +kernel
theorem d21_8 : dd jdk_42_method_150_code 8 (.astore_n 3) 1 := by decide +kernel
theorem d21_9 : dd jdk_42_method_150_code 9 (.aload_n 1) 1 := by decide +kernel
theorem d21_10 : dd jdk_42_method_150_code 10 (.invokevirtual 549) 3 := by decide +kernel
theorem d21_13 : dd jdk_42_method_150_code 13 (.istore 4) 2 := by decide +kernel
theorem d21_15 : dd jdk_42_method_150_code 15 (.aload_n 1) 1 := by decide +kernel
theorem d21_16 : dd jdk_42_method_150_code 16 (.invokevirtual 1047) 3 := by decide +kernel
theorem d21_19 : dd jdk_42_method_150_code 19 (.ifCond .eq 22) 3 := by decide +kernel
theorem d21_22 : dd jdk_42_method_150_code 22 (.aload_n 0) 1 := by decide +kernel
theorem d21_23 : dd jdk_42_method_150_code 23 (.iconst 0) 1 := by decide +kernel
theorem d21_24 : dd jdk_42_method_150_code 24 (.putfield 15) 3 := by decide +kernel
theorem d21_27 : dd jdk_42_method_150_code 27 (.aload_n 0) 1 := by decide +kernel
theorem d21_28 : dd jdk_42_method_150_code 28 (.aload_n 3) 1 := by decide +kernel
theorem d21_29 : dd jdk_42_method_150_code 29 (.iconst 0) 1 := by decide +kernel
theorem d21_30 : dd jdk_42_method_150_code 30 (.iload 4) 2 := by decide +kernel
theorem d21_32 : dd jdk_42_method_150_code 32 (.invokestatic 54) 3 := by decide +kernel
theorem d21_35 : dd jdk_42_method_150_code 35 (.putfield 9) 3 := by decide +kernel
theorem d21_38 : dd jdk_42_method_150_code 38 (.goto 59) 3 := by decide +kernel
theorem d21_97 : dd jdk_42_method_150_code 97 .return_ 1 := by decide +kernel
abbrev y_42 : MethodName := ⟨"java/lang/String", "<init>", "(Ljava/lang/AbstractStringBuilder;Ljava/lang/Void;)V"⟩
theorem pn_41 : plainFor y_42 = true := by first | exact plainFor_of_name (by first | (simp [plainName, overriddenIn]; done) | decide +kernel) | decide +kernel
theorem ef_rmSj0 (m : MethodId) (x3 : Addr) (x1 : Addr) : entryFrame m #[(.ref x3), (.ref x1), .null] 5 = mkF m 0 #[sr x3, sr x1, .val .null, un, un] [] := by first | (simp [entryFrame, mkF, argsToLocals, Value.category]; done) | rfl
def Q_rmSj0 (Z : State) (x3 : Addr) (x1 : Addr) (tv : Addr) (kb : ClassId) (cs : List Int32) (G1 : Int32) (h0 : Heap) (n0 : Nat) (v : Option Value) (h : Heap) (L : List Loc) : Prop := ∃ (t3 : Addr), v = none ∧ Fr n0 L ∧ Keep h0 h [x3] ∧ (h0.size ≤ t3) ∧ (Str Z h x3 t3 (0 : Int32) cs)
set_option maxRecDepth 65536 in
set_option maxHeartbeats 40000000 in
theorem rmSj0 (l : Launch) (Z : State) (a0 : Array Value) (hw : ∀ d ∈ tables_1, d.before a0 Z = true) (ws : List Jvm.Cond) (x3 : Addr) (x1 : Addr) (tv : Addr) (kb : ClassId) (cs : List Int32) (G1 : Int32) (h0 : Heap) (n0 : Nat) (Z0 : n0 ≤ h0.size) (hp0 : Exa Z h0 x3 "java/lang/String") (hp1 : Fld Z h0 x3 "java/lang/String" "value" "[B" .null) (hp2 : Fld Z h0 x3 "java/lang/String" "coder" "B" (.int 0)) (hp3 : n0 ≤ x3) (hp4 : x3 ≠ x1) (hp5 : x3 ≠ tv) (hp6 : Exa Z h0 x1 "java/lang/StringBuilder") (hp7 : Fld Z h0 x1 "java/lang/AbstractStringBuilder" "value" "[B" (.ref tv)) (hp8 : Fld Z h0 x1 "java/lang/AbstractStringBuilder" "coder" "B" (.int 0)) (hp9 : Fld Z h0 x1 "java/lang/AbstractStringBuilder" "count" "I" (.int (Int32.ofNat cs.length))) (hp10 : Fld Z h0 x1 "java/lang/AbstractStringBuilder" "maybeLatin1" "Z" (.int 0)) (hp11 : Arv Z h0 tv kb .byte (16 : Int32) (cs.map fun c => Value.int (StrChars.lo8 c)) (.int 0)) (hpc : ∀ c ∈ cs, ¬ c < 0 ∧ ¬ (65535 : Int32) < c) (hr : cs.length ≤ 14) (hl0 : ∀ c ∈ cs, ¬ (255 : Int32) < c) (hp15 : Sta Z Z.heap "java/lang/String" "COMPACT_STRINGS" "Z" (.int G1)) (hG1 : ¬ (G1 = (0 : Int32))) (hp17 : Old Z n0 h0) :
    MetFree l y_42 (head1 (Jvm.Cond.code y_42 jdk_42_method_150_code 5 none :: ws) ({ frames := 3, cells := 1, slots := 28, locals := 49 } : Room)) (fun a U => a = #[(.ref x3), (.ref x1), .null] ∧ Z.Warmed39 U.vm ∧ U.heap = h0) (fun _ _ _ _ _ => True) (fun _ U o U' => ∃ v L, o = .returned v ∧ Q_rmSj0 Z x3 x1 tv kb cs G1 h0 n0 v U'.heap L ∧ FrameEnd U o U' L ({ frames := 3, cells := 1, slots := 28, locals := 49 } : Room).cells ({ frames := 3, cells := 1, slots := 28, locals := 49 } : Room).slots) := by
 refine bodyOf pn_41 (fun m => ef_rmSj0 m x3 x1) ?_
 intro p e s m below meth c T0 X0 hx hby hml hown hnm hret hk hZ e0
 have N0 := Fr.nil n0
 have K0 : Keep h0 h0 [x3] := Keep.refl _ _
 have ne_x3_x1 := hp4
 have ne_x3_tv := hp5
 have O0 := hp17
 refine go (S' := T0.setTop (mkF m 1 #[sr x3, sr x1, .val .null, un, un] [(.ref x3)])) (fun t k => XS.aloadN X0.here hx rfl (hb hby d21_0) rfl rfl k) ?_
 obtain ⟨T409, X409, e409, st409⟩ := initO X0 hx hZ hown (ww hw 17 rfl) (ww hw 18 rfl) (ww hw 19 rfl) e0 (g := (mkF m 1 #[sr x3, sr x1, .val .null, un, un] [(.ref x3)])) rfl (by rw [hml]; rfl) rfl (hb hby d21_1) (by decide) (W := 0) (mr0 rfl) (by decide)
 refine go (S' := T409.setTop (mkF m 5 #[sr x3, sr x1, .val .null, un, un] [(.ref x1)])) (fun t k => st409 _ (XS.aloadN X409.here hx rfl (hb hby d21_4) rfl rfl k)) ?_
 obtain ⟨v410, T410, L410, X410, hQ410, st410⟩ := callV X409 hx hZ (y := y_35) (z := y_35) hown (ww hw 124 rfl) (ww hw 125 rfl) (notFace_of_selects (args := #[]) (mvT hZ (ww hw 127 rfl))) (ww hw 127 rfl) (ww hw 126 rfl) (by decide) (backOf (W := 0) (rmGv l Z a0 hw [] x1 tv h0 n0 (Nat.le_trans Z0 K0.1) hp7) hZ (ww hw 128 rfl) (ww hw 55 rfl) (by decide) (by decide)) hp6 (g := (mkF m 5 #[sr x3, sr x1, .val .null, un, un] [(.ref x1)])) rfl (by rw [hml]; rfl) (kc := 0) (ks := 0) (argsL := []) (rest := []) (lenOf pd_27 rfl) rfl (mr0 rfl) (hb hby d21_5) e409 (by decide) (by decide)
 obtain ⟨rfl, N410q, e410⟩ := hQ410
 have N410 := Fr.app N0 N410q
 refine go (S' := T410.setTop (mkF m 10 #[sr x3, sr x1, .val .null, sr tv, un] [(.ref x1)])) (fun t k => st410 _ (XS.astoreN X410.here hx rfl (hb hby d21_8) rfl rfl (l' := #[sr x3, sr x1, .val .null, sr tv, un]) rfl (XS.aloadN X410.here hx rfl (hb hby d21_9) rfl rfl k))) ?_
 obtain ⟨v411, T411, L411, X411, hQ411, st411⟩ := callV X410 hx hZ (y := y_36) (z := y_37) hown (ww hw 129 rfl) (ww hw 130 rfl) (nf_sel (args := #[]) (y' := y_19) rfl (mvT hZ (ww hw 88 rfl))) (ww hw 132 rfl) (ww hw 133 rfl) (by decide) (backOf (W := 0) (rmSln l Z a0 hw [] x1 (Int32.ofNat cs.length) h0 n0 (Nat.le_trans Z0 K0.1) hp6 hp9) hZ (ww hw 134 rfl) (ww hw 47 rfl) (by decide) (by decide)) hp6 (g := (mkF m 10 #[sr x3, sr x1, .val .null, sr tv, un] [(.ref x1)])) rfl (by rw [hml]; rfl) (kc := 0) (ks := 0) (argsL := []) (rest := []) (lenOf pd_21 rfl) rfl (mr0 rfl) (hb hby d21_10) e410 (by decide) (by decide)
 obtain ⟨rfl, N411q, e411⟩ := hQ411
 have N411 := Fr.app N410 N411q
 refine go (S' := T411.setTop (mkF m 16 #[sr x3, sr x1, .val .null, sr tv, si (Int32.ofNat cs.length)] [(.ref x1)])) (fun t k => st411 _ (XS.istore X411.here hx rfl (hb hby d21_13) rfl (l' := #[sr x3, sr x1, .val .null, sr tv, si (Int32.ofNat cs.length)]) rfl (XS.aloadN X411.here hx rfl (hb hby d21_15) rfl rfl k))) ?_
 have O412 : Old Z n0 h0 := O0.keep K0 (allS hp3 all0)
 obtain ⟨v413, T413, L413, X413, hQ413, st413⟩ := callV X411 hx hZ (y := y_20) (z := y_20) hown (ww hw 137 rfl) (ww hw 138 rfl) (notFace_of_selects (args := #[]) (mvT hZ (ww hw 140 rfl))) (ww hw 140 rfl) (ww hw 139 rfl) (by decide) (backOf (W := 0) (rmIl0 l Z a0 hw [] x1 G1 h0 n0 (Nat.le_trans Z0 K0.1) hp8 hp15 hG1 O412) hZ (ww hw 141 rfl) (ww hw 55 rfl) (by decide) (by decide)) hp6 (g := (mkF m 16 #[sr x3, sr x1, .val .null, sr tv, si (Int32.ofNat cs.length)] [(.ref x1)])) rfl (by rw [hml]; rfl) (kc := 0) (ks := 0) (argsL := []) (rest := []) (lenOf pd_12 rfl) rfl (mr0 rfl) (hb hby d21_16) e411 (by decide) (by decide)
 obtain ⟨rfl, N413q, e413⟩ := hQ413
 have N413 := Fr.app N411 N413q
 refine go (S' := T413.setTop (mkF m 19 #[sr x3, sr x1, .val .null, sr tv, si (Int32.ofNat cs.length)] [(.int 1)])) st413 ?_
 have hc414 : ¬ ((1 : Int32) = (0 : Int32)) := by decide
 refine go (S' := T413.setTop (mkF m 24 #[sr x3, sr x1, .val .null, sr tv, si (Int32.ofNat cs.length)] [(.int 0), (.ref x3)])) (fun t k => XS.ifNo X413.here hx rfl (hb hby d21_19) rfl ((if0 _ _).trans (feq hc414).1) (XS.aloadN X413.here hx rfl (hb hby d21_22) rfl rfl (XS.iconst X413.here hx rfl (hb hby d21_23) k))) ?_
 obtain ⟨T415, h415, X415, e415, W415, st415⟩ := putF X413 hx hZ hown (host := "") (Or.inl (ww hw 32 rfl)) Via.refl e413 hp2 hp0 (Or.inr ⟨(ww hw 33 rfl), rfl, hnm⟩) (ww hw 7 rfl) (ty := .byte) (by decide) (by decide) (by decide) (g := (mkF m 24 #[sr x3, sr x1, .val .null, sr tv, si (Int32.ofNat cs.length)] [(.int 0), (.ref x3)])) rfl rfl (hb hby d21_24)
 have K416 : Keep h0 h415 [x3] := K0.wr W415 (Or.inl (List.mem_of_getElem? (i := 0) rfl))
 have N417 := Fr.snoc X415 N413 hp3
 have f418 : Fld Z h415 x3 "java/lang/String" "coder" "B" (.int 0) := (Fld.same W415 hp2)
 refine go (S' := T415.setTop (mkF m 32 #[sr x3, sr x1, .val .null, sr tv, si (Int32.ofNat cs.length)] [(.int (Int32.ofNat cs.length)), (.int 0), (.ref tv), (.ref x3)])) (fun t k => st415 _ (XS.aloadN X415.here hx rfl (hb hby d21_27) rfl rfl (XS.aloadN X415.here hx rfl (hb hby d21_28) rfl rfl (XS.iconst X415.here hx rfl (hb hby d21_29) (XS.iload X415.here hx rfl (hb hby d21_30) rfl k))))) ?_
 have O419 : Old Z n0 h415 := O0.keep K416 (allS hp3 all0)
 obtain ⟨v420, T420, L420, X420, hQ420, st420⟩ := callSt X415 hx hZ (y := y_41) hown (ww hw 142 rfl) (ww hw 143 rfl) (ww hw 144 rfl) (ww hw 145 rfl) (by decide) (backOf (W := 1) (rmCor l Z a0 hw [] tv (Int32.ofNat cs.length) kb (16 : Int32) (cs.map fun c => Value.int (StrChars.lo8 c)) h415 n0 (Nat.le_trans Z0 K416.1) (hp11.keep K416 (ninS (Ne.symm ne_x3_tv) nin0)) (by rw [List.length_map]) (by rw [List.length_map]; omega) (by exact oj_lt (i := cs.length) (n := 16) (by omega) (by omega)) (by rw [List.length_map, show (16 : Int32).toNatClampNeg = 16 from rfl]; omega) O419) hZ (ww hw 145 rfl) (ww hw 144 rfl) (by decide) (by decide)) (g := (mkF m 32 #[sr x3, sr x1, .val .null, sr tv, si (Int32.ofNat cs.length)] [(.int (Int32.ofNat cs.length)), (.int 0), (.ref tv), (.ref x3)])) rfl (by rw [hml]; rfl) (kc := 1) (ks := 28) (argsL := [(.ref tv), (.int 0), (.int (Int32.ofNat cs.length))]) (rest := [(.ref x3)]) (lenOf pd_26 rfl) rfl (mr0 rfl) (hb hby d21_32) e415 (by decide) (by decide)
 obtain ⟨tv_420, kb_420, rfl, N420q, Kq420, q420_0, q420_1⟩ := hQ420
 have N420 := Fr.app N417 N420q
 have K421 : Keep h0 T420.heap [x3] := K416.trans Kq420 all0
 have lt_x3_tv_420 : x3 < tv_420 := Nat.lt_of_lt_of_le (hp0.keep K416).lt q420_0
 have lt_x1_tv_420 : x1 < tv_420 := Nat.lt_of_lt_of_le (hp6.keep K416).lt q420_0
 have lt_tv_tv_420 : tv < tv_420 := Nat.lt_of_lt_of_le (hp11.keep K416 (ninS (Ne.symm ne_x3_tv) nin0)).lt q420_0
 have sz_tv_420 : h0.size ≤ tv_420 := Nat.le_trans K416.1 q420_0
 have ge_tv_420 : n0 ≤ tv_420 := Nat.le_trans Z0 sz_tv_420
 refine go (S' := T420.setTop (mkF m 35 #[sr x3, sr x1, .val .null, sr tv, si (Int32.ofNat cs.length)] [(.ref tv_420), (.ref x3)])) st420 ?_
 have f422 : Fld Z T420.heap x3 "java/lang/String" "value" "[B" .null := ((Fld.other W415 hp1 (Or.inr (slot_ne (Or.inr (ww hw 35 rfl)) (Or.inr (ww hw 33 rfl)) (by decide) (t := (.array .byte)) (t' := .byte) (by decide) (by decide)))).keep Kq420 nin0)
 obtain ⟨T423, h423, X423, e423, W423, st423⟩ := putF X420 hx hZ hown (host := "") (Or.inl (ww hw 34 rfl)) Via.refl rfl f422 (hp0.keep K421) (Or.inr ⟨(ww hw 35 rfl), rfl, hnm⟩) (ww hw 7 rfl) (ty := (.array .byte)) (by decide) rfl rfl (g := (mkF m 35 #[sr x3, sr x1, .val .null, sr tv, si (Int32.ofNat cs.length)] [(.ref tv_420), (.ref x3)])) rfl rfl (hb hby d21_35)
 have K424 : Keep h0 h423 [x3] := K421.wr W423 (Or.inl (List.mem_of_getElem? (i := 0) rfl))
 have N425 := Fr.snoc X423 N420 hp3
 have f426 : Fld Z h423 x3 "java/lang/String" "value" "[B" (.ref tv_420) := (Fld.same W423 f422)
 refine go (S' := T423.setTop (mkF m 97 #[sr x3, sr x1, .val .null, sr tv, si (Int32.ofNat cs.length)] [])) (fun t k => st423 _ (XS.goto X423.here hx rfl (pc0 := 38) (pc' := 97) rfl (hb hby d21_38) (by decide) (by decide) k)) ?_
 refine finV X423 hx hk hret (hb hby d21_97) (by decide) (by decide) ?_
 have f427 : Fld Z h423 x3 "java/lang/String" "coder" "B" (.int 0) := (Fld.other W423 (f418.keep Kq420 nin0) (Or.inr (slot_ne (Or.inr (ww hw 33 rfl)) (Or.inr (ww hw 35 rfl)) (by decide) (t := .byte) (t' := (.array .byte)) (by decide) (by decide))))
 have f428 : Arv Z h423 tv_420 kb_420 .byte (Int32.ofNat cs.length) (cs.map fun c => Value.int (StrChars.lo8 c)) (.int 0) := (q420_1.other W423 (Nat.ne_of_gt lt_x3_tv_420))
 rw [e423]
 exact ⟨tv_420, rfl, N425, K424, sz_tv_420, ⟨_, _, _, (hp0.keep K424), f426, f427, f428, Or.inl ⟨rfl, rfl, rfl, hl0⟩, hpc, by omega⟩⟩
theorem d20_0 : dd jdk_42_method_53_code 0 (.aload_n 0) 1 := by decide +kernel
theorem d20_1 : dd jdk_42_method_53_code 1 (.aload_n 1) 1 := by decide +kernel
theorem d20_2 : dd jdk_42_method_53_code 2 .aconst_null 1 := by decide +kernel
theorem d20_3 : dd jdk_42_method_53_code 3 (.invokespecial 489) 3 := by decide +kernel
theorem pd_28 : parseMethodDescriptor "(Ljava/lang/AbstractStringBuilder;Ljava/lang/Void;)V" = some ⟨[(.object "java/lang/AbstractStringBuilder"), (.object "java/lang/Void")], none⟩ := by decide +kernel
theorem d20_6 : dd jdk_42_method_53_code 6 .return_ 1 := by decide +kernel
abbrev y_43 : MethodName := ⟨"java/lang/String", "<init>", "(Ljava/lang/StringBuilder;)V"⟩
theorem pn_42 : plainFor y_43 = true := by first | exact plainFor_of_name (by first | (simp [plainName, overriddenIn]; done) | decide +kernel) | decide +kernel
theorem ef_rmSk0 (m : MethodId) (x3 : Addr) (x1 : Addr) : entryFrame m #[(.ref x3), (.ref x1)] 2 = mkF m 0 #[sr x3, sr x1] [] := by first | (simp [entryFrame, mkF, argsToLocals, Value.category]; done) | rfl
def Q_rmSk0 (Z : State) (x3 : Addr) (x1 : Addr) (tv : Addr) (kb : ClassId) (cs : List Int32) (G1 : Int32) (h0 : Heap) (n0 : Nat) (v : Option Value) (h : Heap) (L : List Loc) : Prop := ∃ (t3 : Addr), v = none ∧ Fr n0 L ∧ Keep h0 h [x3] ∧ (h0.size ≤ t3) ∧ (Str Z h x3 t3 (0 : Int32) cs)
set_option maxRecDepth 65536 in
set_option maxHeartbeats 40000000 in
theorem rmSk0 (l : Launch) (Z : State) (a0 : Array Value) (hw : ∀ d ∈ tables_1, d.before a0 Z = true) (ws : List Jvm.Cond) (x3 : Addr) (x1 : Addr) (tv : Addr) (kb : ClassId) (cs : List Int32) (G1 : Int32) (h0 : Heap) (n0 : Nat) (Z0 : n0 ≤ h0.size) (hp0 : Exa Z h0 x3 "java/lang/String") (hp1 : Fld Z h0 x3 "java/lang/String" "value" "[B" .null) (hp2 : Fld Z h0 x3 "java/lang/String" "coder" "B" (.int 0)) (hp3 : n0 ≤ x3) (hp4 : x3 ≠ x1) (hp5 : x3 ≠ tv) (hp6 : Exa Z h0 x1 "java/lang/StringBuilder") (hp7 : Fld Z h0 x1 "java/lang/AbstractStringBuilder" "value" "[B" (.ref tv)) (hp8 : Fld Z h0 x1 "java/lang/AbstractStringBuilder" "coder" "B" (.int 0)) (hp9 : Fld Z h0 x1 "java/lang/AbstractStringBuilder" "count" "I" (.int (Int32.ofNat cs.length))) (hp10 : Fld Z h0 x1 "java/lang/AbstractStringBuilder" "maybeLatin1" "Z" (.int 0)) (hp11 : Arv Z h0 tv kb .byte (16 : Int32) (cs.map fun c => Value.int (StrChars.lo8 c)) (.int 0)) (hpc : ∀ c ∈ cs, ¬ c < 0 ∧ ¬ (65535 : Int32) < c) (hr : cs.length ≤ 14) (hl0 : ∀ c ∈ cs, ¬ (255 : Int32) < c) (hp15 : Sta Z Z.heap "java/lang/String" "COMPACT_STRINGS" "Z" (.int G1)) (hG1 : ¬ (G1 = (0 : Int32))) (hp17 : Old Z n0 h0) :
    MetFree l y_43 (head1 (Jvm.Cond.code y_43 jdk_42_method_53_code 2 none :: ws) ({ frames := 4, cells := 1, slots := 28, locals := 65 } : Room)) (fun a U => a = #[(.ref x3), (.ref x1)] ∧ Z.Warmed39 U.vm ∧ U.heap = h0) (fun _ _ _ _ _ => True) (fun _ U o U' => ∃ v L, o = .returned v ∧ Q_rmSk0 Z x3 x1 tv kb cs G1 h0 n0 v U'.heap L ∧ FrameEnd U o U' L ({ frames := 4, cells := 1, slots := 28, locals := 65 } : Room).cells ({ frames := 4, cells := 1, slots := 28, locals := 65 } : Room).slots) := by
 refine bodyOf pn_42 (fun m => ef_rmSk0 m x3 x1) ?_
 intro p e s m below meth c T0 X0 hx hby hml hown hnm hret hk hZ e0
 have N0 := Fr.nil n0
 have K0 : Keep h0 h0 [x3] := Keep.refl _ _
 have ne_x3_x1 := hp4
 have ne_x3_tv := hp5
 have O0 := hp17
 refine go (S' := T0.setTop (mkF m 3 #[sr x3, sr x1] [.null, (.ref x1), (.ref x3)])) (fun t k => XS.aloadN X0.here hx rfl (hb hby d20_0) rfl rfl (XS.aloadN X0.here hx rfl (hb hby d20_1) rfl rfl (XS.aconstNull X0.here hx rfl (hb hby d20_2) k))) ?_
 have O429 : Old Z n0 h0 := O0.keep K0 (allS hp3 all0)
 obtain ⟨v430, T430, L430, X430, hQ430, st430⟩ := callSp X0 hx hZ (y := y_42) rfl hown (ww hw 121 rfl) (ww hw 122 rfl) (ww hw 123 rfl) (by decide) (backOf (W := 0) (rmSj0 l Z a0 hw [] x3 x1 tv kb cs G1 h0 n0 (Nat.le_trans Z0 K0.1) hp0 hp1 hp2 hp3 ne_x3_x1 ne_x3_tv hp6 hp7 hp8 hp9 hp10 hp11 hpc hr hl0 hp15 hG1 O429) hZ (ww hw 123 rfl) (ww hw 8 rfl) (by decide) (by decide)) (g := (mkF m 3 #[sr x3, sr x1] [.null, (.ref x1), (.ref x3)])) rfl (by rw [hml]; rfl) (a := x3) (kc := 1) (ks := 28) (argsL := [(.ref x1), .null]) (rest := []) (lenOf pd_28 rfl) rfl (mr0 rfl) (hb hby d20_3) e0 (by decide) (by decide)
 obtain ⟨t3_430, rfl, N430q, Kq430, q430_0, q430_1⟩ := hQ430
 have N430 := Fr.app N0 N430q
 have K431 : Keep h0 T430.heap [x3] := K0.trans Kq430 (allS (P := fun x => x ∈ [x3] ∨ h0.size ≤ x) (Or.inl (List.mem_of_getElem? (i := 0) rfl)) all0)
 have lt_x3_t3_430 : x3 < t3_430 := Nat.lt_of_lt_of_le hp0.lt q430_0
 have lt_x1_t3_430 : x1 < t3_430 := Nat.lt_of_lt_of_le hp6.lt q430_0
 have lt_tv_t3_430 : tv < t3_430 := Nat.lt_of_lt_of_le hp11.lt q430_0
 have sz_t3_430 : h0.size ≤ t3_430 := Nat.le_trans K0.1 q430_0
 have ge_t3_430 : n0 ≤ t3_430 := Nat.le_trans Z0 sz_t3_430
 refine go (S' := T430.setTop (mkF m 6 #[sr x3, sr x1] [])) st430 ?_
 refine finV X430 hx hk hret (hb hby d20_6) (by decide) (by decide) ?_
 exact ⟨t3_430, rfl, N430, K431, sz_t3_430, q430_1⟩
theorem d19_0 : dd jdk_67_method_42_code 0 (.new 18) 3 := by decide +kernel
theorem d19_3 : dd jdk_67_method_42_code 3 .dup 1 := by decide +kernel
theorem d19_4 : dd jdk_67_method_42_code 4 (.aload_n 0) 1 := by decide +kernel
theorem d19_5 : dd jdk_67_method_42_code 5 (.invokespecial 137) 3 := by decide +kernel
theorem pd_29 : parseMethodDescriptor "(Ljava/lang/StringBuilder;)V" = some ⟨[(.object "java/lang/StringBuilder")], none⟩ := by decide +kernel
theorem d19_8 : dd jdk_67_method_42_code 8 .areturn 1 := by decide +kernel
abbrev y_44 : MethodName := ⟨"java/lang/StringBuilder", "toString", "()Ljava/lang/String;"⟩
theorem pn_43 : plainFor y_44 = true := by first | exact plainFor_of_name (by first | (simp [plainName, overriddenIn]; done) | decide +kernel) | decide +kernel
theorem ef_rmTos0 (m : MethodId) (x1 : Addr) : entryFrame m #[(.ref x1)] 1 = mkF m 0 #[sr x1] [] := by first | (simp [entryFrame, mkF, argsToLocals, Value.category]; done) | rfl
def Q_rmTos0 (Z : State) (x1 : Addr) (tv : Addr) (kb : ClassId) (cs : List Int32) (G1 : Int32) (h0 : Heap) (n0 : Nat) (v : Option Value) (h : Heap) (L : List Loc) : Prop := ∃ (x : Addr), ∃ (t3 : Addr), v = some (.ref x) ∧ Fr n0 L ∧ Keep h0 h [] ∧ (h0.size ≤ x) ∧ (Str Z h x t3 (0 : Int32) cs)
set_option maxRecDepth 65536 in
set_option maxHeartbeats 40000000 in
theorem rmTos0 (l : Launch) (Z : State) (a0 : Array Value) (hw : ∀ d ∈ tables_1, d.before a0 Z = true) (ws : List Jvm.Cond) (x1 : Addr) (tv : Addr) (kb : ClassId) (cs : List Int32) (G1 : Int32) (h0 : Heap) (n0 : Nat) (Z0 : n0 ≤ h0.size) (hp0 : Exa Z h0 x1 "java/lang/StringBuilder") (hp1 : Fld Z h0 x1 "java/lang/AbstractStringBuilder" "value" "[B" (.ref tv)) (hp2 : Fld Z h0 x1 "java/lang/AbstractStringBuilder" "coder" "B" (.int 0)) (hp3 : Fld Z h0 x1 "java/lang/AbstractStringBuilder" "count" "I" (.int (Int32.ofNat cs.length))) (hp4 : Fld Z h0 x1 "java/lang/AbstractStringBuilder" "maybeLatin1" "Z" (.int 0)) (hp5 : Arv Z h0 tv kb .byte (16 : Int32) (cs.map fun c => Value.int (StrChars.lo8 c)) (.int 0)) (hpc : ∀ c ∈ cs, ¬ c < 0 ∧ ¬ (65535 : Int32) < c) (hr : cs.length ≤ 14) (hl0 : ∀ c ∈ cs, ¬ (255 : Int32) < c) (hp9 : Sta Z Z.heap "java/lang/String" "COMPACT_STRINGS" "Z" (.int G1)) (hG1 : ¬ (G1 = (0 : Int32))) (hp11 : Old Z n0 h0) :
    MetFree l y_44 (head1 (Jvm.Cond.code y_44 jdk_67_method_42_code 1 (some (.object "java/lang/String")) :: ws) ({ frames := 5, cells := 2, slots := 32, locals := 79 } : Room)) (fun a U => a = #[(.ref x1)] ∧ Z.Warmed39 U.vm ∧ U.heap = h0) (fun _ _ _ _ _ => True) (fun _ U o U' => ∃ v L, o = .returned v ∧ Q_rmTos0 Z x1 tv kb cs G1 h0 n0 v U'.heap L ∧ FrameEnd U o U' L ({ frames := 5, cells := 2, slots := 32, locals := 79 } : Room).cells ({ frames := 5, cells := 2, slots := 32, locals := 79 } : Room).slots) := by
 refine bodyOf pn_43 (fun m => ef_rmTos0 m x1) ?_
 intro p e s m below meth c T0 X0 hx hby hml hown hnm hret hk hZ e0
 have N0 := Fr.nil n0
 have K0 : Keep h0 h0 [] := Keep.refl _ _
 have O0 := hp11
 obtain ⟨T432, h432, X432, e432, E432, A432, D432, -, st432⟩ := newO X0 hx hZ hown (ww hw 117 rfl) (ww hw 7 rfl) (ww hw 8 rfl) e0 (g := (mkF m 0 #[sr x1] [])) rfl (hb hby d19_0) (by decide) (by decide)
 obtain ⟨b432, g432⟩ : ∃ z, z = h0.size := ⟨_, rfl⟩
 rw [← g432] at A432 D432 st432
 have lt_x1_b432 : x1 < b432 := by rw [g432]; exact hp0.lt
 have lt_tv_b432 : tv < b432 := by rw [g432]; exact hp5.lt
 have ge_b432 : n0 ≤ b432 := by rw [g432]; exact (Nat.le_trans Z0 K0.1)
 have sz_b432 : h0.size ≤ b432 := by rw [g432]; exact K0.1
 have K433 : Keep h0 h432 [] := K0.ext E432
 refine go (S' := T432.setTop (mkF m 5 #[sr x1] [(.ref x1), (.ref b432), (.ref b432)])) (fun t k => st432 _ (XS.dup X432.here hx rfl (hb hby d19_3) rfl rfl (XS.aloadN X432.here hx rfl (hb hby d19_4) rfl rfl k))) ?_
 have O434 : Old Z n0 h432 := O0.keep K433 all0
 obtain ⟨v435, T435, L435, X435, hQ435, st435⟩ := callSp X432 hx hZ (y := y_43) rfl hown (ww hw 118 rfl) (ww hw 119 rfl) (ww hw 120 rfl) (by decide) (backOf (W := 1) (rmSk0 l Z a0 hw [] b432 x1 tv kb cs G1 h432 n0 (Nat.le_trans Z0 K433.1) A432 (D432 (Or.inr (ww hw 35 rfl)) (ty := (.array .byte)) (by decide)) (D432 (Or.inr (ww hw 33 rfl)) (ty := .byte) (by decide)) ge_b432 (Nat.ne_of_gt lt_x1_b432) (Nat.ne_of_gt lt_tv_b432) (hp0.keep K433) (hp1.keep K433 nin0) (hp2.keep K433 nin0) (hp3.keep K433 nin0) (hp4.keep K433 nin0) (hp5.keep K433 nin0) hpc hr hl0 hp9 hG1 O434) hZ (ww hw 120 rfl) (ww hw 8 rfl) (by decide) (by decide)) (g := (mkF m 5 #[sr x1] [(.ref x1), (.ref b432), (.ref b432)])) rfl (by rw [hml]; rfl) (a := b432) (kc := 1) (ks := 28) (argsL := [(.ref x1)]) (rest := [(.ref b432)]) (lenOf pd_29 rfl) rfl (mr0 rfl) (hb hby d19_5) e432 (by decide) (by decide)
 obtain ⟨t3_435, rfl, N435q, Kq435, q435_0, q435_1⟩ := hQ435
 have N435 := Fr.app N0 N435q
 have K436 : Keep h0 T435.heap [] := K433.trans Kq435 (allS (P := fun x => x ∈ [] ∨ h0.size ≤ x) (Or.inr sz_b432) all0)
 have lt_x1_t3_435 : x1 < t3_435 := Nat.lt_of_lt_of_le (hp0.keep K433).lt q435_0
 have lt_tv_t3_435 : tv < t3_435 := Nat.lt_of_lt_of_le (hp5.keep K433 nin0).lt q435_0
 have lt_b432_t3_435 : b432 < t3_435 := Nat.lt_of_lt_of_le A432.lt q435_0
 have sz_t3_435 : h0.size ≤ t3_435 := Nat.le_trans K433.1 q435_0
 have ge_t3_435 : n0 ≤ t3_435 := Nat.le_trans Z0 sz_t3_435
 refine go (S' := T435.setTop (mkF m 8 #[sr x1] [(.ref b432)])) st435 ?_
 refine finR X435 hx hk hret rfl rfl (hb hby d19_8) (by decide) (by decide) ?_
 exact ⟨b432, t3_435, rfl, N435, K436, sz_b432, q435_1⟩
theorem d21_41 : dd jdk_42_method_150_code 41 (.getstatic 38) 3 := by decide +kernel
theorem d21_44 : dd jdk_42_method_150_code 44 (.ifCond .eq 35) 3 := by decide +kernel
theorem d21_47 : dd jdk_42_method_150_code 47 (.aload_n 1) 1 := by decide +kernel
theorem d21_48 : dd jdk_42_method_150_code 48 (.getfield 1048) 3 := by decide +kernel
theorem d21_51 : dd jdk_42_method_150_code 51 (.ifCond .eq 28) 3 := by decide +kernel
theorem d21_79 : dd jdk_42_method_150_code 79 (.aload_n 0) 1 := by decide +kernel
theorem d21_80 : dd jdk_42_method_150_code 80 (.iconst 1) 1 := by decide +kernel
theorem d21_81 : dd jdk_42_method_150_code 81 (.putfield 15) 3 := by decide +kernel
theorem d21_84 : dd jdk_42_method_150_code 84 (.aload_n 0) 1 := by decide +kernel
theorem d21_85 : dd jdk_42_method_150_code 85 (.aload_n 3) 1 := by decide +kernel
theorem d21_86 : dd jdk_42_method_150_code 86 (.iconst 0) 1 := by decide +kernel
theorem d21_87 : dd jdk_42_method_150_code 87 (.iload 4) 2 := by decide +kernel
theorem d21_89 : dd jdk_42_method_150_code 89 (.iconst 1) 1 := by decide +kernel
theorem d21_90 : dd jdk_42_method_150_code 90 .ishl 1 := by decide +kernel
theorem d21_91 : dd jdk_42_method_150_code 91 (.invokestatic 54) 3 := by decide +kernel
theorem d21_94 : dd jdk_42_method_150_code 94 (.putfield 9) 3 := by decide +kernel
theorem ef_rmSj1 (m : MethodId) (x3 : Addr) (x1 : Addr) : entryFrame m #[(.ref x3), (.ref x1), .null] 5 = mkF m 0 #[sr x3, sr x1, .val .null, un, un] [] := by first | (simp [entryFrame, mkF, argsToLocals, Value.category]; done) | rfl
def Q_rmSj1 (Z : State) (x3 : Addr) (x1 : Addr) (tv : Addr) (kb : ClassId) (cs : List Int32) (G1 : Int32) (h0 : Heap) (n0 : Nat) (v : Option Value) (h : Heap) (L : List Loc) : Prop := ∃ (t3 : Addr), v = none ∧ Fr n0 L ∧ Keep h0 h [x3] ∧ (h0.size ≤ t3) ∧ (Str Z h x3 t3 (1 : Int32) cs)
set_option maxRecDepth 65536 in
set_option maxHeartbeats 40000000 in
theorem rmSj1 (l : Launch) (Z : State) (a0 : Array Value) (hw : ∀ d ∈ tables_1, d.before a0 Z = true) (ws : List Jvm.Cond) (x3 : Addr) (x1 : Addr) (tv : Addr) (kb : ClassId) (cs : List Int32) (G1 : Int32) (h0 : Heap) (n0 : Nat) (Z0 : n0 ≤ h0.size) (hp0 : Exa Z h0 x3 "java/lang/String") (hp1 : Fld Z h0 x3 "java/lang/String" "value" "[B" .null) (hp2 : Fld Z h0 x3 "java/lang/String" "coder" "B" (.int 0)) (hp3 : n0 ≤ x3) (hp4 : x3 ≠ x1) (hp5 : x3 ≠ tv) (hp6 : Exa Z h0 x1 "java/lang/StringBuilder") (hp7 : Fld Z h0 x1 "java/lang/AbstractStringBuilder" "value" "[B" (.ref tv)) (hp8 : Fld Z h0 x1 "java/lang/AbstractStringBuilder" "coder" "B" (.int 1)) (hp9 : Fld Z h0 x1 "java/lang/AbstractStringBuilder" "count" "I" (.int (Int32.ofNat cs.length))) (hp10 : Fld Z h0 x1 "java/lang/AbstractStringBuilder" "maybeLatin1" "Z" (.int 0)) (hp11 : Arv Z h0 tv kb .byte (Int32.ofNat (2 * 16)) (StrChars.Road.wideBytes cs) (.int 0)) (hpc : ∀ c ∈ cs, ¬ c < 0 ∧ ¬ (65535 : Int32) < c) (hr : cs.length ≤ 14) (hex : ∃ c ∈ cs, (255 : Int32) < c) (hp15 : Sta Z Z.heap "java/lang/String" "COMPACT_STRINGS" "Z" (.int G1)) (hG1 : ¬ (G1 = (0 : Int32))) (hp17 : Old Z n0 h0) :
    MetFree l y_42 (head1 (Jvm.Cond.code y_42 jdk_42_method_150_code 5 none :: ws) ({ frames := 3, cells := 1, slots := 28, locals := 49 } : Room)) (fun a U => a = #[(.ref x3), (.ref x1), .null] ∧ Z.Warmed39 U.vm ∧ U.heap = h0) (fun _ _ _ _ _ => True) (fun _ U o U' => ∃ v L, o = .returned v ∧ Q_rmSj1 Z x3 x1 tv kb cs G1 h0 n0 v U'.heap L ∧ FrameEnd U o U' L ({ frames := 3, cells := 1, slots := 28, locals := 49 } : Room).cells ({ frames := 3, cells := 1, slots := 28, locals := 49 } : Room).slots) := by
 refine bodyOf pn_41 (fun m => ef_rmSj1 m x3 x1) ?_
 intro p e s m below meth c T0 X0 hx hby hml hown hnm hret hk hZ e0
 have N0 := Fr.nil n0
 have K0 : Keep h0 h0 [x3] := Keep.refl _ _
 have ne_x3_x1 := hp4
 have ne_x3_tv := hp5
 have O0 := hp17
 refine go (S' := T0.setTop (mkF m 1 #[sr x3, sr x1, .val .null, un, un] [(.ref x3)])) (fun t k => XS.aloadN X0.here hx rfl (hb hby d21_0) rfl rfl k) ?_
 obtain ⟨T437, X437, e437, st437⟩ := initO X0 hx hZ hown (ww hw 17 rfl) (ww hw 18 rfl) (ww hw 19 rfl) e0 (g := (mkF m 1 #[sr x3, sr x1, .val .null, un, un] [(.ref x3)])) rfl (by rw [hml]; rfl) rfl (hb hby d21_1) (by decide) (W := 0) (mr0 rfl) (by decide)
 refine go (S' := T437.setTop (mkF m 5 #[sr x3, sr x1, .val .null, un, un] [(.ref x1)])) (fun t k => st437 _ (XS.aloadN X437.here hx rfl (hb hby d21_4) rfl rfl k)) ?_
 obtain ⟨v438, T438, L438, X438, hQ438, st438⟩ := callV X437 hx hZ (y := y_35) (z := y_35) hown (ww hw 124 rfl) (ww hw 125 rfl) (notFace_of_selects (args := #[]) (mvT hZ (ww hw 127 rfl))) (ww hw 127 rfl) (ww hw 126 rfl) (by decide) (backOf (W := 0) (rmGv l Z a0 hw [] x1 tv h0 n0 (Nat.le_trans Z0 K0.1) hp7) hZ (ww hw 128 rfl) (ww hw 55 rfl) (by decide) (by decide)) hp6 (g := (mkF m 5 #[sr x3, sr x1, .val .null, un, un] [(.ref x1)])) rfl (by rw [hml]; rfl) (kc := 0) (ks := 0) (argsL := []) (rest := []) (lenOf pd_27 rfl) rfl (mr0 rfl) (hb hby d21_5) e437 (by decide) (by decide)
 obtain ⟨rfl, N438q, e438⟩ := hQ438
 have N438 := Fr.app N0 N438q
 refine go (S' := T438.setTop (mkF m 10 #[sr x3, sr x1, .val .null, sr tv, un] [(.ref x1)])) (fun t k => st438 _ (XS.astoreN X438.here hx rfl (hb hby d21_8) rfl rfl (l' := #[sr x3, sr x1, .val .null, sr tv, un]) rfl (XS.aloadN X438.here hx rfl (hb hby d21_9) rfl rfl k))) ?_
 obtain ⟨v439, T439, L439, X439, hQ439, st439⟩ := callV X438 hx hZ (y := y_36) (z := y_37) hown (ww hw 129 rfl) (ww hw 130 rfl) (nf_sel (args := #[]) (y' := y_19) rfl (mvT hZ (ww hw 88 rfl))) (ww hw 132 rfl) (ww hw 133 rfl) (by decide) (backOf (W := 0) (rmSln l Z a0 hw [] x1 (Int32.ofNat cs.length) h0 n0 (Nat.le_trans Z0 K0.1) hp6 hp9) hZ (ww hw 134 rfl) (ww hw 47 rfl) (by decide) (by decide)) hp6 (g := (mkF m 10 #[sr x3, sr x1, .val .null, sr tv, un] [(.ref x1)])) rfl (by rw [hml]; rfl) (kc := 0) (ks := 0) (argsL := []) (rest := []) (lenOf pd_21 rfl) rfl (mr0 rfl) (hb hby d21_10) e438 (by decide) (by decide)
 obtain ⟨rfl, N439q, e439⟩ := hQ439
 have N439 := Fr.app N438 N439q
 refine go (S' := T439.setTop (mkF m 16 #[sr x3, sr x1, .val .null, sr tv, si (Int32.ofNat cs.length)] [(.ref x1)])) (fun t k => st439 _ (XS.istore X439.here hx rfl (hb hby d21_13) rfl (l' := #[sr x3, sr x1, .val .null, sr tv, si (Int32.ofNat cs.length)]) rfl (XS.aloadN X439.here hx rfl (hb hby d21_15) rfl rfl k))) ?_
 have O440 : Old Z n0 h0 := O0.keep K0 (allS hp3 all0)
 obtain ⟨v441, T441, L441, X441, hQ441, st441⟩ := callV X439 hx hZ (y := y_20) (z := y_20) hown (ww hw 137 rfl) (ww hw 138 rfl) (notFace_of_selects (args := #[]) (mvT hZ (ww hw 140 rfl))) (ww hw 140 rfl) (ww hw 139 rfl) (by decide) (backOf (W := 0) (rmIl1 l Z a0 hw [] x1 G1 h0 n0 (Nat.le_trans Z0 K0.1) hp8 hp15 hG1 O440) hZ (ww hw 141 rfl) (ww hw 55 rfl) (by decide) (by decide)) hp6 (g := (mkF m 16 #[sr x3, sr x1, .val .null, sr tv, si (Int32.ofNat cs.length)] [(.ref x1)])) rfl (by rw [hml]; rfl) (kc := 0) (ks := 0) (argsL := []) (rest := []) (lenOf pd_12 rfl) rfl (mr0 rfl) (hb hby d21_16) e439 (by decide) (by decide)
 obtain ⟨rfl, N441q, e441⟩ := hQ441
 have N441 := Fr.app N439 N441q
 refine go (S' := T441.setTop (mkF m 19 #[sr x3, sr x1, .val .null, sr tv, si (Int32.ofNat cs.length)] [(.int 0)])) st441 ?_
 have hc442 : (0 : Int32) = (0 : Int32) := by decide
 refine go (S' := T441.setTop (mkF m 41 #[sr x3, sr x1, .val .null, sr tv, si (Int32.ofNat cs.length)] [])) (fun t k => XS.ifYes X441.here hx rfl (pc0 := 19) (pc' := 41) rfl (hb hby d21_19) rfl ((if0 _ _).trans (teq hc442).1) (by decide) (by decide) k) ?_
 obtain ⟨T443, X443, e443, st443⟩ := getS2 X441 hx hZ hown (host := "") (Or.inl (ww hw 20 rfl)) Via.refl e441 (hp15.ext O440.2) (g := (mkF m 41 #[sr x3, sr x1, .val .null, sr tv, si (Int32.ofNat cs.length)] [])) rfl (hb hby d21_41)
 refine go (S' := T443.setTop (mkF m 48 #[sr x3, sr x1, .val .null, sr tv, si (Int32.ofNat cs.length)] [(.ref x1)])) (fun t k => st443 _ (XS.ifNo X443.here hx rfl (hb hby d21_44) rfl ((if0 _ _).trans (feq hG1).1) (XS.aloadN X443.here hx rfl (hb hby d21_47) rfl rfl k))) ?_
 obtain ⟨T444, X444, e444, st444⟩ := getF X443 hx hZ hown (host := "") (Or.inl (ww hw 308 rfl)) Via.refl e443 hp10 (g := (mkF m 48 #[sr x3, sr x1, .val .null, sr tv, si (Int32.ofNat cs.length)] [(.ref x1)])) rfl rfl (hb hby d21_48)
 refine go (S' := T444.setTop (mkF m 51 #[sr x3, sr x1, .val .null, sr tv, si (Int32.ofNat cs.length)] [(.int 0)])) st444 ?_
 have hc445 : (0 : Int32) = (0 : Int32) := by decide
 refine go (S' := T444.setTop (mkF m 81 #[sr x3, sr x1, .val .null, sr tv, si (Int32.ofNat cs.length)] [(.int 1), (.ref x3)])) (fun t k => XS.ifYes X444.here hx rfl (pc0 := 51) (pc' := 79) rfl (hb hby d21_51) rfl ((if0 _ _).trans (teq hc445).1) (by decide) (by decide) (XS.aloadN X444.here hx rfl (hb hby d21_79) rfl rfl (XS.iconst X444.here hx rfl (hb hby d21_80) k))) ?_
 obtain ⟨T446, h446, X446, e446, W446, st446⟩ := putF X444 hx hZ hown (host := "") (Or.inl (ww hw 32 rfl)) Via.refl e444 hp2 hp0 (Or.inr ⟨(ww hw 33 rfl), rfl, hnm⟩) (ww hw 7 rfl) (ty := .byte) (by decide) (by decide) (by decide) (g := (mkF m 81 #[sr x3, sr x1, .val .null, sr tv, si (Int32.ofNat cs.length)] [(.int 1), (.ref x3)])) rfl rfl (hb hby d21_81)
 have K447 : Keep h0 h446 [x3] := K0.wr W446 (Or.inl (List.mem_of_getElem? (i := 0) rfl))
 have N448 := Fr.snoc X446 N441 hp3
 have f449 : Fld Z h446 x3 "java/lang/String" "coder" "B" (.int 1) := (Fld.same W446 hp2)
 refine go (S' := T446.setTop (mkF m 91 #[sr x3, sr x1, .val .null, sr tv, si (Int32.ofNat cs.length)] [(.int ((Int32.ofNat cs.length) <<< ((1 : Int32) &&& 31))), (.int 0), (.ref tv), (.ref x3)])) (fun t k => st446 _ (XS.aloadN X446.here hx rfl (hb hby d21_84) rfl rfl (XS.aloadN X446.here hx rfl (hb hby d21_85) rfl rfl (XS.iconst X446.here hx rfl (hb hby d21_86) (XS.iload X446.here hx rfl (hb hby d21_87) rfl (XS.iconst X446.here hx rfl (hb hby d21_89) (XS.ishl X446.here hx rfl (hb hby d21_90) rfl k))))))) ?_
 rw [oj_dbl (by omega)]
 have O450 : Old Z n0 h446 := O0.keep K447 (allS hp3 all0)
 obtain ⟨v451, T451, L451, X451, hQ451, st451⟩ := callSt X446 hx hZ (y := y_41) hown (ww hw 142 rfl) (ww hw 143 rfl) (ww hw 144 rfl) (ww hw 145 rfl) (by decide) (backOf (W := 1) (rmCor l Z a0 hw [] tv (Int32.ofNat (2 * cs.length)) kb (Int32.ofNat (2 * 16)) (StrChars.Road.wideBytes cs) h446 n0 (Nat.le_trans Z0 K447.1) (hp11.keep K447 (ninS (Ne.symm ne_x3_tv) nin0)) (by rw [wide_len]) (by rw [wide_len]; omega) (by exact oj_lt (by omega) (by omega)) (by rw [wide_len, oj_n (by omega)]; omega) O450) hZ (ww hw 145 rfl) (ww hw 144 rfl) (by decide) (by decide)) (g := (mkF m 91 #[sr x3, sr x1, .val .null, sr tv, si (Int32.ofNat cs.length)] [(.int (Int32.ofNat (2 * cs.length))), (.int 0), (.ref tv), (.ref x3)])) rfl (by rw [hml]; rfl) (kc := 1) (ks := 28) (argsL := [(.ref tv), (.int 0), (.int (Int32.ofNat (2 * cs.length)))]) (rest := [(.ref x3)]) (lenOf pd_26 rfl) rfl (mr0 rfl) (hb hby d21_91) e446 (by decide) (by decide)
 obtain ⟨tv_451, kb_451, rfl, N451q, Kq451, q451_0, q451_1⟩ := hQ451
 have N451 := Fr.app N448 N451q
 have K452 : Keep h0 T451.heap [x3] := K447.trans Kq451 all0
 have lt_x3_tv_451 : x3 < tv_451 := Nat.lt_of_lt_of_le (hp0.keep K447).lt q451_0
 have lt_x1_tv_451 : x1 < tv_451 := Nat.lt_of_lt_of_le (hp6.keep K447).lt q451_0
 have lt_tv_tv_451 : tv < tv_451 := Nat.lt_of_lt_of_le (hp11.keep K447 (ninS (Ne.symm ne_x3_tv) nin0)).lt q451_0
 have sz_tv_451 : h0.size ≤ tv_451 := Nat.le_trans K447.1 q451_0
 have ge_tv_451 : n0 ≤ tv_451 := Nat.le_trans Z0 sz_tv_451
 refine go (S' := T451.setTop (mkF m 94 #[sr x3, sr x1, .val .null, sr tv, si (Int32.ofNat cs.length)] [(.ref tv_451), (.ref x3)])) st451 ?_
 have f453 : Fld Z T451.heap x3 "java/lang/String" "value" "[B" .null := ((Fld.other W446 hp1 (Or.inr (slot_ne (Or.inr (ww hw 35 rfl)) (Or.inr (ww hw 33 rfl)) (by decide) (t := (.array .byte)) (t' := .byte) (by decide) (by decide)))).keep Kq451 nin0)
 obtain ⟨T454, h454, X454, e454, W454, st454⟩ := putF X451 hx hZ hown (host := "") (Or.inl (ww hw 34 rfl)) Via.refl rfl f453 (hp0.keep K452) (Or.inr ⟨(ww hw 35 rfl), rfl, hnm⟩) (ww hw 7 rfl) (ty := (.array .byte)) (by decide) rfl rfl (g := (mkF m 94 #[sr x3, sr x1, .val .null, sr tv, si (Int32.ofNat cs.length)] [(.ref tv_451), (.ref x3)])) rfl rfl (hb hby d21_94)
 have K455 : Keep h0 h454 [x3] := K452.wr W454 (Or.inl (List.mem_of_getElem? (i := 0) rfl))
 have N456 := Fr.snoc X454 N451 hp3
 have f457 : Fld Z h454 x3 "java/lang/String" "value" "[B" (.ref tv_451) := (Fld.same W454 f453)
 refine go (S' := T454.setTop (mkF m 97 #[sr x3, sr x1, .val .null, sr tv, si (Int32.ofNat cs.length)] [])) st454 ?_
 refine finV X454 hx hk hret (hb hby d21_97) (by decide) (by decide) ?_
 have f458 : Fld Z h454 x3 "java/lang/String" "coder" "B" (.int 1) := (Fld.other W454 (f449.keep Kq451 nin0) (Or.inr (slot_ne (Or.inr (ww hw 33 rfl)) (Or.inr (ww hw 35 rfl)) (by decide) (t := .byte) (t' := (.array .byte)) (by decide) (by decide))))
 have f459 : Arv Z h454 tv_451 kb_451 .byte (Int32.ofNat (2 * cs.length)) (StrChars.Road.wideBytes cs) (.int 0) := (q451_1.other W454 (Nat.ne_of_gt lt_x3_tv_451))
 rw [e454]
 exact ⟨tv_451, rfl, N456, K455, sz_tv_451, ⟨_, _, _, (hp0.keep K455), f457, f458, f459, Or.inr ⟨rfl, rfl, rfl, hex⟩, hpc, by omega⟩⟩
theorem ef_rmSk1 (m : MethodId) (x3 : Addr) (x1 : Addr) : entryFrame m #[(.ref x3), (.ref x1)] 2 = mkF m 0 #[sr x3, sr x1] [] := by first | (simp [entryFrame, mkF, argsToLocals, Value.category]; done) | rfl
def Q_rmSk1 (Z : State) (x3 : Addr) (x1 : Addr) (tv : Addr) (kb : ClassId) (cs : List Int32) (G1 : Int32) (h0 : Heap) (n0 : Nat) (v : Option Value) (h : Heap) (L : List Loc) : Prop := ∃ (t3 : Addr), v = none ∧ Fr n0 L ∧ Keep h0 h [x3] ∧ (h0.size ≤ t3) ∧ (Str Z h x3 t3 (1 : Int32) cs)
set_option maxRecDepth 65536 in
set_option maxHeartbeats 40000000 in
theorem rmSk1 (l : Launch) (Z : State) (a0 : Array Value) (hw : ∀ d ∈ tables_1, d.before a0 Z = true) (ws : List Jvm.Cond) (x3 : Addr) (x1 : Addr) (tv : Addr) (kb : ClassId) (cs : List Int32) (G1 : Int32) (h0 : Heap) (n0 : Nat) (Z0 : n0 ≤ h0.size) (hp0 : Exa Z h0 x3 "java/lang/String") (hp1 : Fld Z h0 x3 "java/lang/String" "value" "[B" .null) (hp2 : Fld Z h0 x3 "java/lang/String" "coder" "B" (.int 0)) (hp3 : n0 ≤ x3) (hp4 : x3 ≠ x1) (hp5 : x3 ≠ tv) (hp6 : Exa Z h0 x1 "java/lang/StringBuilder") (hp7 : Fld Z h0 x1 "java/lang/AbstractStringBuilder" "value" "[B" (.ref tv)) (hp8 : Fld Z h0 x1 "java/lang/AbstractStringBuilder" "coder" "B" (.int 1)) (hp9 : Fld Z h0 x1 "java/lang/AbstractStringBuilder" "count" "I" (.int (Int32.ofNat cs.length))) (hp10 : Fld Z h0 x1 "java/lang/AbstractStringBuilder" "maybeLatin1" "Z" (.int 0)) (hp11 : Arv Z h0 tv kb .byte (Int32.ofNat (2 * 16)) (StrChars.Road.wideBytes cs) (.int 0)) (hpc : ∀ c ∈ cs, ¬ c < 0 ∧ ¬ (65535 : Int32) < c) (hr : cs.length ≤ 14) (hex : ∃ c ∈ cs, (255 : Int32) < c) (hp15 : Sta Z Z.heap "java/lang/String" "COMPACT_STRINGS" "Z" (.int G1)) (hG1 : ¬ (G1 = (0 : Int32))) (hp17 : Old Z n0 h0) :
    MetFree l y_43 (head1 (Jvm.Cond.code y_43 jdk_42_method_53_code 2 none :: ws) ({ frames := 4, cells := 1, slots := 28, locals := 65 } : Room)) (fun a U => a = #[(.ref x3), (.ref x1)] ∧ Z.Warmed39 U.vm ∧ U.heap = h0) (fun _ _ _ _ _ => True) (fun _ U o U' => ∃ v L, o = .returned v ∧ Q_rmSk1 Z x3 x1 tv kb cs G1 h0 n0 v U'.heap L ∧ FrameEnd U o U' L ({ frames := 4, cells := 1, slots := 28, locals := 65 } : Room).cells ({ frames := 4, cells := 1, slots := 28, locals := 65 } : Room).slots) := by
 refine bodyOf pn_42 (fun m => ef_rmSk1 m x3 x1) ?_
 intro p e s m below meth c T0 X0 hx hby hml hown hnm hret hk hZ e0
 have N0 := Fr.nil n0
 have K0 : Keep h0 h0 [x3] := Keep.refl _ _
 have ne_x3_x1 := hp4
 have ne_x3_tv := hp5
 have O0 := hp17
 refine go (S' := T0.setTop (mkF m 3 #[sr x3, sr x1] [.null, (.ref x1), (.ref x3)])) (fun t k => XS.aloadN X0.here hx rfl (hb hby d20_0) rfl rfl (XS.aloadN X0.here hx rfl (hb hby d20_1) rfl rfl (XS.aconstNull X0.here hx rfl (hb hby d20_2) k))) ?_
 have O460 : Old Z n0 h0 := O0.keep K0 (allS hp3 all0)
 obtain ⟨v461, T461, L461, X461, hQ461, st461⟩ := callSp X0 hx hZ (y := y_42) rfl hown (ww hw 121 rfl) (ww hw 122 rfl) (ww hw 123 rfl) (by decide) (backOf (W := 0) (rmSj1 l Z a0 hw [] x3 x1 tv kb cs G1 h0 n0 (Nat.le_trans Z0 K0.1) hp0 hp1 hp2 hp3 ne_x3_x1 ne_x3_tv hp6 hp7 hp8 hp9 hp10 hp11 hpc hr hex hp15 hG1 O460) hZ (ww hw 123 rfl) (ww hw 8 rfl) (by decide) (by decide)) (g := (mkF m 3 #[sr x3, sr x1] [.null, (.ref x1), (.ref x3)])) rfl (by rw [hml]; rfl) (a := x3) (kc := 1) (ks := 28) (argsL := [(.ref x1), .null]) (rest := []) (lenOf pd_28 rfl) rfl (mr0 rfl) (hb hby d20_3) e0 (by decide) (by decide)
 obtain ⟨t3_461, rfl, N461q, Kq461, q461_0, q461_1⟩ := hQ461
 have N461 := Fr.app N0 N461q
 have K462 : Keep h0 T461.heap [x3] := K0.trans Kq461 (allS (P := fun x => x ∈ [x3] ∨ h0.size ≤ x) (Or.inl (List.mem_of_getElem? (i := 0) rfl)) all0)
 have lt_x3_t3_461 : x3 < t3_461 := Nat.lt_of_lt_of_le hp0.lt q461_0
 have lt_x1_t3_461 : x1 < t3_461 := Nat.lt_of_lt_of_le hp6.lt q461_0
 have lt_tv_t3_461 : tv < t3_461 := Nat.lt_of_lt_of_le hp11.lt q461_0
 have sz_t3_461 : h0.size ≤ t3_461 := Nat.le_trans K0.1 q461_0
 have ge_t3_461 : n0 ≤ t3_461 := Nat.le_trans Z0 sz_t3_461
 refine go (S' := T461.setTop (mkF m 6 #[sr x3, sr x1] [])) st461 ?_
 refine finV X461 hx hk hret (hb hby d20_6) (by decide) (by decide) ?_
 exact ⟨t3_461, rfl, N461, K462, sz_t3_461, q461_1⟩
theorem ef_rmTos1 (m : MethodId) (x1 : Addr) : entryFrame m #[(.ref x1)] 1 = mkF m 0 #[sr x1] [] := by first | (simp [entryFrame, mkF, argsToLocals, Value.category]; done) | rfl
def Q_rmTos1 (Z : State) (x1 : Addr) (tv : Addr) (kb : ClassId) (cs : List Int32) (G1 : Int32) (h0 : Heap) (n0 : Nat) (v : Option Value) (h : Heap) (L : List Loc) : Prop := ∃ (x : Addr), ∃ (t3 : Addr), v = some (.ref x) ∧ Fr n0 L ∧ Keep h0 h [] ∧ (h0.size ≤ x) ∧ (Str Z h x t3 (1 : Int32) cs)
set_option maxRecDepth 65536 in
set_option maxHeartbeats 40000000 in
theorem rmTos1 (l : Launch) (Z : State) (a0 : Array Value) (hw : ∀ d ∈ tables_1, d.before a0 Z = true) (ws : List Jvm.Cond) (x1 : Addr) (tv : Addr) (kb : ClassId) (cs : List Int32) (G1 : Int32) (h0 : Heap) (n0 : Nat) (Z0 : n0 ≤ h0.size) (hp0 : Exa Z h0 x1 "java/lang/StringBuilder") (hp1 : Fld Z h0 x1 "java/lang/AbstractStringBuilder" "value" "[B" (.ref tv)) (hp2 : Fld Z h0 x1 "java/lang/AbstractStringBuilder" "coder" "B" (.int 1)) (hp3 : Fld Z h0 x1 "java/lang/AbstractStringBuilder" "count" "I" (.int (Int32.ofNat cs.length))) (hp4 : Fld Z h0 x1 "java/lang/AbstractStringBuilder" "maybeLatin1" "Z" (.int 0)) (hp5 : Arv Z h0 tv kb .byte (Int32.ofNat (2 * 16)) (StrChars.Road.wideBytes cs) (.int 0)) (hpc : ∀ c ∈ cs, ¬ c < 0 ∧ ¬ (65535 : Int32) < c) (hr : cs.length ≤ 14) (hex : ∃ c ∈ cs, (255 : Int32) < c) (hp9 : Sta Z Z.heap "java/lang/String" "COMPACT_STRINGS" "Z" (.int G1)) (hG1 : ¬ (G1 = (0 : Int32))) (hp11 : Old Z n0 h0) :
    MetFree l y_44 (head1 (Jvm.Cond.code y_44 jdk_67_method_42_code 1 (some (.object "java/lang/String")) :: ws) ({ frames := 5, cells := 2, slots := 32, locals := 79 } : Room)) (fun a U => a = #[(.ref x1)] ∧ Z.Warmed39 U.vm ∧ U.heap = h0) (fun _ _ _ _ _ => True) (fun _ U o U' => ∃ v L, o = .returned v ∧ Q_rmTos1 Z x1 tv kb cs G1 h0 n0 v U'.heap L ∧ FrameEnd U o U' L ({ frames := 5, cells := 2, slots := 32, locals := 79 } : Room).cells ({ frames := 5, cells := 2, slots := 32, locals := 79 } : Room).slots) := by
 refine bodyOf pn_43 (fun m => ef_rmTos1 m x1) ?_
 intro p e s m below meth c T0 X0 hx hby hml hown hnm hret hk hZ e0
 have N0 := Fr.nil n0
 have K0 : Keep h0 h0 [] := Keep.refl _ _
 have O0 := hp11
 obtain ⟨T463, h463, X463, e463, E463, A463, D463, -, st463⟩ := newO X0 hx hZ hown (ww hw 117 rfl) (ww hw 7 rfl) (ww hw 8 rfl) e0 (g := (mkF m 0 #[sr x1] [])) rfl (hb hby d19_0) (by decide) (by decide)
 obtain ⟨b463, g463⟩ : ∃ z, z = h0.size := ⟨_, rfl⟩
 rw [← g463] at A463 D463 st463
 have lt_x1_b463 : x1 < b463 := by rw [g463]; exact hp0.lt
 have lt_tv_b463 : tv < b463 := by rw [g463]; exact hp5.lt
 have ge_b463 : n0 ≤ b463 := by rw [g463]; exact (Nat.le_trans Z0 K0.1)
 have sz_b463 : h0.size ≤ b463 := by rw [g463]; exact K0.1
 have K464 : Keep h0 h463 [] := K0.ext E463
 refine go (S' := T463.setTop (mkF m 5 #[sr x1] [(.ref x1), (.ref b463), (.ref b463)])) (fun t k => st463 _ (XS.dup X463.here hx rfl (hb hby d19_3) rfl rfl (XS.aloadN X463.here hx rfl (hb hby d19_4) rfl rfl k))) ?_
 have O465 : Old Z n0 h463 := O0.keep K464 all0
 obtain ⟨v466, T466, L466, X466, hQ466, st466⟩ := callSp X463 hx hZ (y := y_43) rfl hown (ww hw 118 rfl) (ww hw 119 rfl) (ww hw 120 rfl) (by decide) (backOf (W := 1) (rmSk1 l Z a0 hw [] b463 x1 tv kb cs G1 h463 n0 (Nat.le_trans Z0 K464.1) A463 (D463 (Or.inr (ww hw 35 rfl)) (ty := (.array .byte)) (by decide)) (D463 (Or.inr (ww hw 33 rfl)) (ty := .byte) (by decide)) ge_b463 (Nat.ne_of_gt lt_x1_b463) (Nat.ne_of_gt lt_tv_b463) (hp0.keep K464) (hp1.keep K464 nin0) (hp2.keep K464 nin0) (hp3.keep K464 nin0) (hp4.keep K464 nin0) (hp5.keep K464 nin0) hpc hr hex hp9 hG1 O465) hZ (ww hw 120 rfl) (ww hw 8 rfl) (by decide) (by decide)) (g := (mkF m 5 #[sr x1] [(.ref x1), (.ref b463), (.ref b463)])) rfl (by rw [hml]; rfl) (a := b463) (kc := 1) (ks := 28) (argsL := [(.ref x1)]) (rest := [(.ref b463)]) (lenOf pd_29 rfl) rfl (mr0 rfl) (hb hby d19_5) e463 (by decide) (by decide)
 obtain ⟨t3_466, rfl, N466q, Kq466, q466_0, q466_1⟩ := hQ466
 have N466 := Fr.app N0 N466q
 have K467 : Keep h0 T466.heap [] := K464.trans Kq466 (allS (P := fun x => x ∈ [] ∨ h0.size ≤ x) (Or.inr sz_b463) all0)
 have lt_x1_t3_466 : x1 < t3_466 := Nat.lt_of_lt_of_le (hp0.keep K464).lt q466_0
 have lt_tv_t3_466 : tv < t3_466 := Nat.lt_of_lt_of_le (hp5.keep K464 nin0).lt q466_0
 have lt_b463_t3_466 : b463 < t3_466 := Nat.lt_of_lt_of_le A463.lt q466_0
 have sz_t3_466 : h0.size ≤ t3_466 := Nat.le_trans K464.1 q466_0
 have ge_t3_466 : n0 ≤ t3_466 := Nat.le_trans Z0 sz_t3_466
 refine go (S' := T466.setTop (mkF m 8 #[sr x1] [(.ref b463)])) st466 ?_
 refine finR X466 hx hk hret rfl rfl (hb hby d19_8) (by decide) (by decide) ?_
 exact ⟨b463, t3_466, rfl, N466, K467, sz_b463, q466_1⟩
theorem d44_0 : dd jdk_43_method_3_code 0 (.iload_n 0) 1 := by decide +kernel
theorem d44_1 : dd jdk_43_method_3_code 1 (.sipush 255) 3 := by decide +kernel
theorem d44_4 : dd jdk_43_method_3_code 4 (.if_icmp .gt 7) 3 := by decide +kernel
theorem d44_11 : dd jdk_43_method_3_code 11 (.iconst 0) 1 := by decide +kernel
theorem d44_12 : dd jdk_43_method_3_code 12 .ireturn 1 := by decide +kernel
abbrev y_45 : MethodName := ⟨"java/lang/StringLatin1", "canEncode", "(C)Z"⟩
theorem pn_44 : plainFor y_45 = true := by first | exact plainFor_of_name (by first | (simp [plainName, overriddenIn]; done) | decide +kernel) | decide +kernel
theorem ef_rmCen0 (m : MethodId) (ch : Int32) : entryFrame m #[(.int ch)] 1 = mkF m 0 #[si ch] [] := by first | (simp [entryFrame, mkF, argsToLocals, Value.category]; done) | rfl
def Q_rmCen0 (Z : State) (ch : Int32) (h0 : Heap) (n0 : Nat) (v : Option Value) (h : Heap) (L : List Loc) : Prop := v = some (.int 0) ∧ Fr n0 L ∧ h = h0
set_option maxRecDepth 65536 in
set_option maxHeartbeats 40000000 in
theorem rmCen0 (l : Launch) (Z : State) (a0 : Array Value) (hw : ∀ d ∈ tables_1, d.before a0 Z = true) (ws : List Jvm.Cond) (ch : Int32) (h0 : Heap) (n0 : Nat) (Z0 : n0 ≤ h0.size) (hq : (255 : Int32) < ch) :
    MetFree l y_45 (head1 (Jvm.Cond.code y_45 jdk_43_method_3_code 1 (some .boolean) :: ws) ({ frames := 0, cells := 0, slots := 0, locals := 0 } : Room)) (fun a U => a = #[(.int ch)] ∧ Z.Warmed39 U.vm ∧ U.heap = h0) (fun _ _ _ _ _ => True) (fun _ U o U' => ∃ v L, o = .returned v ∧ Q_rmCen0 Z ch h0 n0 v U'.heap L ∧ FrameEnd U o U' L ({ frames := 0, cells := 0, slots := 0, locals := 0 } : Room).cells ({ frames := 0, cells := 0, slots := 0, locals := 0 } : Room).slots) := by
 refine bodyOf pn_44 (fun m => ef_rmCen0 m ch) ?_
 intro p e s m below meth c T0 X0 hx hby hml hown hnm hret hk hZ e0
 have N0 := Fr.nil n0
 have K0 : Keep h0 h0 [] := Keep.refl _ _
 refine go (S' := T0.setTop (mkF m 12 #[si ch] [(.int 0)])) (fun t k => XS.iloadN X0.here hx rfl (hb hby d44_0) rfl (XS.sipush X0.here hx rfl (hb hby d44_1) (XS.icmpYes X0.here hx rfl (pc0 := 4) (pc' := 11) rfl (hb hby d44_4) rfl (tlt hq).2.2.1 (by decide) (by decide) (XS.iconst X0.here hx rfl (hb hby d44_11) k)))) ?_
 refine finN X0 hx hk (t := .boolean) hret (by simp) (hb hby d44_12) (by decide) (by decide) ?_
 rw [e0]
 exact ⟨rfl, N0, rfl⟩
theorem d44_7 : dd jdk_43_method_3_code 7 (.iconst 1) 1 := by decide +kernel
theorem d44_8 : dd jdk_43_method_3_code 8 (.goto 4) 3 := by decide +kernel
theorem ef_rmCen1 (m : MethodId) (ch : Int32) : entryFrame m #[(.int ch)] 1 = mkF m 0 #[si ch] [] := by first | (simp [entryFrame, mkF, argsToLocals, Value.category]; done) | rfl
def Q_rmCen1 (Z : State) (ch : Int32) (h0 : Heap) (n0 : Nat) (v : Option Value) (h : Heap) (L : List Loc) : Prop := v = some (.int 1) ∧ Fr n0 L ∧ h = h0
set_option maxRecDepth 65536 in
set_option maxHeartbeats 40000000 in
theorem rmCen1 (l : Launch) (Z : State) (a0 : Array Value) (hw : ∀ d ∈ tables_1, d.before a0 Z = true) (ws : List Jvm.Cond) (ch : Int32) (h0 : Heap) (n0 : Nat) (Z0 : n0 ≤ h0.size) (hq : ¬ ((255 : Int32) < ch)) :
    MetFree l y_45 (head1 (Jvm.Cond.code y_45 jdk_43_method_3_code 1 (some .boolean) :: ws) ({ frames := 0, cells := 0, slots := 0, locals := 0 } : Room)) (fun a U => a = #[(.int ch)] ∧ Z.Warmed39 U.vm ∧ U.heap = h0) (fun _ _ _ _ _ => True) (fun _ U o U' => ∃ v L, o = .returned v ∧ Q_rmCen1 Z ch h0 n0 v U'.heap L ∧ FrameEnd U o U' L ({ frames := 0, cells := 0, slots := 0, locals := 0 } : Room).cells ({ frames := 0, cells := 0, slots := 0, locals := 0 } : Room).slots) := by
 refine bodyOf pn_44 (fun m => ef_rmCen1 m ch) ?_
 intro p e s m below meth c T0 X0 hx hby hml hown hnm hret hk hZ e0
 have N0 := Fr.nil n0
 have K0 : Keep h0 h0 [] := Keep.refl _ _
 refine go (S' := T0.setTop (mkF m 12 #[si ch] [(.int 1)])) (fun t k => XS.iloadN X0.here hx rfl (hb hby d44_0) rfl (XS.sipush X0.here hx rfl (hb hby d44_1) (XS.icmpNo X0.here hx rfl (hb hby d44_4) rfl (flt hq).2.2.1 (XS.iconst X0.here hx rfl (hb hby d44_7) (XS.goto X0.here hx rfl (pc0 := 8) (pc' := 12) rfl (hb hby d44_8) (by decide) (by decide) k))))) ?_
 refine finN X0 hx hk (t := .boolean) hret (by simp) (hb hby d44_12) (by decide) (by decide) ?_
 rw [e0]
 exact ⟨rfl, N0, rfl⟩
theorem d45_0 : dd jdk_43_method_46_code 0 (.iconst 1) 1 := by decide +kernel
theorem d45_1 : dd jdk_43_method_46_code 1 (.newarray .byte) 2 := by decide +kernel
theorem d45_3 : dd jdk_43_method_46_code 3 .dup 1 := by decide +kernel
theorem d45_4 : dd jdk_43_method_46_code 4 (.iconst 0) 1 := by decide +kernel
theorem d45_5 : dd jdk_43_method_46_code 5 (.iload_n 0) 1 := by decide +kernel
theorem d45_6 : dd jdk_43_method_46_code 6 .i2b 1 := by decide +kernel
theorem d45_7 : dd jdk_43_method_46_code 7 .bastore 1 := by decide +kernel
theorem d45_8 : dd jdk_43_method_46_code 8 .areturn 1 := by decide +kernel
abbrev y_46 : MethodName := ⟨"java/lang/StringLatin1", "toBytes", "(C)[B"⟩
theorem pn_45 : plainFor y_46 = true := by first | exact plainFor_of_name (by first | (simp [plainName, overriddenIn]; done) | decide +kernel) | decide +kernel
theorem ef_rmTb1 (m : MethodId) (ch : Int32) : entryFrame m #[(.int ch)] 1 = mkF m 0 #[si ch] [] := by first | (simp [entryFrame, mkF, argsToLocals, Value.category]; done) | rfl
def Q_rmTb1 (Z : State) (ch : Int32) (h0 : Heap) (n0 : Nat) (v : Option Value) (h : Heap) (L : List Loc) : Prop := ∃ (tv : Addr), ∃ (kb : ClassId), v = some (.ref tv) ∧ Fr n0 L ∧ Keep h0 h [] ∧ (h0.size ≤ tv) ∧ (Arv Z h tv kb .byte (1 : Int32) [(.int (StrChars.lo8 ch))] (.int 0))
set_option maxRecDepth 65536 in
set_option maxHeartbeats 40000000 in
theorem rmTb1 (l : Launch) (Z : State) (a0 : Array Value) (hw : ∀ d ∈ tables_1, d.before a0 Z = true) (ws : List Jvm.Cond) (ch : Int32) (h0 : Heap) (n0 : Nat) (Z0 : n0 ≤ h0.size)  :
    MetFree l y_46 (head1 (Jvm.Cond.code y_46 jdk_43_method_46_code 1 (some (.array .byte)) :: ws) ({ frames := 0, cells := 1, slots := 1, locals := 0 } : Room)) (fun a U => a = #[(.int ch)] ∧ Z.Warmed39 U.vm ∧ U.heap = h0) (fun _ _ _ _ _ => True) (fun _ U o U' => ∃ v L, o = .returned v ∧ Q_rmTb1 Z ch h0 n0 v U'.heap L ∧ FrameEnd U o U' L ({ frames := 0, cells := 1, slots := 1, locals := 0 } : Room).cells ({ frames := 0, cells := 1, slots := 1, locals := 0 } : Room).slots) := by
 refine bodyOf pn_45 (fun m => ef_rmTb1 m ch) ?_
 intro p e s m below meth c T0 X0 hx hby hml hown hnm hret hk hZ e0
 have N0 := Fr.nil n0
 have K0 : Keep h0 h0 [] := Keep.refl _ _
 refine go (S' := T0.setTop (mkF m 1 #[si ch] [(.int 1)])) (fun t k => XS.iconst X0.here hx rfl (hb hby d45_0) k) ?_
 obtain ⟨T468, h468, k468, X468, e468, E468, A468, st468⟩ := newP X0 hx hZ (ww hw 25 rfl) e0 (g := (mkF m 1 #[si ch] [(.int 1)])) rfl (hb hby d45_1) rfl (by decide) (cap := 1) (by decide) (by decide) (by decide) (by decide)
 obtain ⟨b468, g468⟩ : ∃ z, z = h0.size := ⟨_, rfl⟩
 rw [← g468] at A468 st468
 have ge_b468 : n0 ≤ b468 := by rw [g468]; exact (Nat.le_trans Z0 K0.1)
 have sz_b468 : h0.size ≤ b468 := by rw [g468]; exact K0.1
 have K469 : Keep h0 h468 [] := K0.ext E468
 have V468 : Arv Z h468 b468 k468 .byte (1 : Int32) [] (.int 0) := Arv.new A468 (by decide)
 refine go (S' := T468.setTop (mkF m 7 #[si ch] [(.int (ch.toInt8.toInt32)), (.int 0), (.ref b468), (.ref b468)])) (fun t k => st468 _ (XS.dup X468.here hx rfl (hb hby d45_3) rfl rfl (XS.iconst X468.here hx rfl (hb hby d45_4) (XS.iloadN X468.here hx rfl (hb hby d45_5) rfl (XS.i2b X468.here hx rfl (hb hby d45_6) rfl k))))) ?_
 obtain ⟨cl470, Ar470, q470, S470, M470, H470, G470⟩ := id V468
 have hin470 : ¬ ((0 : Int32) < 0 ∨ cl470.slots.size ≤ ((0 : Int32)).toNatClampNeg) := inb_of S470 ⟨by decide, by decide⟩
 obtain ⟨T470, h470, X470, e470, W470, st470⟩ := stB X468 hx hZ e468 Ar470 (j := (0 : Int32)) hin470 (g := (mkF m 7 #[si ch] [(.int (ch.toInt8.toInt32)), (.int 0), (.ref b468), (.ref b468)])) rfl rfl (hb hby d45_7)
 have V470 : Arv Z h470 b468 k468 .byte (1 : Int32) [(.int (StrChars.lo8 ch))] (.int 0) := by
  have q := arvSnoc Ar470 q470 S470 M470 H470 G470 (fits_nar_byte _) W470 rfl
  (first | rw [oj_narb] at q | rw [oj_bb] at q); rw [← StrChars.lo8] at q; exact q
 have K471 : Keep h0 h470 [] := K469.wr W470 (Or.inr sz_b468)
 have N472 := Fr.snoc X470 N0 ge_b468
 refine go (S' := T470.setTop (mkF m 8 #[si ch] [(.ref b468)])) st470 ?_
 refine finR X470 hx hk hret rfl rfl (hb hby d45_8) (by decide) (by decide) ?_
 rw [e470]
 exact ⟨b468, k468, rfl, N472, K471, sz_b468, V470⟩
theorem d47_0 : dd jdk_52_method_24_code 0 (.iconst 2) 1 := by decide +kernel
theorem d47_1 : dd jdk_52_method_24_code 1 (.newarray .byte) 2 := by decide +kernel
theorem d47_3 : dd jdk_52_method_24_code 3 (.astore_n 1) 1 := by decide +kernel
theorem d47_4 : dd jdk_52_method_24_code 4 (.aload_n 1) 1 := by decide +kernel
theorem d47_5 : dd jdk_52_method_24_code 5 (.iconst 0) 1 := by decide +kernel
theorem d47_6 : dd jdk_52_method_24_code 6 (.iload_n 0) 1 := by decide +kernel
theorem d47_7 : dd jdk_52_method_24_code 7 (.invokestatic 111) 3 := by decide +kernel
theorem d47_10 : dd jdk_52_method_24_code 10 (.aload_n 1) 1 := by decide +kernel
theorem d47_11 : dd jdk_52_method_24_code 11 .areturn 1 := by decide +kernel
abbrev y_47 : MethodName := ⟨"java/lang/StringUTF16", "toBytes", "(C)[B"⟩
theorem pn_46 : plainFor y_47 = true := by first | exact plainFor_of_name (by first | (simp [plainName, overriddenIn]; done) | decide +kernel) | decide +kernel
theorem ef_rmTbw (m : MethodId) (ch : Int32) : entryFrame m #[(.int ch)] 2 = mkF m 0 #[si ch, un] [] := by first | (simp [entryFrame, mkF, argsToLocals, Value.category]; done) | rfl
def Q_rmTbw (Z : State) (ch : Int32) (h0 : Heap) (n0 : Nat) (v : Option Value) (h : Heap) (L : List Loc) : Prop := ∃ (tv : Addr), ∃ (kb : ClassId), v = some (.ref tv) ∧ Fr n0 L ∧ Keep h0 h [] ∧ (h0.size ≤ tv) ∧ (Arv Z h tv kb .byte (2 : Int32) [(.int (StrChars.lo8 ch)), (.int (StrChars.hi8 ch))] (.int 0))
set_option maxRecDepth 65536 in
set_option maxHeartbeats 40000000 in
theorem rmTbw (l : Launch) (Z : State) (a0 : Array Value) (hw : ∀ d ∈ tables_1, d.before a0 Z = true) (ws : List Jvm.Cond) (ch : Int32) (h0 : Heap) (n0 : Nat) (Z0 : n0 ≤ h0.size) (hp0 : Sta Z Z.heap "java/lang/StringUTF16" "$assertionsDisabled" "Z" (.int 1)) (hp1 : Sta Z Z.heap "java/lang/StringUTF16" "HI_BYTE_SHIFT" "I" (.int 0)) (hp2 : Sta Z Z.heap "java/lang/StringUTF16" "LO_BYTE_SHIFT" "I" (.int 8)) (hp3 : Old Z n0 h0) :
    MetFree l y_47 (head1 (Jvm.Cond.code y_47 jdk_52_method_24_code 2 (some (.array .byte)) :: ws) ({ frames := 1, cells := 1, slots := 2, locals := 14 } : Room)) (fun a U => a = #[(.int ch)] ∧ Z.Warmed39 U.vm ∧ U.heap = h0) (fun _ _ _ _ _ => True) (fun _ U o U' => ∃ v L, o = .returned v ∧ Q_rmTbw Z ch h0 n0 v U'.heap L ∧ FrameEnd U o U' L ({ frames := 1, cells := 1, slots := 2, locals := 14 } : Room).cells ({ frames := 1, cells := 1, slots := 2, locals := 14 } : Room).slots) := by
 refine bodyOf pn_46 (fun m => ef_rmTbw m ch) ?_
 intro p e s m below meth c T0 X0 hx hby hml hown hnm hret hk hZ e0
 have N0 := Fr.nil n0
 have K0 : Keep h0 h0 [] := Keep.refl _ _
 have O0 := hp3
 refine go (S' := T0.setTop (mkF m 1 #[si ch, un] [(.int 2)])) (fun t k => XS.iconst X0.here hx rfl (hb hby d47_0) k) ?_
 obtain ⟨T473, h473, k473, X473, e473, E473, A473, st473⟩ := newP X0 hx hZ (ww hw 25 rfl) e0 (g := (mkF m 1 #[si ch, un] [(.int 2)])) rfl (hb hby d47_1) rfl (by decide) (cap := 2) (by decide) (by decide) (by decide) (by decide)
 obtain ⟨b473, g473⟩ : ∃ z, z = h0.size := ⟨_, rfl⟩
 rw [← g473] at A473 st473
 have ge_b473 : n0 ≤ b473 := by rw [g473]; exact (Nat.le_trans Z0 K0.1)
 have sz_b473 : h0.size ≤ b473 := by rw [g473]; exact K0.1
 have K474 : Keep h0 h473 [] := K0.ext E473
 have V473 : Arv Z h473 b473 k473 .byte (2 : Int32) [] (.int 0) := Arv.new A473 (by decide)
 refine go (S' := T473.setTop (mkF m 7 #[si ch, sr b473] [(.int ch), (.int 0), (.ref b473)])) (fun t k => st473 _ (XS.astoreN X473.here hx rfl (hb hby d47_3) rfl rfl (l' := #[si ch, sr b473]) rfl (XS.aloadN X473.here hx rfl (hb hby d47_4) rfl rfl (XS.iconst X473.here hx rfl (hb hby d47_5) (XS.iloadN X473.here hx rfl (hb hby d47_6) rfl k))))) ?_
 have O475 : Old Z n0 h473 := O0.keep K474 all0
 obtain ⟨v476, T476, L476, X476, hQ476, st476⟩ := callSt X473 hx hZ (y := y_3) hown (ww hw 263 rfl) (ww hw 264 rfl) (ww hw 23 rfl) (ww hw 265 rfl) (by decide) (backOf (W := 0) (rmPut l Z a0 hw [] b473 (0 : Int32) ch k473 0 1 [] h473 n0 (Nat.le_trans Z0 K474.1) V473 rfl rfl (by decide) (by decide) ge_b473 hp0 hp1 hp2 O475) hZ (ww hw 265 rfl) (ww hw 23 rfl) (by decide) (by decide)) (g := (mkF m 7 #[si ch, sr b473] [(.int ch), (.int 0), (.ref b473)])) rfl (by rw [hml]; rfl) (kc := 0) (ks := 0) (argsL := [(.ref b473), (.int 0), (.int ch)]) (rest := []) (lenOf pd_2 rfl) rfl (mr0 rfl) (hb hby d47_7) e473 (by decide) (by decide)
 obtain ⟨rfl, N476q, Kq476, q476_0⟩ := hQ476
 have N476 := Fr.app N0 N476q
 have K477 : Keep h0 T476.heap [] := K474.trans Kq476 (allS (P := fun x => x ∈ [] ∨ h0.size ≤ x) (Or.inr sz_b473) all0)
 refine go (S' := T476.setTop (mkF m 11 #[si ch, sr b473] [(.ref b473)])) (fun t k => st476 _ (XS.aloadN X476.here hx rfl (hb hby d47_10) rfl rfl k)) ?_
 refine finR X476 hx hk hret rfl rfl (hb hby d47_11) (by decide) (by decide) ?_
 exact ⟨b473, k473, rfl, N476, K477, sz_b473, q476_0⟩
theorem d46_0 : dd jdk_42_method_151_code 0 (.aload_n 0) 1 := by decide +kernel
theorem d46_1 : dd jdk_42_method_151_code 1 (.invokespecial 1) 3 := by decide +kernel
theorem d46_4 : dd jdk_42_method_151_code 4 (.aload_n 0) 1 := by decide +kernel
theorem d46_5 : dd jdk_42_method_151_code 5 (.aload_n 1) 1 := by decide +kernel
theorem d46_6 : dd jdk_42_method_151_code 6 (.putfield 9) 3 := by decide +kernel
theorem d46_9 : dd jdk_42_method_151_code 9 (.aload_n 0) 1 := by decide +kernel
theorem d46_10 : dd jdk_42_method_151_code 10 (.iload_n 2) 1 := by decide +kernel
theorem d46_11 : dd jdk_42_method_151_code 11 (.putfield 15) 3 := by decide +kernel
theorem d46_14 : dd jdk_42_method_151_code 14 .return_ 1 := by decide +kernel
abbrev y_48 : MethodName := ⟨"java/lang/String", "<init>", "([BB)V"⟩
theorem pn_47 : plainFor y_48 = true := by first | exact plainFor_of_name (by first | (simp [plainName, overriddenIn]; done) | decide +kernel) | decide +kernel
theorem ef_rmIb0 (m : MethodId) (x1 : Addr) (tv : Addr) : entryFrame m #[(.ref x1), (.ref tv), (.int 0)] 3 = mkF m 0 #[sr x1, sr tv, si 0] [] := by first | (simp [entryFrame, mkF, argsToLocals, Value.category]; done) | rfl
def Q_rmIb0 (Z : State) (x1 : Addr) (tv : Addr) (h0 : Heap) (n0 : Nat) (v : Option Value) (h : Heap) (L : List Loc) : Prop := v = none ∧ Fr n0 L ∧ Keep h0 h [x1] ∧ (Fld Z h x1 "java/lang/String" "value" "[B" (.ref tv)) ∧ (Fld Z h x1 "java/lang/String" "coder" "B" (.int 0))
set_option maxRecDepth 65536 in
set_option maxHeartbeats 40000000 in
theorem rmIb0 (l : Launch) (Z : State) (a0 : Array Value) (hw : ∀ d ∈ tables_1, d.before a0 Z = true) (ws : List Jvm.Cond) (x1 : Addr) (tv : Addr) (h0 : Heap) (n0 : Nat) (Z0 : n0 ≤ h0.size) (hp0 : Exa Z h0 x1 "java/lang/String") (hp1 : Fld Z h0 x1 "java/lang/String" "value" "[B" .null) (hp2 : Fld Z h0 x1 "java/lang/String" "coder" "B" (.int 0)) (hp3 : n0 ≤ x1) :
    MetFree l y_48 (head1 (Jvm.Cond.code y_48 jdk_42_method_151_code 3 none :: ws) ({ frames := 1, cells := 0, slots := 0, locals := 12 } : Room)) (fun a U => a = #[(.ref x1), (.ref tv), (.int 0)] ∧ Z.Warmed39 U.vm ∧ U.heap = h0) (fun _ _ _ _ _ => True) (fun _ U o U' => ∃ v L, o = .returned v ∧ Q_rmIb0 Z x1 tv h0 n0 v U'.heap L ∧ FrameEnd U o U' L ({ frames := 1, cells := 0, slots := 0, locals := 12 } : Room).cells ({ frames := 1, cells := 0, slots := 0, locals := 12 } : Room).slots) := by
 refine bodyOf pn_47 (fun m => ef_rmIb0 m x1 tv) ?_
 intro p e s m below meth c T0 X0 hx hby hml hown hnm hret hk hZ e0
 have N0 := Fr.nil n0
 have K0 : Keep h0 h0 [x1] := Keep.refl _ _
 refine go (S' := T0.setTop (mkF m 1 #[sr x1, sr tv, si 0] [(.ref x1)])) (fun t k => XS.aloadN X0.here hx rfl (hb hby d46_0) rfl rfl k) ?_
 obtain ⟨T478, X478, e478, st478⟩ := initO X0 hx hZ hown (ww hw 17 rfl) (ww hw 18 rfl) (ww hw 19 rfl) e0 (g := (mkF m 1 #[sr x1, sr tv, si 0] [(.ref x1)])) rfl (by rw [hml]; rfl) rfl (hb hby d46_1) (by decide) (W := 0) (mr0 rfl) (by decide)
 refine go (S' := T478.setTop (mkF m 6 #[sr x1, sr tv, si 0] [(.ref tv), (.ref x1)])) (fun t k => st478 _ (XS.aloadN X478.here hx rfl (hb hby d46_4) rfl rfl (XS.aloadN X478.here hx rfl (hb hby d46_5) rfl rfl k))) ?_
 obtain ⟨T479, h479, X479, e479, W479, st479⟩ := putF X478 hx hZ hown (host := "") (Or.inl (ww hw 34 rfl)) Via.refl e478 hp1 hp0 (Or.inr ⟨(ww hw 35 rfl), rfl, hnm⟩) (ww hw 7 rfl) (ty := (.array .byte)) (by decide) rfl rfl (g := (mkF m 6 #[sr x1, sr tv, si 0] [(.ref tv), (.ref x1)])) rfl rfl (hb hby d46_6)
 have K480 : Keep h0 h479 [x1] := K0.wr W479 (Or.inl (List.mem_of_getElem? (i := 0) rfl))
 have N481 := Fr.snoc X479 N0 hp3
 have f482 : Fld Z h479 x1 "java/lang/String" "value" "[B" (.ref tv) := (Fld.same W479 hp1)
 refine go (S' := T479.setTop (mkF m 11 #[sr x1, sr tv, si 0] [(.int 0), (.ref x1)])) (fun t k => st479 _ (XS.aloadN X479.here hx rfl (hb hby d46_9) rfl rfl (XS.iloadN X479.here hx rfl (hb hby d46_10) rfl k))) ?_
 have f483 : Fld Z h479 x1 "java/lang/String" "coder" "B" (.int 0) := (Fld.other W479 hp2 (Or.inr (slot_ne (Or.inr (ww hw 33 rfl)) (Or.inr (ww hw 35 rfl)) (by decide) (t := .byte) (t' := (.array .byte)) (by decide) (by decide))))
 obtain ⟨T484, h484, X484, e484, W484, st484⟩ := putF X479 hx hZ hown (host := "") (Or.inl (ww hw 32 rfl)) Via.refl e479 f483 (hp0.keep K480) (Or.inr ⟨(ww hw 33 rfl), rfl, hnm⟩) (ww hw 7 rfl) (ty := .byte) (by decide) (by decide) (by decide) (g := (mkF m 11 #[sr x1, sr tv, si 0] [(.int 0), (.ref x1)])) rfl rfl (hb hby d46_11)
 have K485 : Keep h0 h484 [x1] := K480.wr W484 (Or.inl (List.mem_of_getElem? (i := 0) rfl))
 have N486 := Fr.snoc X484 N481 hp3
 have f487 : Fld Z h484 x1 "java/lang/String" "coder" "B" (.int 0) := (Fld.same W484 f483)
 refine go (S' := T484.setTop (mkF m 14 #[sr x1, sr tv, si 0] [])) st484 ?_
 refine finV X484 hx hk hret (hb hby d46_14) (by decide) (by decide) ?_
 have f488 : Fld Z h484 x1 "java/lang/String" "value" "[B" (.ref tv) := (Fld.other W484 f482 (Or.inr (slot_ne (Or.inr (ww hw 35 rfl)) (Or.inr (ww hw 33 rfl)) (by decide) (t := (.array .byte)) (t' := .byte) (by decide) (by decide))))
 rw [e484]
 exact ⟨rfl, N486, K485, f488, f487⟩
theorem ef_rmIb1 (m : MethodId) (x1 : Addr) (tv : Addr) : entryFrame m #[(.ref x1), (.ref tv), (.int 1)] 3 = mkF m 0 #[sr x1, sr tv, si 1] [] := by first | (simp [entryFrame, mkF, argsToLocals, Value.category]; done) | rfl
def Q_rmIb1 (Z : State) (x1 : Addr) (tv : Addr) (h0 : Heap) (n0 : Nat) (v : Option Value) (h : Heap) (L : List Loc) : Prop := v = none ∧ Fr n0 L ∧ Keep h0 h [x1] ∧ (Fld Z h x1 "java/lang/String" "value" "[B" (.ref tv)) ∧ (Fld Z h x1 "java/lang/String" "coder" "B" (.int 1))
set_option maxRecDepth 65536 in
set_option maxHeartbeats 40000000 in
theorem rmIb1 (l : Launch) (Z : State) (a0 : Array Value) (hw : ∀ d ∈ tables_1, d.before a0 Z = true) (ws : List Jvm.Cond) (x1 : Addr) (tv : Addr) (h0 : Heap) (n0 : Nat) (Z0 : n0 ≤ h0.size) (hp0 : Exa Z h0 x1 "java/lang/String") (hp1 : Fld Z h0 x1 "java/lang/String" "value" "[B" .null) (hp2 : Fld Z h0 x1 "java/lang/String" "coder" "B" (.int 0)) (hp3 : n0 ≤ x1) :
    MetFree l y_48 (head1 (Jvm.Cond.code y_48 jdk_42_method_151_code 3 none :: ws) ({ frames := 1, cells := 0, slots := 0, locals := 12 } : Room)) (fun a U => a = #[(.ref x1), (.ref tv), (.int 1)] ∧ Z.Warmed39 U.vm ∧ U.heap = h0) (fun _ _ _ _ _ => True) (fun _ U o U' => ∃ v L, o = .returned v ∧ Q_rmIb1 Z x1 tv h0 n0 v U'.heap L ∧ FrameEnd U o U' L ({ frames := 1, cells := 0, slots := 0, locals := 12 } : Room).cells ({ frames := 1, cells := 0, slots := 0, locals := 12 } : Room).slots) := by
 refine bodyOf pn_47 (fun m => ef_rmIb1 m x1 tv) ?_
 intro p e s m below meth c T0 X0 hx hby hml hown hnm hret hk hZ e0
 have N0 := Fr.nil n0
 have K0 : Keep h0 h0 [x1] := Keep.refl _ _
 refine go (S' := T0.setTop (mkF m 1 #[sr x1, sr tv, si 1] [(.ref x1)])) (fun t k => XS.aloadN X0.here hx rfl (hb hby d46_0) rfl rfl k) ?_
 obtain ⟨T489, X489, e489, st489⟩ := initO X0 hx hZ hown (ww hw 17 rfl) (ww hw 18 rfl) (ww hw 19 rfl) e0 (g := (mkF m 1 #[sr x1, sr tv, si 1] [(.ref x1)])) rfl (by rw [hml]; rfl) rfl (hb hby d46_1) (by decide) (W := 0) (mr0 rfl) (by decide)
 refine go (S' := T489.setTop (mkF m 6 #[sr x1, sr tv, si 1] [(.ref tv), (.ref x1)])) (fun t k => st489 _ (XS.aloadN X489.here hx rfl (hb hby d46_4) rfl rfl (XS.aloadN X489.here hx rfl (hb hby d46_5) rfl rfl k))) ?_
 obtain ⟨T490, h490, X490, e490, W490, st490⟩ := putF X489 hx hZ hown (host := "") (Or.inl (ww hw 34 rfl)) Via.refl e489 hp1 hp0 (Or.inr ⟨(ww hw 35 rfl), rfl, hnm⟩) (ww hw 7 rfl) (ty := (.array .byte)) (by decide) rfl rfl (g := (mkF m 6 #[sr x1, sr tv, si 1] [(.ref tv), (.ref x1)])) rfl rfl (hb hby d46_6)
 have K491 : Keep h0 h490 [x1] := K0.wr W490 (Or.inl (List.mem_of_getElem? (i := 0) rfl))
 have N492 := Fr.snoc X490 N0 hp3
 have f493 : Fld Z h490 x1 "java/lang/String" "value" "[B" (.ref tv) := (Fld.same W490 hp1)
 refine go (S' := T490.setTop (mkF m 11 #[sr x1, sr tv, si 1] [(.int 1), (.ref x1)])) (fun t k => st490 _ (XS.aloadN X490.here hx rfl (hb hby d46_9) rfl rfl (XS.iloadN X490.here hx rfl (hb hby d46_10) rfl k))) ?_
 have f494 : Fld Z h490 x1 "java/lang/String" "coder" "B" (.int 0) := (Fld.other W490 hp2 (Or.inr (slot_ne (Or.inr (ww hw 33 rfl)) (Or.inr (ww hw 35 rfl)) (by decide) (t := .byte) (t' := (.array .byte)) (by decide) (by decide))))
 obtain ⟨T495, h495, X495, e495, W495, st495⟩ := putF X490 hx hZ hown (host := "") (Or.inl (ww hw 32 rfl)) Via.refl e490 f494 (hp0.keep K491) (Or.inr ⟨(ww hw 33 rfl), rfl, hnm⟩) (ww hw 7 rfl) (ty := .byte) (by decide) (by decide) (by decide) (g := (mkF m 11 #[sr x1, sr tv, si 1] [(.int 1), (.ref x1)])) rfl rfl (hb hby d46_11)
 have K496 : Keep h0 h495 [x1] := K491.wr W495 (Or.inl (List.mem_of_getElem? (i := 0) rfl))
 have N497 := Fr.snoc X495 N492 hp3
 have f498 : Fld Z h495 x1 "java/lang/String" "coder" "B" (.int 1) := (Fld.same W495 f494)
 refine go (S' := T495.setTop (mkF m 14 #[sr x1, sr tv, si 1] [])) st495 ?_
 refine finV X495 hx hk hret (hb hby d46_14) (by decide) (by decide) ?_
 have f499 : Fld Z h495 x1 "java/lang/String" "value" "[B" (.ref tv) := (Fld.other W495 f493 (Or.inr (slot_ne (Or.inr (ww hw 35 rfl)) (Or.inr (ww hw 33 rfl)) (by decide) (t := (.array .byte)) (t' := .byte) (by decide) (by decide))))
 rw [e495]
 exact ⟨rfl, N497, K496, f499, f498⟩
theorem d43_0 : dd jdk_42_method_139_code 0 (.getstatic 38) 3 := by decide +kernel
theorem d43_3 : dd jdk_42_method_139_code 3 (.ifCond .eq 23) 3 := by decide +kernel
theorem d43_6 : dd jdk_42_method_139_code 6 (.iload_n 0) 1 := by decide +kernel
theorem d43_7 : dd jdk_42_method_139_code 7 (.invokestatic 1015) 3 := by decide +kernel
theorem pd_30 : parseMethodDescriptor "(C)Z" = some ⟨[.char], some .boolean⟩ := by decide +kernel
theorem d43_10 : dd jdk_42_method_139_code 10 (.ifCond .eq 16) 3 := by decide +kernel
theorem d43_26 : dd jdk_42_method_139_code 26 (.new 10) 3 := by decide +kernel
theorem d43_29 : dd jdk_42_method_139_code 29 .dup 1 := by decide +kernel
theorem d43_30 : dd jdk_42_method_139_code 30 (.iload_n 0) 1 := by decide +kernel
theorem d43_31 : dd jdk_42_method_139_code 31 (.invokestatic 1021) 3 := by decide +kernel
theorem pd_31 : parseMethodDescriptor "(C)[B" = some ⟨[.char], some (.array .byte)⟩ := by decide +kernel
theorem d43_34 : dd jdk_42_method_139_code 34 (.iconst 1) 1 := by decide +kernel
theorem d43_35 : dd jdk_42_method_139_code 35 (.invokespecial 209) 3 := by decide +kernel
theorem pd_32 : parseMethodDescriptor "([BB)V" = some ⟨[(.array .byte), .byte], none⟩ := by decide +kernel
theorem d43_38 : dd jdk_42_method_139_code 38 .areturn 1 := by decide +kernel
theorem d43_13 : dd jdk_42_method_139_code 13 (.new 10) 3 := by decide +kernel
theorem d43_16 : dd jdk_42_method_139_code 16 .dup 1 := by decide +kernel
theorem d43_17 : dd jdk_42_method_139_code 17 (.iload_n 0) 1 := by decide +kernel
theorem d43_18 : dd jdk_42_method_139_code 18 (.invokestatic 1018) 3 := by decide +kernel
theorem d43_21 : dd jdk_42_method_139_code 21 (.iconst 0) 1 := by decide +kernel
theorem d43_22 : dd jdk_42_method_139_code 22 (.invokespecial 209) 3 := by decide +kernel
theorem d43_25 : dd jdk_42_method_139_code 25 .areturn 1 := by decide +kernel
abbrev y_49 : MethodName := ⟨"java/lang/String", "valueOf", "(C)Ljava/lang/String;"⟩
theorem pn_48 : plainFor y_49 = true := by first | exact plainFor_of_name (by first | (simp [plainName, overriddenIn]; done) | decide +kernel) | decide +kernel
theorem ef_rmVof (m : MethodId) (ch : Int32) : entryFrame m #[(.int ch)] 1 = mkF m 0 #[si ch] [] := by first | (simp [entryFrame, mkF, argsToLocals, Value.category]; done) | rfl
def Q_rmVof (Z : State) (ch : Int32) (G1 : Int32) (h0 : Heap) (n0 : Nat) (v : Option Value) (h : Heap) (L : List Loc) : Prop := ∃ (x : Addr), ∃ (tv : Addr), ∃ (cd : Int32), v = some (.ref x) ∧ Fr n0 L ∧ Keep h0 h [] ∧ (h0.size ≤ x) ∧ (Str Z h x tv cd ([ch] : List Int32))
set_option maxRecDepth 65536 in
set_option maxHeartbeats 40000000 in
theorem rmVof (l : Launch) (Z : State) (a0 : Array Value) (hw : ∀ d ∈ tables_1, d.before a0 Z = true) (ws : List Jvm.Cond) (ch : Int32) (G1 : Int32) (h0 : Heap) (n0 : Nat) (Z0 : n0 ≤ h0.size) (hch : ¬ ch < 0 ∧ ¬ (65535 : Int32) < ch) (hp1 : Sta Z Z.heap "java/lang/String" "COMPACT_STRINGS" "Z" (.int G1)) (hG1 : ¬ (G1 = (0 : Int32))) (hp3 : Sta Z Z.heap "java/lang/StringUTF16" "$assertionsDisabled" "Z" (.int 1)) (hp4 : Sta Z Z.heap "java/lang/StringUTF16" "HI_BYTE_SHIFT" "I" (.int 0)) (hp5 : Sta Z Z.heap "java/lang/StringUTF16" "LO_BYTE_SHIFT" "I" (.int 8)) (hp6 : Old Z n0 h0) :
    MetFree l y_49 (head1 (Jvm.Cond.code y_49 jdk_42_method_139_code 1 (some (.object "java/lang/String")) :: ws) ({ frames := 2, cells := 2, slots := 6, locals := 29 } : Room)) (fun a U => a = #[(.int ch)] ∧ Z.Warmed39 U.vm ∧ U.heap = h0) (fun _ _ _ _ _ => True) (fun _ U o U' => ∃ v L, o = .returned v ∧ Q_rmVof Z ch G1 h0 n0 v U'.heap L ∧ FrameEnd U o U' L ({ frames := 2, cells := 2, slots := 6, locals := 29 } : Room).cells ({ frames := 2, cells := 2, slots := 6, locals := 29 } : Room).slots) := by
 refine bodyOf pn_48 (fun m => ef_rmVof m ch) ?_
 intro p e s m below meth c T0 X0 hx hby hml hown hnm hret hk hZ e0
 have N0 := Fr.nil n0
 have K0 : Keep h0 h0 [] := Keep.refl _ _
 have O0 := hp6
 by_cases hq : (255 : Int32) < ch
 ·
  have O501 : Old Z n0 h0 := O0.keep K0 all0
  obtain ⟨T500, X500, e500, st500⟩ := getS2 X0 hx hZ hown (host := "") (Or.inl (ww hw 20 rfl)) Via.refl e0 (hp1.ext O501.2) (g := (mkF m 0 #[si ch] [])) rfl (hb hby d43_0)
  refine go (S' := T500.setTop (mkF m 7 #[si ch] [(.int ch)])) (fun t k => st500 _ (XS.ifNo X500.here hx rfl (hb hby d43_3) rfl ((if0 _ _).trans (feq hG1).1) (XS.iloadN X500.here hx rfl (hb hby d43_6) rfl k))) ?_
  obtain ⟨v502, T502, L502, X502, hQ502, st502⟩ := callSt X500 hx hZ (y := y_45) hown (ww hw 250 rfl) (ww hw 251 rfl) (ww hw 237 rfl) (ww hw 252 rfl) (by decide) (backOf (W := 0) (rmCen0 l Z a0 hw [] ch h0 n0 (Nat.le_trans Z0 K0.1) hq) hZ (ww hw 252 rfl) (ww hw 237 rfl) (by decide) (by decide)) (g := (mkF m 7 #[si ch] [(.int ch)])) rfl (by rw [hml]; rfl) (kc := 0) (ks := 0) (argsL := [(.int ch)]) (rest := []) (lenOf pd_30 rfl) rfl (mr0 rfl) (hb hby d43_7) e500 (by decide) (by decide)
  obtain ⟨rfl, N502q, e502⟩ := hQ502
  have N502 := Fr.app N0 N502q
  refine go (S' := T502.setTop (mkF m 10 #[si ch] [(.int 0)])) st502 ?_
  have hc503 : (0 : Int32) = (0 : Int32) := by decide
  refine go (S' := T502.setTop (mkF m 26 #[si ch] [])) (fun t k => XS.ifYes X502.here hx rfl (pc0 := 10) (pc' := 26) rfl (hb hby d43_10) rfl ((if0 _ _).trans (teq hc503).1) (by decide) (by decide) k) ?_
  obtain ⟨T504, h504, X504, e504, E504, A504, D504, -, st504⟩ := newO X502 hx hZ hown (ww hw 253 rfl) (ww hw 7 rfl) (ww hw 8 rfl) e502 (g := (mkF m 26 #[si ch] [])) rfl (hb hby d43_26) (by decide) (by decide)
  obtain ⟨b504, g504⟩ : ∃ z, z = h0.size := ⟨_, rfl⟩
  rw [← g504] at A504 D504 st504
  have ge_b504 : n0 ≤ b504 := by rw [g504]; exact (Nat.le_trans Z0 K0.1)
  have sz_b504 : h0.size ≤ b504 := by rw [g504]; exact K0.1
  have K505 : Keep h0 h504 [] := K0.ext E504
  refine go (S' := T504.setTop (mkF m 31 #[si ch] [(.int ch), (.ref b504), (.ref b504)])) (fun t k => st504 _ (XS.dup X504.here hx rfl (hb hby d43_29) rfl rfl (XS.iloadN X504.here hx rfl (hb hby d43_30) rfl k))) ?_
  have O506 : Old Z n0 h504 := O0.keep K505 all0
  obtain ⟨v507, T507, L507, X507, hQ507, st507⟩ := callSt X504 hx hZ (y := y_47) hown (ww hw 260 rfl) (ww hw 261 rfl) (ww hw 23 rfl) (ww hw 262 rfl) (by decide) (backOf (W := 2) (rmTbw l Z a0 hw [] ch h504 n0 (Nat.le_trans Z0 K505.1) hp3 hp4 hp5 O506) hZ (ww hw 262 rfl) (ww hw 23 rfl) (by decide) (by decide)) (g := (mkF m 31 #[si ch] [(.int ch), (.ref b504), (.ref b504)])) rfl (by rw [hml]; rfl) (kc := 1) (ks := 2) (argsL := [(.int ch)]) (rest := [(.ref b504), (.ref b504)]) (lenOf pd_31 rfl) rfl (mr0 rfl) (hb hby d43_31) e504 (by decide) (by decide)
  obtain ⟨tv_507, kb_507, rfl, N507q, Kq507, q507_0, q507_1⟩ := hQ507
  have N507 := Fr.app N502 N507q
  have K508 : Keep h0 T507.heap [] := K505.trans Kq507 all0
  have lt_b504_tv_507 : b504 < tv_507 := Nat.lt_of_lt_of_le A504.lt q507_0
  have sz_tv_507 : h0.size ≤ tv_507 := Nat.le_trans K505.1 q507_0
  have ge_tv_507 : n0 ≤ tv_507 := Nat.le_trans Z0 sz_tv_507
  refine go (S' := T507.setTop (mkF m 35 #[si ch] [(.int 1), (.ref tv_507), (.ref b504), (.ref b504)])) (fun t k => st507 _ (XS.iconst X507.here hx rfl (hb hby d43_34) k)) ?_
  have f509 : Exa Z T507.heap b504 "java/lang/String" := (A504.keep Kq507)
  have f510 : Fld Z T507.heap b504 "java/lang/String" "value" "[B" .null := ((D504 (Or.inr (ww hw 35 rfl)) (ty := (.array .byte)) (by decide)).keep Kq507 nin0)
  have f511 : Fld Z T507.heap b504 "java/lang/String" "coder" "B" (.int 0) := ((D504 (Or.inr (ww hw 33 rfl)) (ty := .byte) (by decide)).keep Kq507 nin0)
  obtain ⟨v512, T512, L512, X512, hQ512, st512⟩ := callSp X507 hx hZ (y := y_48) rfl hown (ww hw 257 rfl) (ww hw 258 rfl) (ww hw 259 rfl) (by decide) (backOf (W := 1) (rmIb1 l Z a0 hw [] b504 tv_507 T507.heap n0 (Nat.le_trans Z0 K508.1) f509 f510 f511 ge_b504) hZ (ww hw 259 rfl) (ww hw 8 rfl) (by decide) (by decide)) (g := (mkF m 35 #[si ch] [(.int 1), (.ref tv_507), (.ref b504), (.ref b504)])) rfl (by rw [hml]; rfl) (a := b504) (kc := 0) (ks := 0) (argsL := [(.ref tv_507), (.int 1)]) (rest := [(.ref b504)]) (lenOf pd_32 rfl) rfl (mr0 rfl) (hb hby d43_35) rfl (by decide) (by decide)
  obtain ⟨rfl, N512q, Kq512, q512_0, q512_1⟩ := hQ512
  have N512 := Fr.app N507 N512q
  have K513 : Keep h0 T512.heap [] := K508.trans Kq512 (allS (P := fun x => x ∈ [] ∨ h0.size ≤ x) (Or.inr sz_b504) all0)
  refine go (S' := T512.setTop (mkF m 38 #[si ch] [(.ref b504)])) st512 ?_
  refine finR X512 hx hk hret rfl rfl (hb hby d43_38) (by decide) (by decide) ?_
  have f514 : Exa Z T512.heap b504 "java/lang/String" := (f509.keep Kq512)
  have f515 : Arv Z T512.heap tv_507 kb_507 .byte (2 : Int32) [(.int (StrChars.lo8 ch)), (.int (StrChars.hi8 ch))] (.int 0) := (q507_1.keep Kq512 (ninS (Nat.ne_of_gt lt_b504_tv_507) nin0))
  exact ⟨b504, tv_507, 1, rfl, N512, K513, sz_b504, ⟨_, _, _, f514, q512_0, q512_1, f515, Or.inr ⟨rfl, rfl, rfl, ch, List.mem_singleton.mpr rfl, hq⟩, (allI hch (fun _ q => nomatch q)), Nat.le_of_ble_eq_true rfl⟩⟩
 ·
  have O517 : Old Z n0 h0 := O0.keep K0 all0
  obtain ⟨T516, X516, e516, st516⟩ := getS2 X0 hx hZ hown (host := "") (Or.inl (ww hw 20 rfl)) Via.refl e0 (hp1.ext O517.2) (g := (mkF m 0 #[si ch] [])) rfl (hb hby d43_0)
  refine go (S' := T516.setTop (mkF m 7 #[si ch] [(.int ch)])) (fun t k => st516 _ (XS.ifNo X516.here hx rfl (hb hby d43_3) rfl ((if0 _ _).trans (feq hG1).1) (XS.iloadN X516.here hx rfl (hb hby d43_6) rfl k))) ?_
  obtain ⟨v518, T518, L518, X518, hQ518, st518⟩ := callSt X516 hx hZ (y := y_45) hown (ww hw 250 rfl) (ww hw 251 rfl) (ww hw 237 rfl) (ww hw 252 rfl) (by decide) (backOf (W := 0) (rmCen1 l Z a0 hw [] ch h0 n0 (Nat.le_trans Z0 K0.1) hq) hZ (ww hw 252 rfl) (ww hw 237 rfl) (by decide) (by decide)) (g := (mkF m 7 #[si ch] [(.int ch)])) rfl (by rw [hml]; rfl) (kc := 0) (ks := 0) (argsL := [(.int ch)]) (rest := []) (lenOf pd_30 rfl) rfl (mr0 rfl) (hb hby d43_7) e516 (by decide) (by decide)
  obtain ⟨rfl, N518q, e518⟩ := hQ518
  have N518 := Fr.app N0 N518q
  refine go (S' := T518.setTop (mkF m 10 #[si ch] [(.int 1)])) st518 ?_
  have hc519 : ¬ ((1 : Int32) = (0 : Int32)) := by decide
  refine go (S' := T518.setTop (mkF m 13 #[si ch] [])) (fun t k => XS.ifNo X518.here hx rfl (hb hby d43_10) rfl ((if0 _ _).trans (feq hc519).1) k) ?_
  obtain ⟨T520, h520, X520, e520, E520, A520, D520, -, st520⟩ := newO X518 hx hZ hown (ww hw 253 rfl) (ww hw 7 rfl) (ww hw 8 rfl) e518 (g := (mkF m 13 #[si ch] [])) rfl (hb hby d43_13) (by decide) (by decide)
  obtain ⟨b520, g520⟩ : ∃ z, z = h0.size := ⟨_, rfl⟩
  rw [← g520] at A520 D520 st520
  have ge_b520 : n0 ≤ b520 := by rw [g520]; exact (Nat.le_trans Z0 K0.1)
  have sz_b520 : h0.size ≤ b520 := by rw [g520]; exact K0.1
  have K521 : Keep h0 h520 [] := K0.ext E520
  refine go (S' := T520.setTop (mkF m 18 #[si ch] [(.int ch), (.ref b520), (.ref b520)])) (fun t k => st520 _ (XS.dup X520.here hx rfl (hb hby d43_16) rfl rfl (XS.iloadN X520.here hx rfl (hb hby d43_17) rfl k))) ?_
  obtain ⟨v522, T522, L522, X522, hQ522, st522⟩ := callSt X520 hx hZ (y := y_46) hown (ww hw 254 rfl) (ww hw 255 rfl) (ww hw 237 rfl) (ww hw 256 rfl) (by decide) (backOf (W := 2) (rmTb1 l Z a0 hw [] ch h520 n0 (Nat.le_trans Z0 K521.1) ) hZ (ww hw 256 rfl) (ww hw 237 rfl) (by decide) (by decide)) (g := (mkF m 18 #[si ch] [(.int ch), (.ref b520), (.ref b520)])) rfl (by rw [hml]; rfl) (kc := 1) (ks := 1) (argsL := [(.int ch)]) (rest := [(.ref b520), (.ref b520)]) (lenOf pd_31 rfl) rfl (mr0 rfl) (hb hby d43_18) e520 (by decide) (by decide)
  obtain ⟨tv_522, kb_522, rfl, N522q, Kq522, q522_0, q522_1⟩ := hQ522
  have N522 := Fr.app N518 N522q
  have K523 : Keep h0 T522.heap [] := K521.trans Kq522 all0
  have lt_b520_tv_522 : b520 < tv_522 := Nat.lt_of_lt_of_le A520.lt q522_0
  have sz_tv_522 : h0.size ≤ tv_522 := Nat.le_trans K521.1 q522_0
  have ge_tv_522 : n0 ≤ tv_522 := Nat.le_trans Z0 sz_tv_522
  refine go (S' := T522.setTop (mkF m 22 #[si ch] [(.int 0), (.ref tv_522), (.ref b520), (.ref b520)])) (fun t k => st522 _ (XS.iconst X522.here hx rfl (hb hby d43_21) k)) ?_
  have f524 : Exa Z T522.heap b520 "java/lang/String" := (A520.keep Kq522)
  have f525 : Fld Z T522.heap b520 "java/lang/String" "value" "[B" .null := ((D520 (Or.inr (ww hw 35 rfl)) (ty := (.array .byte)) (by decide)).keep Kq522 nin0)
  have f526 : Fld Z T522.heap b520 "java/lang/String" "coder" "B" (.int 0) := ((D520 (Or.inr (ww hw 33 rfl)) (ty := .byte) (by decide)).keep Kq522 nin0)
  obtain ⟨v527, T527, L527, X527, hQ527, st527⟩ := callSp X522 hx hZ (y := y_48) rfl hown (ww hw 257 rfl) (ww hw 258 rfl) (ww hw 259 rfl) (by decide) (backOf (W := 1) (rmIb0 l Z a0 hw [] b520 tv_522 T522.heap n0 (Nat.le_trans Z0 K523.1) f524 f525 f526 ge_b520) hZ (ww hw 259 rfl) (ww hw 8 rfl) (by decide) (by decide)) (g := (mkF m 22 #[si ch] [(.int 0), (.ref tv_522), (.ref b520), (.ref b520)])) rfl (by rw [hml]; rfl) (a := b520) (kc := 0) (ks := 0) (argsL := [(.ref tv_522), (.int 0)]) (rest := [(.ref b520)]) (lenOf pd_32 rfl) rfl (mr0 rfl) (hb hby d43_22) rfl (by decide) (by decide)
  obtain ⟨rfl, N527q, Kq527, q527_0, q527_1⟩ := hQ527
  have N527 := Fr.app N522 N527q
  have K528 : Keep h0 T527.heap [] := K523.trans Kq527 (allS (P := fun x => x ∈ [] ∨ h0.size ≤ x) (Or.inr sz_b520) all0)
  refine go (S' := T527.setTop (mkF m 25 #[si ch] [(.ref b520)])) st527 ?_
  refine finR X527 hx hk hret rfl rfl (hb hby d43_25) (by decide) (by decide) ?_
  have f529 : Exa Z T527.heap b520 "java/lang/String" := (f524.keep Kq527)
  have f530 : Arv Z T527.heap tv_522 kb_522 .byte (1 : Int32) [(.int (StrChars.lo8 ch))] (.int 0) := (q522_1.keep Kq527 (ninS (Nat.ne_of_gt lt_b520_tv_522) nin0))
  exact ⟨b520, tv_522, 0, rfl, N527, K528, sz_b520, ⟨_, _, _, f529, q527_0, q527_1, f530, Or.inl ⟨rfl, rfl, rfl, (allI hq (fun _ q => nomatch q))⟩, (allI hch (fun _ q => nomatch q)), Nat.le_of_ble_eq_true rfl⟩⟩
def own_Rel (pn c0 c1 : Int32) (cs : List Int32) : Prop := (pn = 0 ∧ cs = []) ∨ (pn = 1 ∧ cs = [c0]) ∨ (pn = 2 ∧ cs = [c0, c1])
theorem own_Rlen {pn c0 c1 : Int32} {cs : List Int32} (h : own_Rel pn c0 c1 cs) : cs.length ≤ 2 := by
  rcases h with ⟨-, rfl⟩ | ⟨-, rfl⟩ | ⟨-, rfl⟩ <;> exact Nat.le_of_ble_eq_true rfl
theorem d1_0 : dd method_2_code 0 (.iload_n 0) 1 := by decide +kernel
theorem d1_1 : dd method_2_code 1 (.ifCond .ne 14) 3 := by decide +kernel
theorem d1_4 : dd method_2_code 4 (.new 7) 3 := by decide +kernel
theorem d1_7 : dd method_2_code 7 .dup 1 := by decide +kernel
theorem d1_8 : dd method_2_code 8 (.iconst 0) 1 := by decide +kernel
theorem d1_9 : dd method_2_code 9 (.newarray .char) 2 := by decide +kernel
theorem d1_11 : dd method_2_code 11 (.invokespecial 9) 3 := by decide +kernel
theorem pd_33 : parseMethodDescriptor "([C)V" = some ⟨[(.array .char)], none⟩ := by decide +kernel
theorem d1_14 : dd method_2_code 14 .areturn 1 := by decide +kernel
theorem d1_15 : dd method_2_code 15 (.iload_n 0) 1 := by decide +kernel
theorem d1_16 : dd method_2_code 16 (.iconst 1) 1 := by decide +kernel
theorem d1_17 : dd method_2_code 17 (.if_icmp .ne 8) 3 := by decide +kernel
theorem d1_20 : dd method_2_code 20 (.iload_n 1) 1 := by decide +kernel
theorem d1_21 : dd method_2_code 21 (.invokestatic 12) 3 := by decide +kernel
theorem pd_34 : parseMethodDescriptor "(C)Ljava/lang/String;" = some ⟨[.char], some (.object "java/lang/String")⟩ := by decide +kernel
theorem d1_24 : dd method_2_code 24 .areturn 1 := by decide +kernel
theorem d1_25 : dd method_2_code 25 (.new 7) 3 := by decide +kernel
theorem d1_28 : dd method_2_code 28 .dup 1 := by decide +kernel
theorem d1_29 : dd method_2_code 29 (.iconst 2) 1 := by decide +kernel
theorem d1_30 : dd method_2_code 30 (.newarray .char) 2 := by decide +kernel
theorem d1_32 : dd method_2_code 32 .dup 1 := by decide +kernel
theorem d1_33 : dd method_2_code 33 (.iconst 0) 1 := by decide +kernel
theorem d1_34 : dd method_2_code 34 (.iload_n 1) 1 := by decide +kernel
theorem d1_35 : dd method_2_code 35 .castore 1 := by decide +kernel
theorem d1_36 : dd method_2_code 36 .dup 1 := by decide +kernel
theorem d1_37 : dd method_2_code 37 (.iconst 1) 1 := by decide +kernel
theorem d1_38 : dd method_2_code 38 (.iload_n 2) 1 := by decide +kernel
theorem d1_39 : dd method_2_code 39 .castore 1 := by decide +kernel
theorem d1_40 : dd method_2_code 40 (.invokespecial 9) 3 := by decide +kernel
theorem d1_43 : dd method_2_code 43 .areturn 1 := by decide +kernel
abbrev y_50 : MethodName := ⟨"com/example/neti/neti/cli/FailureBadCommandLinePinLaw", "str", "(ICC)Ljava/lang/String;"⟩
theorem pn_49 : plainFor y_50 = true := by first | exact plainFor_of_name (by first | (simp [plainName, overriddenIn]; done) | decide +kernel) | decide +kernel
theorem ef_rmStr (m : MethodId) (pn : Int32) (c0 : Int32) (c1 : Int32) : entryFrame m #[(.int pn), (.int c0), (.int c1)] 3 = mkF m 0 #[si pn, si c0, si c1] [] := by first | (simp [entryFrame, mkF, argsToLocals, Value.category]; done) | rfl
def Q_rmStr (Z : State) (pn : Int32) (c0 : Int32) (c1 : Int32) (G1 : Int32) (h0 : Heap) (n0 : Nat) (v : Option Value) (h : Heap) (L : List Loc) : Prop := ∃ (x : Addr), ∃ (tv : Addr), ∃ (cd : Int32), ∃ (cs : List Int32), v = some (.ref x) ∧ Fr n0 L ∧ Keep h0 h [] ∧ (h0.size ≤ x) ∧ (Str Z h x tv cd cs) ∧ (own_Rel pn c0 c1 cs)
set_option maxRecDepth 65536 in
set_option maxHeartbeats 40000000 in
theorem rmStr (l : Launch) (Z : State) (a0 : Array Value) (hw : ∀ d ∈ tables_1, d.before a0 Z = true) (ws : List Jvm.Cond) (pn : Int32) (c0 : Int32) (c1 : Int32) (G1 : Int32) (h0 : Heap) (n0 : Nat) (Z0 : n0 ≤ h0.size) (hpn : pn = 0 ∨ pn = 1 ∨ pn = 2) (hc0 : ¬ c0 < 0 ∧ ¬ (65535 : Int32) < c0) (hc1 : ¬ c1 < 0 ∧ ¬ (65535 : Int32) < c1) (hp3 : Sta Z Z.heap "java/lang/String" "COMPACT_STRINGS" "Z" (.int G1)) (hG1 : ¬ (G1 = (0 : Int32))) (hp5 : Sta Z Z.heap "java/lang/StringUTF16" "$assertionsDisabled" "Z" (.int 1)) (hp6 : Sta Z Z.heap "java/lang/StringUTF16" "HI_BYTE_SHIFT" "I" (.int 0)) (hp7 : Sta Z Z.heap "java/lang/StringUTF16" "LO_BYTE_SHIFT" "I" (.int 8)) (hp8 : Old Z n0 h0) :
    MetFree l y_50 (head1 (Jvm.Cond.code y_50 method_2_code 3 (some (.object "java/lang/String")) :: ws) ({ frames := 6, cells := 6, slots := 54, locals := 88 } : Room)) (fun a U => a = #[(.int pn), (.int c0), (.int c1)] ∧ Z.Warmed39 U.vm ∧ U.heap = h0 ∧ CHv Z consts_1 U.vm h0 ∧ ∀ x ∈ ([] : List Addr), Safe Z consts_1 U.vm h0 x) (fun _ _ _ _ _ => True) (fun _ U o U' => ∃ v L, o = .returned v ∧ Q_rmStr Z pn c0 c1 G1 h0 n0 v U'.heap L ∧ CHr Z consts_1 U.vm U.heap U'.vm U'.heap ∧ ReturnedEndW U o U' L ({ frames := 6, cells := 6, slots := 54, locals := 88 } : Room).cells ({ frames := 6, cells := 6, slots := 54, locals := 88 } : Room).slots) := by
 refine bodyOfW pn_49 (fun m => ef_rmStr m pn c0 c1) ?_
 intro p e s m below meth c T0 X0 hx hby hml hown hnm hret hk hZ e0 hS C0 hsf
 have hkS := Nat.le_refl h0.size
 have N0 := Fr.nil n0
 have K0 : Keep h0 h0 [] := Keep.refl _ _
 have O0 := hp8
 rcases hpn with rfl | rfl | rfl
 ·
  refine go (S' := T0.setTop (mkF m 1 #[si 0, si c0, si c1] [(.int 0)])) (fun t k => XS.iloadN X0.here hx rfl (hb hby d1_0) rfl k) ?_
  have hc531 : (0 : Int32) = (0 : Int32) := by decide
  refine go (S' := T0.setTop (mkF m 4 #[si 0, si c0, si c1] [])) (fun t k => XS.ifNo X0.here hx rfl (hb hby d1_1) rfl ((if0 _ _).trans (teq hc531).2) k) ?_
  obtain ⟨T532, h532, X532, e532, E532, A532, D532, -, st532⟩ := newO X0 hx hZ hown (ww hw 6 rfl) (ww hw 7 rfl) (ww hw 8 rfl) e0 (g := (mkF m 4 #[si 0, si c0, si c1] [])) rfl (hb hby d1_4) (by decide) (by decide)
  obtain ⟨b532, g532⟩ : ∃ z, z = h0.size := ⟨_, rfl⟩
  rw [← g532] at A532 D532 st532
  have ge_b532 : n0 ≤ b532 := by rw [g532]; exact (Nat.le_trans Z0 K0.1)
  have sz_b532 : h0.size ≤ b532 := by rw [g532]; exact K0.1
  have K533 : Keep h0 h532 [] := K0.ext E532
  have hkS := Nat.le_trans hkS E532.1
  have C534 := C0.trans (CHr.ext E532 C0.1)
  have sf535 := Safe.ext E532 C0.1 (Safe.new (Nat.le_of_eq g532.symm))
  refine go (S' := T532.setTop (mkF m 9 #[si 0, si c0, si c1] [(.int 0), (.ref b532), (.ref b532)])) (fun t k => st532 _ (XS.dup X532.here hx rfl (hb hby d1_7) rfl rfl (XS.iconst X532.here hx rfl (hb hby d1_8) k))) ?_
  obtain ⟨T536, h536, k536, X536, e536, E536, A536, st536⟩ := newP X532 hx hZ (ww hw 9 rfl) e532 (g := (mkF m 9 #[si 0, si c0, si c1] [(.int 0), (.ref b532), (.ref b532)])) rfl (hb hby d1_9) rfl (by decide) (cap := 0) (by decide) (by decide) (by decide) (by decide)
  obtain ⟨b536, g536⟩ : ∃ z, z = h532.size := ⟨_, rfl⟩
  rw [← g536] at A536 st536
  have lt_b532_b536 : b532 < b536 := by rw [g536]; exact A532.lt
  have ge_b536 : n0 ≤ b536 := by rw [g536]; exact (Nat.le_trans Z0 K533.1)
  have sz_b536 : h0.size ≤ b536 := by rw [g536]; exact K533.1
  have K537 : Keep h0 h536 [] := K533.ext E536
  have hkS := Nat.le_trans hkS E536.1
  have C538 := C534.trans (CHr.ext E536 C534.1)
  have sf539 := Safe.ext E536 C534.1 sf535
  have V536 : Arv Z h536 b536 k536 .char (0 : Int32) [] (.int 0) := (Arv.new A536 (by decide)).pad (pad_rep [] (.int 0) 0)
  refine go (S' := T536.setTop (mkF m 11 #[si 0, si c0, si c1] [(.ref b536), (.ref b532), (.ref b532)])) st536 ?_
  have f540 : Exa Z h536 b532 "java/lang/String" := (A532.ext E536)
  have f541 : Fld Z h536 b532 "java/lang/String" "value" "[B" .null := ((D532 (Or.inr (ww hw 35 rfl)) (ty := (.array .byte)) (by decide)).ext E536)
  have f542 : Fld Z h536 b532 "java/lang/String" "coder" "B" (.int 0) := ((D532 (Or.inr (ww hw 33 rfl)) (ty := .byte) (by decide)).ext E536)
  have O543 : Old Z n0 h536 := O0.keep K537 all0
  obtain ⟨v544, T544, L544, X544, hQ544, hS, hZ, hown, Cq544, st544⟩ := callSpW X536 hx hZ (y := y_9) rfl hown (ww hw 10 rfl) (ww hw 11 rfl) (ww hw 12 rfl) (by decide) (backW (W := 1) (rmE1 l Z a0 hw [] b532 b536 k536 [] (.int 0) h536 n0 (Nat.le_trans Z0 K537.1) f540 f541 f542 ge_b532 V536 O543) hZ (ww hw 12 rfl) (ww hw 8 rfl) (by decide) (by decide) (own_EW hw) C538.1 all0) (g := (mkF m 11 #[si 0, si c0, si c1] [(.ref b536), (.ref b532), (.ref b532)])) rfl (by rw [hml]; rfl) (a := b532) (kc := 4) (ks := 8) (argsL := [(.ref b536)]) (rest := [(.ref b532)]) (lenOf pd_33 rfl) rfl (mr0 rfl) (hb hby d1_11) e536 (by decide) (by decide) hS hkS
  obtain ⟨t_544, rfl, N544q, Kq544, q544_0⟩ := hQ544
  have N544 := Fr.app N0 N544q
  have hkS := Nat.le_refl T544.heap.size
  have C545 := C538.trans Cq544
  have sf546 := CHr.safe Cq544 f540.lt sf539
  have K547 : Keep h0 T544.heap [] := K537.trans Kq544 (allS (P := fun x => x ∈ [] ∨ h0.size ≤ x) (Or.inr sz_b532) all0)
  refine go (S' := T544.setTop (mkF m 14 #[si 0, si c0, si c1] [(.ref b532)])) st544 ?_
  refine finRW X544 hx hk hret rfl rfl hS hkS hZ (own_EW hw) C545 rfl (hb hby d1_14) (by decide) (by decide) ?_
  exact ⟨b532, t_544, (0 : Int32), ([] : List Int32), rfl, N544, K547, sz_b532, q544_0, Or.inl ⟨rfl, rfl⟩⟩
 ·
  refine go (S' := T0.setTop (mkF m 1 #[si 1, si c0, si c1] [(.int 1)])) (fun t k => XS.iloadN X0.here hx rfl (hb hby d1_0) rfl k) ?_
  have hc548 : ¬ ((1 : Int32) = (0 : Int32)) := by decide
  refine go (S' := T0.setTop (mkF m 17 #[si 1, si c0, si c1] [(.int 1), (.int 1)])) (fun t k => XS.ifYes X0.here hx rfl (pc0 := 1) (pc' := 15) rfl (hb hby d1_1) rfl ((if0 _ _).trans (feq hc548).2) (by decide) (by decide) (XS.iloadN X0.here hx rfl (hb hby d1_15) rfl (XS.iconst X0.here hx rfl (hb hby d1_16) k))) ?_
  have hc549 : (1 : Int32) = (1 : Int32) := by decide
  refine go (S' := T0.setTop (mkF m 21 #[si 1, si c0, si c1] [(.int c0)])) (fun t k => XS.icmpNo X0.here hx rfl (hb hby d1_17) rfl (teq hc549).2 (XS.iloadN X0.here hx rfl (hb hby d1_20) rfl k)) ?_
  have O550 : Old Z n0 h0 := O0.keep K0 all0
  obtain ⟨v551, T551, L551, X551, hQ551, st551⟩ := callSt X0 hx hZ (y := y_49) hown (ww hw 247 rfl) (ww hw 248 rfl) (ww hw 8 rfl) (ww hw 249 rfl) (by decide) (backOf (W := 0) (rmVof l Z a0 hw [] c0 G1 h0 n0 (Nat.le_trans Z0 K0.1) hc0 hp3 hG1 hp5 hp6 hp7 O550) hZ (ww hw 249 rfl) (ww hw 8 rfl) (by decide) (by decide)) (g := (mkF m 21 #[si 1, si c0, si c1] [(.int c0)])) rfl (by rw [hml]; rfl) (kc := 2) (ks := 6) (argsL := [(.int c0)]) (rest := []) (lenOf pd_34 rfl) rfl (mr0 rfl) (hb hby d1_21) e0 (by decide) (by decide)
  obtain ⟨x_551, tv_551, cd_551, rfl, N551q, Kq551, q551_0, q551_1⟩ := hQ551
  have N551 := Fr.app N0 N551q
  have hkS := Nat.le_trans hkS Kq551.1
  have C552 := C0.trans (CHr.keep Kq551 all0 C0.1)
  have K553 : Keep h0 T551.heap [] := K0.trans Kq551 all0
  have sz_x_551 : h0.size ≤ x_551 := Nat.le_trans K0.1 q551_0
  have ge_x_551 : n0 ≤ x_551 := Nat.le_trans Z0 sz_x_551
  refine go (S' := T551.setTop (mkF m 24 #[si 1, si c0, si c1] [(.ref x_551)])) st551 ?_
  refine finRW X551 hx hk hret rfl rfl hS hkS hZ (own_EW hw) C552 rfl (hb hby d1_24) (by decide) (by decide) ?_
  exact ⟨x_551, tv_551, cd_551, ([c0] : List Int32), rfl, N551, K553, sz_x_551, q551_1, Or.inr (Or.inl ⟨rfl, rfl⟩)⟩
 ·
  refine go (S' := T0.setTop (mkF m 1 #[si 2, si c0, si c1] [(.int 2)])) (fun t k => XS.iloadN X0.here hx rfl (hb hby d1_0) rfl k) ?_
  have hc554 : ¬ ((2 : Int32) = (0 : Int32)) := by decide
  refine go (S' := T0.setTop (mkF m 17 #[si 2, si c0, si c1] [(.int 1), (.int 2)])) (fun t k => XS.ifYes X0.here hx rfl (pc0 := 1) (pc' := 15) rfl (hb hby d1_1) rfl ((if0 _ _).trans (feq hc554).2) (by decide) (by decide) (XS.iloadN X0.here hx rfl (hb hby d1_15) rfl (XS.iconst X0.here hx rfl (hb hby d1_16) k))) ?_
  have hc555 : ¬ ((2 : Int32) = (1 : Int32)) := by decide
  refine go (S' := T0.setTop (mkF m 25 #[si 2, si c0, si c1] [])) (fun t k => XS.icmpYes X0.here hx rfl (pc0 := 17) (pc' := 25) rfl (hb hby d1_17) rfl (feq hc555).2 (by decide) (by decide) k) ?_
  obtain ⟨T556, h556, X556, e556, E556, A556, D556, -, st556⟩ := newO X0 hx hZ hown (ww hw 6 rfl) (ww hw 7 rfl) (ww hw 8 rfl) e0 (g := (mkF m 25 #[si 2, si c0, si c1] [])) rfl (hb hby d1_25) (by decide) (by decide)
  obtain ⟨b556, g556⟩ : ∃ z, z = h0.size := ⟨_, rfl⟩
  rw [← g556] at A556 D556 st556
  have ge_b556 : n0 ≤ b556 := by rw [g556]; exact (Nat.le_trans Z0 K0.1)
  have sz_b556 : h0.size ≤ b556 := by rw [g556]; exact K0.1
  have K557 : Keep h0 h556 [] := K0.ext E556
  have hkS := Nat.le_trans hkS E556.1
  have C558 := C0.trans (CHr.ext E556 C0.1)
  have sf559 := Safe.ext E556 C0.1 (Safe.new (Nat.le_of_eq g556.symm))
  refine go (S' := T556.setTop (mkF m 30 #[si 2, si c0, si c1] [(.int 2), (.ref b556), (.ref b556)])) (fun t k => st556 _ (XS.dup X556.here hx rfl (hb hby d1_28) rfl rfl (XS.iconst X556.here hx rfl (hb hby d1_29) k))) ?_
  obtain ⟨T560, h560, k560, X560, e560, E560, A560, st560⟩ := newP X556 hx hZ (ww hw 9 rfl) e556 (g := (mkF m 30 #[si 2, si c0, si c1] [(.int 2), (.ref b556), (.ref b556)])) rfl (hb hby d1_30) rfl (by decide) (cap := 2) (by decide) (by decide) (by decide) (by decide)
  obtain ⟨b560, g560⟩ : ∃ z, z = h556.size := ⟨_, rfl⟩
  rw [← g560] at A560 st560
  have lt_b556_b560 : b556 < b560 := by rw [g560]; exact A556.lt
  have ge_b560 : n0 ≤ b560 := by rw [g560]; exact (Nat.le_trans Z0 K557.1)
  have sz_b560 : h0.size ≤ b560 := by rw [g560]; exact K557.1
  have K561 : Keep h0 h560 [] := K557.ext E560
  have hkS := Nat.le_trans hkS E560.1
  have C562 := C558.trans (CHr.ext E560 C558.1)
  have sf563 := Safe.ext E560 C558.1 sf559
  have V560 : Arv Z h560 b560 k560 .char (2 : Int32) [(.int 0), (.int 0)] (.int 0) := (Arv.new A560 (by decide)).pad (pad_rep [] (.int 0) 2)
  refine go (S' := T560.setTop (mkF m 35 #[si 2, si c0, si c1] [(.int c0), (.int 0), (.ref b560), (.ref b560), (.ref b556), (.ref b556)])) (fun t k => st560 _ (XS.dup X560.here hx rfl (hb hby d1_32) rfl rfl (XS.iconst X560.here hx rfl (hb hby d1_33) (XS.iloadN X560.here hx rfl (hb hby d1_34) rfl k)))) ?_
  obtain ⟨T564, h564, X564, e564, W564, V564, st564⟩ := putC X560 hx hZ e560 V560 (j := (0 : Int32)) (x := c0) (oj_c16 hc0) ⟨by decide, by decide⟩ (i := 0) rfl (leB rfl) (g := (mkF m 35 #[si 2, si c0, si c1] [(.int c0), (.int 0), (.ref b560), (.ref b560), (.ref b556), (.ref b556)])) rfl rfl (hb hby d1_35)
  have K565 : Keep h0 h564 [] := K561.wr W564 (Or.inr sz_b560)
  have N566 := Fr.snoc X564 N0 ge_b560
  have hkS := Nat.le_trans hkS (Keep.of_wr W564).1
  have C567 := C562.trans (CHr.wr W564 (safeArv hZ.alike V560 (by decide)) C562.1)
  have sf568 := Safe.wr W564 (safeArv hZ.alike V560 (by decide)) C562.1 sf563
  refine go (S' := T564.setTop (mkF m 39 #[si 2, si c0, si c1] [(.int c1), (.int 1), (.ref b560), (.ref b560), (.ref b556), (.ref b556)])) (fun t k => st564 _ (XS.dup X564.here hx rfl (hb hby d1_36) rfl rfl (XS.iconst X564.here hx rfl (hb hby d1_37) (XS.iloadN X564.here hx rfl (hb hby d1_38) rfl k)))) ?_
  obtain ⟨T569, h569, X569, e569, W569, V569, st569⟩ := putC X564 hx hZ e564 V564 (j := (1 : Int32)) (x := c1) (oj_c16 hc1) ⟨by decide, by decide⟩ (i := 1) rfl (leB rfl) (g := (mkF m 39 #[si 2, si c0, si c1] [(.int c1), (.int 1), (.ref b560), (.ref b560), (.ref b556), (.ref b556)])) rfl rfl (hb hby d1_39)
  have K570 : Keep h0 h569 [] := K565.wr W569 (Or.inr sz_b560)
  have N571 := Fr.snoc X569 N566 ge_b560
  have hkS := Nat.le_trans hkS (Keep.of_wr W569).1
  have C572 := C567.trans (CHr.wr W569 (safeArv hZ.alike V564 (by decide)) C567.1)
  have sf573 := Safe.wr W569 (safeArv hZ.alike V564 (by decide)) C567.1 sf568
  refine go (S' := T569.setTop (mkF m 40 #[si 2, si c0, si c1] [(.ref b560), (.ref b556), (.ref b556)])) st569 ?_
  have f574 : Exa Z h569 b556 "java/lang/String" := (((A556.ext E560).wr W564).wr W569)
  have f575 : Fld Z h569 b556 "java/lang/String" "value" "[B" .null := (Fld.other W569 (Fld.other W564 ((D556 (Or.inr (ww hw 35 rfl)) (ty := (.array .byte)) (by decide)).ext E560) (Or.inl (Nat.ne_of_lt lt_b556_b560))) (Or.inl (Nat.ne_of_lt lt_b556_b560)))
  have f576 : Fld Z h569 b556 "java/lang/String" "coder" "B" (.int 0) := (Fld.other W569 (Fld.other W564 ((D556 (Or.inr (ww hw 33 rfl)) (ty := .byte) (by decide)).ext E560) (Or.inl (Nat.ne_of_lt lt_b556_b560))) (Or.inl (Nat.ne_of_lt lt_b556_b560)))
  have O577 : Old Z n0 h569 := O0.keep K570 all0
  obtain ⟨v578, T578, L578, X578, hQ578, st578⟩ := callSp X569 hx hZ (y := y_9) rfl hown (ww hw 10 rfl) (ww hw 11 rfl) (ww hw 12 rfl) (by decide) (backOf (W := 1) (rmInit1 l Z a0 hw [] b556 b560 (2 : Int32) k560 ([c0, c1] : List Int32) (.int 0) G1 h569 n0 (Nat.le_trans Z0 K570.1) V569 rfl (leB rfl) (leB rfl) (allI hc0 (allI hc1 (fun _ q => nomatch q))) f574 f575 f576 ge_b556 (Nat.ne_of_lt lt_b556_b560) hp3 hG1 hp5 hp6 hp7 O577) hZ (ww hw 12 rfl) (ww hw 8 rfl) (by decide) (by decide)) (g := (mkF m 40 #[si 2, si c0, si c1] [(.ref b560), (.ref b556), (.ref b556)])) rfl (by rw [hml]; rfl) (a := b556) (kc := 2) (ks := 48) (argsL := [(.ref b560)]) (rest := [(.ref b556)]) (lenOf pd_33 rfl) rfl (mr0 rfl) (hb hby d1_40) e569 (by decide) (by decide)
  obtain ⟨t_578, cd_578, rfl, N578q, Kq578, q578_0, q578_1, q578_2⟩ := hQ578
  have N578 := Fr.app N571 N578q
  have hkS := Nat.le_trans hkS Kq578.1
  have C579 := C572.trans (CHr.keep Kq578 (allS sf573 all0) C572.1)
  have sf580 := Safe.keep Kq578 (allS sf573 all0) C572.1 sf573
  have K581 : Keep h0 T578.heap [] := K570.trans Kq578 (allS (P := fun x => x ∈ [] ∨ h0.size ≤ x) (Or.inr sz_b556) all0)
  have lt_b556_t_578 : b556 < t_578 := Nat.lt_of_lt_of_le f574.lt q578_0
  have lt_b560_t_578 : b560 < t_578 := Nat.lt_of_lt_of_le V569.lt q578_0
  have sz_t_578 : h0.size ≤ t_578 := Nat.le_trans K570.1 q578_0
  have ge_t_578 : n0 ≤ t_578 := Nat.le_trans Z0 sz_t_578
  have ne_t_578_b556 := q578_1
  refine go (S' := T578.setTop (mkF m 43 #[si 2, si c0, si c1] [(.ref b556)])) st578 ?_
  refine finRW X578 hx hk hret rfl rfl hS hkS hZ (own_EW hw) C579 rfl (hb hby d1_43) (by decide) (by decide) ?_
  exact ⟨b556, t_578, cd_578, ([c0, c1] : List Int32), rfl, N578, K581, sz_b556, q578_2, Or.inr (Or.inr ⟨rfl, rfl⟩)⟩
theorem d32_0 : dd jdk_78_method_2_code 0 (.aload_n 0) 1 := by decide +kernel
theorem d32_1 : dd jdk_78_method_2_code 1 (.invokespecial 1) 3 := by decide +kernel
theorem d32_4 : dd jdk_78_method_2_code 4 (.aload_n 0) 1 := by decide +kernel
theorem d32_5 : dd jdk_78_method_2_code 5 (.aload_n 0) 1 := by decide +kernel
theorem d32_6 : dd jdk_78_method_2_code 6 (.putfield 7) 3 := by decide +kernel
theorem d32_9 : dd jdk_78_method_2_code 9 (.aload_n 0) 1 := by decide +kernel
theorem d32_10 : dd jdk_78_method_2_code 10 (.getstatic 13) 3 := by decide +kernel
theorem d32_13 : dd jdk_78_method_2_code 13 (.putfield 17) 3 := by decide +kernel
theorem d32_16 : dd jdk_78_method_2_code 16 (.aload_n 0) 1 := by decide +kernel
theorem d32_17 : dd jdk_78_method_2_code 17 (.getstatic 20) 3 := by decide +kernel
theorem d32_20 : dd jdk_78_method_2_code 20 (.putfield 24) 3 := by decide +kernel
theorem d32_23 : dd jdk_78_method_2_code 23 (.aload_n 0) 1 := by decide +kernel
theorem d32_24 : dd jdk_78_method_2_code 24 (.invokevirtual 27) 3 := by decide +kernel
theorem d32_27 : dd jdk_78_method_2_code 27 .pop 1 := by decide +kernel
theorem d32_28 : dd jdk_78_method_2_code 28 (.aload_n 0) 1 := by decide +kernel
theorem d32_29 : dd jdk_78_method_2_code 29 (.aload_n 1) 1 := by decide +kernel
theorem d32_30 : dd jdk_78_method_2_code 30 (.putfield 31) 3 := by decide +kernel
theorem d32_33 : dd jdk_78_method_2_code 33 .return_ 1 := by decide +kernel
abbrev y_51 : MethodName := ⟨"java/lang/Throwable", "<init>", "(Ljava/lang/String;)V"⟩
theorem pn_50 : plainFor y_51 = true := by first | exact plainFor_of_name (by first | (simp [plainName, overriddenIn]; done) | decide +kernel) | decide +kernel
theorem ef_rmTh (m : MethodId) (x1 : Addr) (x2 : Addr) : entryFrame m #[(.ref x1), (.ref x2)] 2 = mkF m 0 #[sr x1, sr x2] [] := by first | (simp [entryFrame, mkF, argsToLocals, Value.category]; done) | rfl
def Q_rmTh (Z : State) (x1 : Addr) (x2 : Addr) (us : Value) (sn : Value) (h0 : Heap) (n0 : Nat) (v : Option Value) (h : Heap) (L : List Loc) : Prop := v = none ∧ Fr n0 L ∧ Keep h0 h [x1] ∧ (Exa Z h x1 "com/example/neti/neti/cli/Failure") ∧ (Fld Z h x1 "com/example/neti/neti/cli/Failure" "status" "I" (.int 0)) ∧ (Fld Z h x1 "java/lang/Throwable" "detailMessage" "Ljava/lang/String;" (.ref x2))
set_option maxRecDepth 65536 in
set_option maxHeartbeats 40000000 in
theorem rmTh (l : Launch) (Z : State) (a0 : Array Value) (hw : ∀ d ∈ tables_1, d.before a0 Z = true) (ws : List Jvm.Cond) (x1 : Addr) (x2 : Addr) (us : Value) (sn : Value) (h0 : Heap) (n0 : Nat) (Z0 : n0 ≤ h0.size) (hp0 : Exa Z h0 x1 "com/example/neti/neti/cli/Failure") (hp1 : Fld Z h0 x1 "java/lang/Throwable" "cause" "Ljava/lang/Throwable;" .null) (hp2 : Fld Z h0 x1 "java/lang/Throwable" "stackTrace" "[Ljava/lang/StackTraceElement;" .null) (hp3 : Fld Z h0 x1 "java/lang/Throwable" "suppressedExceptions" "Ljava/util/List;" .null) (hp4 : Fld Z h0 x1 "java/lang/Throwable" "backtrace" "Ljava/lang/Object;" .null) (hp5 : Fld Z h0 x1 "java/lang/Throwable" "detailMessage" "Ljava/lang/String;" .null) (hp6 : Fld Z h0 x1 "com/example/neti/neti/cli/Failure" "status" "I" (.int 0)) (hp7 : Unx Z h0 x1) (hp8 : n0 ≤ x1) (hlt : l.stackTraces = true) (hp10 : Sta Z Z.heap "java/lang/Throwable" "UNASSIGNED_STACK" "[Ljava/lang/StackTraceElement;" us) (hp11 : Sta Z Z.heap "java/lang/Throwable" "SUPPRESSED_SENTINEL" "Ljava/util/List;" sn) (hus : us.isRef = true) (hsn : sn.isRef = true) (hun : us ≠ .null) (hp15 : Old Z n0 h0) :
    MetFree l y_51 (head1 (Jvm.Cond.code y_51 jdk_78_method_2_code 2 none :: ws) ({ frames := 3, cells := 1, slots := 2752, locals := 42 } : Room)) (fun a U => a = #[(.ref x1), (.ref x2)] ∧ Z.Warmed39 U.vm ∧ U.heap = h0) (fun _ _ bl s _ => s.vm.MethodsKnown ∧ s.vm.FramesKnown bl) (fun _ U o U' => ∃ v L, o = .returned v ∧ Q_rmTh Z x1 x2 us sn h0 n0 v U'.heap L ∧ FrameEnd U o U' L ({ frames := 3, cells := 1, slots := 2752, locals := 42 } : Room).cells ({ frames := 3, cells := 1, slots := 2752, locals := 42 } : Room).slots) := by
 refine bodyOfK pn_50 (fun m => ef_rmTh m x1 x2) ?_
 intro p e s m below meth c T0 X0 hx hby hml hown hnm hret hk hZ e0 hh hKn
 have N0 := Fr.nil n0
 have K0 : Keep h0 h0 [x1] := Keep.refl _ _
 have O0 := hp15
 refine go (S' := T0.setTop (mkF m 1 #[sr x1, sr x2] [(.ref x1)])) (fun t k => XS.aloadN X0.here hx rfl (hb hby d32_0) rfl rfl k) ?_
 obtain ⟨T582, X582, e582, st582⟩ := initO X0 hx hZ hown (ww hw 171 rfl) (ww hw 18 rfl) (ww hw 19 rfl) e0 (g := (mkF m 1 #[sr x1, sr x2] [(.ref x1)])) rfl (by rw [hml]; rfl) rfl (hb hby d32_1) (by decide) (W := 0) (mr0 rfl) (by decide)
 refine go (S' := T582.setTop (mkF m 6 #[sr x1, sr x2] [(.ref x1), (.ref x1)])) (fun t k => st582 _ (XS.aloadN X582.here hx rfl (hb hby d32_4) rfl rfl (XS.aloadN X582.here hx rfl (hb hby d32_5) rfl rfl k))) ?_
 obtain ⟨T583, h583, X583, e583, W583, st583⟩ := putF X582 hx hZ hown (host := "") (Or.inl (ww hw 172 rfl)) Via.refl e582 hp1 hp0 (Or.inl (ww hw 173 rfl)) (ww hw 44 rfl) (ty := (.object "java/lang/Throwable")) (by decide) rfl rfl (g := (mkF m 6 #[sr x1, sr x2] [(.ref x1), (.ref x1)])) rfl rfl (hb hby d32_6)
 have K584 : Keep h0 h583 [x1] := K0.wr W583 (Or.inl (List.mem_of_getElem? (i := 0) rfl))
 have N585 := Fr.snoc X583 N0 hp8
 have f586 : Fld Z h583 x1 "java/lang/Throwable" "cause" "Ljava/lang/Throwable;" (.ref x1) := (Fld.same W583 hp1)
 refine go (S' := T583.setTop (mkF m 10 #[sr x1, sr x2] [(.ref x1)])) (fun t k => st583 _ (XS.aloadN X583.here hx rfl (hb hby d32_9) rfl rfl k)) ?_
 have O588 : Old Z n0 h583 := O0.keep K584 (allS hp8 all0)
 obtain ⟨T587, X587, e587, st587⟩ := getS2 X583 hx hZ hown (host := "") (Or.inl (ww hw 174 rfl)) Via.refl e583 (hp10.ext O588.2) (g := (mkF m 10 #[sr x1, sr x2] [(.ref x1)])) rfl (hb hby d32_10)
 refine go (S' := T587.setTop (mkF m 13 #[sr x1, sr x2] [us, (.ref x1)])) st587 ?_
 have f589 : Fld Z h583 x1 "java/lang/Throwable" "stackTrace" "[Ljava/lang/StackTraceElement;" .null := (Fld.other W583 hp2 (Or.inr (slot_ne (Or.inl (ww hw 176 rfl)) (Or.inl (ww hw 173 rfl)) (by decide) (t := (.array (.object "java/lang/StackTraceElement"))) (t' := (.object "java/lang/Throwable")) (by decide) (by decide))))
 obtain ⟨T590, h590, X590, e590, W590, st590⟩ := putF X587 hx hZ hown (host := "") (Or.inl (ww hw 175 rfl)) Via.refl e587 f589 (hp0.keep K584) (Or.inl (ww hw 176 rfl)) (ww hw 44 rfl) (ty := (.array (.object "java/lang/StackTraceElement"))) (by decide) (narV hus) (fitV hus) (g := (mkF m 13 #[sr x1, sr x2] [us, (.ref x1)])) rfl rfl (hb hby d32_13)
 have K591 : Keep h0 h590 [x1] := K584.wr W590 (Or.inl (List.mem_of_getElem? (i := 0) rfl))
 have N592 := Fr.snoc X590 N585 hp8
 have f593 : Fld Z h590 x1 "java/lang/Throwable" "stackTrace" "[Ljava/lang/StackTraceElement;" us := (Fld.same W590 f589)
 refine go (S' := T590.setTop (mkF m 17 #[sr x1, sr x2] [(.ref x1)])) (fun t k => st590 _ (XS.aloadN X590.here hx rfl (hb hby d32_16) rfl rfl k)) ?_
 have O595 : Old Z n0 h590 := O0.keep K591 (allS hp8 all0)
 obtain ⟨T594, X594, e594, st594⟩ := getS2 X590 hx hZ hown (host := "") (Or.inl (ww hw 177 rfl)) Via.refl e590 (hp11.ext O595.2) (g := (mkF m 17 #[sr x1, sr x2] [(.ref x1)])) rfl (hb hby d32_17)
 refine go (S' := T594.setTop (mkF m 20 #[sr x1, sr x2] [sn, (.ref x1)])) st594 ?_
 have f596 : Fld Z h590 x1 "java/lang/Throwable" "suppressedExceptions" "Ljava/util/List;" .null := (Fld.other W590 (Fld.other W583 hp3 (Or.inr (slot_ne (Or.inl (ww hw 179 rfl)) (Or.inl (ww hw 173 rfl)) (by decide) (t := (.object "java/util/List")) (t' := (.object "java/lang/Throwable")) (by decide) (by decide)))) (Or.inr (slot_ne (Or.inl (ww hw 179 rfl)) (Or.inl (ww hw 176 rfl)) (by decide) (t := (.object "java/util/List")) (t' := (.array (.object "java/lang/StackTraceElement"))) (by decide) (by decide))))
 obtain ⟨T597, h597, X597, e597, W597, st597⟩ := putF X594 hx hZ hown (host := "") (Or.inl (ww hw 178 rfl)) Via.refl e594 f596 (hp0.keep K591) (Or.inl (ww hw 179 rfl)) (ww hw 44 rfl) (ty := (.object "java/util/List")) (by decide) (narV hsn) (fitV hsn) (g := (mkF m 20 #[sr x1, sr x2] [sn, (.ref x1)])) rfl rfl (hb hby d32_20)
 have K598 : Keep h0 h597 [x1] := K591.wr W597 (Or.inl (List.mem_of_getElem? (i := 0) rfl))
 have N599 := Fr.snoc X597 N592 hp8
 have f600 : Fld Z h597 x1 "java/lang/Throwable" "suppressedExceptions" "Ljava/util/List;" sn := (Fld.same W597 f596)
 refine go (S' := T597.setTop (mkF m 24 #[sr x1, sr x2] [(.ref x1)])) (fun t k => st597 _ (XS.aloadN X597.here hx rfl (hb hby d32_23) rfl rfl k)) ?_
 have f602 : Fld Z h597 x1 "java/lang/Throwable" "backtrace" "Ljava/lang/Object;" .null := (Fld.other W597 (Fld.other W590 (Fld.other W583 hp4 (Or.inr (slot_ne (Or.inl (ww hw 204 rfl)) (Or.inl (ww hw 173 rfl)) (by decide) (t := (.object "java/lang/Object")) (t' := (.object "java/lang/Throwable")) (by decide) (by decide)))) (Or.inr (slot_ne (Or.inl (ww hw 204 rfl)) (Or.inl (ww hw 176 rfl)) (by decide) (t := (.object "java/lang/Object")) (t' := (.array (.object "java/lang/StackTraceElement"))) (by decide) (by decide)))) (Or.inr (slot_ne (Or.inl (ww hw 204 rfl)) (Or.inl (ww hw 179 rfl)) (by decide) (t := (.object "java/lang/Object")) (t' := (.object "java/util/List")) (by decide) (by decide))))
 have f603 : Fld Z h597 x1 "java/lang/Throwable" "stackTrace" "[Ljava/lang/StackTraceElement;" us := (Fld.other W597 f593 (Or.inr (slot_ne (Or.inl (ww hw 176 rfl)) (Or.inl (ww hw 179 rfl)) (by decide) (t := (.array (.object "java/lang/StackTraceElement"))) (t' := (.object "java/util/List")) (by decide) (by decide))))
 have f604 : Unx Z h597 x1 := (((hp7.wr W583).wr W590).wr W597)
 have O605 : Old Z n0 h597 := O0.keep K598 (allS hp8 all0)
 obtain ⟨T601, ha601, hb601, hc601, h601, va601, vb601, X601, e601, E601, Wa601, Wb601, Wc601, st601⟩ := own_fill X597 hx hlt hZ hw (by rw [hh]; exact ThS.ext O0.2 ThS.start) hown hKn e597 (hp0.keep K598) f604 hus hun f602 f603 (hp10.ext O605.2) (g := (mkF m 24 #[sr x1, sr x2] [(.ref x1)])) rfl (by rw [hml]; rfl) (rest := []) rfl (W := 0) (mr0 rfl) (hb hby d32_24) (by decide) (by decide) (by decide) (by decide)
 have K606 : Keep h0 ha601 [x1] := K598.ext E601
 have K607 : Keep h0 hb601 [x1] := K606.wr Wa601 (Or.inl (List.mem_of_getElem? (i := 0) rfl))
 have K608 : Keep h0 hc601 [x1] := K607.wr Wb601 (Or.inl (List.mem_of_getElem? (i := 0) rfl))
 have K609 : Keep h0 h601 [x1] := K608.wr Wc601 (Or.inl (List.mem_of_getElem? (i := 0) rfl))
 have N610 := own_snoc3 X601 N599 hp8
 refine go (S' := T601.setTop (mkF m 30 #[sr x1, sr x2] [(.ref x2), (.ref x1)])) (fun t k => st601 _ (XS.pop X601.here hx rfl (hb hby d32_27) rfl rfl (XS.aloadN X601.here hx rfl (hb hby d32_28) rfl rfl (XS.aloadN X601.here hx rfl (hb hby d32_29) rfl rfl k)))) ?_
 have f611 : Fld Z h601 x1 "java/lang/Throwable" "detailMessage" "Ljava/lang/String;" .null := (Fld.other Wc601 (Fld.other Wb601 (Fld.other Wa601 ((Fld.other W597 (Fld.other W590 (Fld.other W583 hp5 (Or.inr (slot_ne (Or.inl (ww hw 203 rfl)) (Or.inl (ww hw 173 rfl)) (by decide) (t := (.object "java/lang/String")) (t' := (.object "java/lang/Throwable")) (by decide) (by decide)))) (Or.inr (slot_ne (Or.inl (ww hw 203 rfl)) (Or.inl (ww hw 176 rfl)) (by decide) (t := (.object "java/lang/String")) (t' := (.array (.object "java/lang/StackTraceElement"))) (by decide) (by decide)))) (Or.inr (slot_ne (Or.inl (ww hw 203 rfl)) (Or.inl (ww hw 179 rfl)) (by decide) (t := (.object "java/lang/String")) (t' := (.object "java/util/List")) (by decide) (by decide)))).ext E601) (Or.inr (slot_ne (Or.inl (ww hw 203 rfl)) (Or.inl (ww hw 204 rfl)) (by decide) (t := (.object "java/lang/String")) (t' := (.object "java/lang/Object")) (by decide) (by decide)))) (Or.inr (slot_ne (Or.inl (ww hw 203 rfl)) (Or.inl (ww hw 205 rfl)) (by decide) (t := (.object "java/lang/String")) (t' := .int) (by decide) (by decide)))) (Or.inr (slot_ne (Or.inl (ww hw 203 rfl)) (Or.inl (ww hw 176 rfl)) (by decide) (t := (.object "java/lang/String")) (t' := (.array (.object "java/lang/StackTraceElement"))) (by decide) (by decide))))
 obtain ⟨T612, h612, X612, e612, W612, st612⟩ := putF X601 hx hZ hown (host := "") (Or.inl (ww hw 207 rfl)) Via.refl e601 f611 (hp0.keep K609) (Or.inl (ww hw 203 rfl)) (ww hw 44 rfl) (ty := (.object "java/lang/String")) (by decide) rfl rfl (g := (mkF m 30 #[sr x1, sr x2] [(.ref x2), (.ref x1)])) rfl rfl (hb hby d32_30)
 have K613 : Keep h0 h612 [x1] := K609.wr W612 (Or.inl (List.mem_of_getElem? (i := 0) rfl))
 have N614 := Fr.snoc X612 N610 hp8
 have f615 : Fld Z h612 x1 "java/lang/Throwable" "detailMessage" "Ljava/lang/String;" (.ref x2) := (Fld.same W612 f611)
 refine go (S' := T612.setTop (mkF m 33 #[sr x1, sr x2] [])) st612 ?_
 refine finV X612 hx hk hret (hb hby d32_33) (by decide) (by decide) ?_
 have f616 : Fld Z h612 x1 "com/example/neti/neti/cli/Failure" "status" "I" (.int 0) := (Fld.other W612 (Fld.other Wc601 (Fld.other Wb601 (Fld.other Wa601 ((Fld.other W597 (Fld.other W590 (Fld.other W583 hp6 (Or.inr (slot_ne (Or.inr (ww hw 209 rfl)) (Or.inl (ww hw 173 rfl)) (by decide) (t := .int) (t' := (.object "java/lang/Throwable")) (by decide) (by decide)))) (Or.inr (slot_ne (Or.inr (ww hw 209 rfl)) (Or.inl (ww hw 176 rfl)) (by decide) (t := .int) (t' := (.array (.object "java/lang/StackTraceElement"))) (by decide) (by decide)))) (Or.inr (slot_ne (Or.inr (ww hw 209 rfl)) (Or.inl (ww hw 179 rfl)) (by decide) (t := .int) (t' := (.object "java/util/List")) (by decide) (by decide)))).ext E601) (Or.inr (slot_ne (Or.inr (ww hw 209 rfl)) (Or.inl (ww hw 204 rfl)) (by decide) (t := .int) (t' := (.object "java/lang/Object")) (by decide) (by decide)))) (Or.inr (slot_ne (Or.inr (ww hw 209 rfl)) (Or.inl (ww hw 205 rfl)) (by decide) (t := .int) (t' := .int) (by decide) (by decide)))) (Or.inr (slot_ne (Or.inr (ww hw 209 rfl)) (Or.inl (ww hw 176 rfl)) (by decide) (t := .int) (t' := (.array (.object "java/lang/StackTraceElement"))) (by decide) (by decide)))) (Or.inr (slot_ne (Or.inr (ww hw 209 rfl)) (Or.inl (ww hw 203 rfl)) (by decide) (t := .int) (t' := (.object "java/lang/String")) (by decide) (by decide))))
 rw [e612]
 exact ⟨rfl, N614, K613, (hp0.keep K613), f616, f615⟩
theorem d31_0 : dd jdk_59_method_2_code 0 (.aload_n 0) 1 := by decide +kernel
theorem d31_1 : dd jdk_59_method_2_code 1 (.aload_n 1) 1 := by decide +kernel
theorem d31_2 : dd jdk_59_method_2_code 2 (.invokespecial 7) 3 := by decide +kernel
theorem d31_5 : dd jdk_59_method_2_code 5 .return_ 1 := by decide +kernel
abbrev y_52 : MethodName := ⟨"java/lang/Exception", "<init>", "(Ljava/lang/String;)V"⟩
theorem pn_51 : plainFor y_52 = true := by first | exact plainFor_of_name (by first | (simp [plainName, overriddenIn]; done) | decide +kernel) | decide +kernel
theorem ef_rmEx (m : MethodId) (x1 : Addr) (x2 : Addr) : entryFrame m #[(.ref x1), (.ref x2)] 2 = mkF m 0 #[sr x1, sr x2] [] := by first | (simp [entryFrame, mkF, argsToLocals, Value.category]; done) | rfl
def Q_rmEx (Z : State) (x1 : Addr) (x2 : Addr) (us : Value) (sn : Value) (h0 : Heap) (n0 : Nat) (v : Option Value) (h : Heap) (L : List Loc) : Prop := v = none ∧ Fr n0 L ∧ Keep h0 h [x1] ∧ (Exa Z h x1 "com/example/neti/neti/cli/Failure") ∧ (Fld Z h x1 "com/example/neti/neti/cli/Failure" "status" "I" (.int 0)) ∧ (Fld Z h x1 "java/lang/Throwable" "detailMessage" "Ljava/lang/String;" (.ref x2))
set_option maxRecDepth 65536 in
set_option maxHeartbeats 40000000 in
theorem rmEx (l : Launch) (Z : State) (a0 : Array Value) (hw : ∀ d ∈ tables_1, d.before a0 Z = true) (ws : List Jvm.Cond) (x1 : Addr) (x2 : Addr) (us : Value) (sn : Value) (h0 : Heap) (n0 : Nat) (Z0 : n0 ≤ h0.size) (hp0 : Exa Z h0 x1 "com/example/neti/neti/cli/Failure") (hp1 : Fld Z h0 x1 "java/lang/Throwable" "cause" "Ljava/lang/Throwable;" .null) (hp2 : Fld Z h0 x1 "java/lang/Throwable" "stackTrace" "[Ljava/lang/StackTraceElement;" .null) (hp3 : Fld Z h0 x1 "java/lang/Throwable" "suppressedExceptions" "Ljava/util/List;" .null) (hp4 : Fld Z h0 x1 "java/lang/Throwable" "backtrace" "Ljava/lang/Object;" .null) (hp5 : Fld Z h0 x1 "java/lang/Throwable" "detailMessage" "Ljava/lang/String;" .null) (hp6 : Fld Z h0 x1 "com/example/neti/neti/cli/Failure" "status" "I" (.int 0)) (hp7 : Unx Z h0 x1) (hp8 : n0 ≤ x1) (hlt : l.stackTraces = true) (hp10 : Sta Z Z.heap "java/lang/Throwable" "UNASSIGNED_STACK" "[Ljava/lang/StackTraceElement;" us) (hp11 : Sta Z Z.heap "java/lang/Throwable" "SUPPRESSED_SENTINEL" "Ljava/util/List;" sn) (hus : us.isRef = true) (hsn : sn.isRef = true) (hun : us ≠ .null) (hp15 : Old Z n0 h0) :
    MetFree l y_52 (head1 (Jvm.Cond.code y_52 jdk_59_method_2_code 2 none :: ws) ({ frames := 4, cells := 1, slots := 2752, locals := 55 } : Room)) (fun a U => a = #[(.ref x1), (.ref x2)] ∧ Z.Warmed39 U.vm ∧ U.heap = h0) (fun _ _ bl s _ => s.vm.MethodsKnown ∧ s.vm.FramesKnown bl) (fun _ U o U' => ∃ v L, o = .returned v ∧ Q_rmEx Z x1 x2 us sn h0 n0 v U'.heap L ∧ FrameEnd U o U' L ({ frames := 4, cells := 1, slots := 2752, locals := 55 } : Room).cells ({ frames := 4, cells := 1, slots := 2752, locals := 55 } : Room).slots) := by
 refine bodyOfK pn_51 (fun m => ef_rmEx m x1 x2) ?_
 intro p e s m below meth c T0 X0 hx hby hml hown hnm hret hk hZ e0 hh hKn
 have N0 := Fr.nil n0
 have K0 : Keep h0 h0 [x1] := Keep.refl _ _
 have O0 := hp15
 refine go (S' := T0.setTop (mkF m 2 #[sr x1, sr x2] [(.ref x2), (.ref x1)])) (fun t k => XS.aloadN X0.here hx rfl (hb hby d31_0) rfl rfl (XS.aloadN X0.here hx rfl (hb hby d31_1) rfl rfl k)) ?_
 have O617 : Old Z n0 h0 := O0.keep K0 (allS hp8 all0)
 obtain ⟨v618, T618, L618, X618, hQ618, st618⟩ := callSp X0 hx hZ (y := y_51) rfl hown (ww hw 165 rfl) (ww hw 166 rfl) (ww hw 170 rfl) (by decide) (backOfKL (W := 0) (rmTh l Z a0 hw [] x1 x2 us sn h0 n0 (Nat.le_trans Z0 K0.1) hp0 hp1 hp2 hp3 hp4 hp5 hp6 hp7 hp8 hlt hp10 hp11 hus hsn hun O617) hZ (ww hw 170 rfl) (ww hw 169 rfl) (by decide) (by decide) hKn.1 hKn.2) (g := (mkF m 2 #[sr x1, sr x2] [(.ref x2), (.ref x1)])) rfl (by rw [hml]; rfl) (a := x1) (kc := 1) (ks := 2752) (argsL := [(.ref x2)]) (rest := []) (lenOf pd_19 rfl) rfl (mr0 rfl) (hb hby d31_2) e0 (by decide) (by decide)
 obtain ⟨rfl, N618q, Kq618, q618_0, q618_1, q618_2⟩ := hQ618
 have N618 := Fr.app N0 N618q
 have K619 : Keep h0 T618.heap [x1] := K0.trans Kq618 (allS (P := fun x => x ∈ [x1] ∨ h0.size ≤ x) (Or.inl (List.mem_of_getElem? (i := 0) rfl)) all0)
 refine go (S' := T618.setTop (mkF m 5 #[sr x1, sr x2] [])) st618 ?_
 refine finV X618 hx hk hret (hb hby d31_5) (by decide) (by decide) ?_
 exact ⟨rfl, N618, K619, q618_0, q618_1, q618_2⟩
theorem d30_0 : dd prog_4_method_1_code 0 (.aload_n 0) 1 := by decide +kernel
theorem d30_1 : dd prog_4_method_1_code 1 (.aload_n 2) 1 := by decide +kernel
theorem d30_2 : dd prog_4_method_1_code 2 (.invokespecial 1) 3 := by decide +kernel
theorem d30_5 : dd prog_4_method_1_code 5 (.aload_n 0) 1 := by decide +kernel
theorem d30_6 : dd prog_4_method_1_code 6 (.iload_n 1) 1 := by decide +kernel
theorem d30_7 : dd prog_4_method_1_code 7 (.putfield 7) 3 := by decide +kernel
theorem d30_10 : dd prog_4_method_1_code 10 .return_ 1 := by decide +kernel
abbrev y_53 : MethodName := ⟨"com/example/neti/neti/cli/Failure", "<init>", "(ILjava/lang/String;)V"⟩
theorem pn_52 : plainFor y_53 = true := by first | exact plainFor_of_name (by first | (simp [plainName, overriddenIn]; done) | decide +kernel) | decide +kernel
theorem ef_rmFi (m : MethodId) (x1 : Addr) (x2 : Addr) : entryFrame m #[(.ref x1), (.int 2), (.ref x2)] 3 = mkF m 0 #[sr x1, si 2, sr x2] [] := by first | (simp [entryFrame, mkF, argsToLocals, Value.category]; done) | rfl
def Q_rmFi (Z : State) (x1 : Addr) (x2 : Addr) (us : Value) (sn : Value) (h0 : Heap) (n0 : Nat) (v : Option Value) (h : Heap) (L : List Loc) : Prop := v = none ∧ Fr n0 L ∧ Keep h0 h [x1] ∧ (Exa Z h x1 "com/example/neti/neti/cli/Failure") ∧ (Fld Z h x1 "com/example/neti/neti/cli/Failure" "status" "I" (.int 2)) ∧ (Fld Z h x1 "java/lang/Throwable" "detailMessage" "Ljava/lang/String;" (.ref x2))
set_option maxRecDepth 65536 in
set_option maxHeartbeats 40000000 in
theorem rmFi (l : Launch) (Z : State) (a0 : Array Value) (hw : ∀ d ∈ tables_1, d.before a0 Z = true) (ws : List Jvm.Cond) (x1 : Addr) (x2 : Addr) (us : Value) (sn : Value) (h0 : Heap) (n0 : Nat) (Z0 : n0 ≤ h0.size) (hp0 : Exa Z h0 x1 "com/example/neti/neti/cli/Failure") (hp1 : Fld Z h0 x1 "java/lang/Throwable" "cause" "Ljava/lang/Throwable;" .null) (hp2 : Fld Z h0 x1 "java/lang/Throwable" "stackTrace" "[Ljava/lang/StackTraceElement;" .null) (hp3 : Fld Z h0 x1 "java/lang/Throwable" "suppressedExceptions" "Ljava/util/List;" .null) (hp4 : Fld Z h0 x1 "java/lang/Throwable" "backtrace" "Ljava/lang/Object;" .null) (hp5 : Fld Z h0 x1 "java/lang/Throwable" "detailMessage" "Ljava/lang/String;" .null) (hp6 : Fld Z h0 x1 "com/example/neti/neti/cli/Failure" "status" "I" (.int 0)) (hp7 : Unx Z h0 x1) (hp8 : n0 ≤ x1) (hlt : l.stackTraces = true) (hp10 : Sta Z Z.heap "java/lang/Throwable" "UNASSIGNED_STACK" "[Ljava/lang/StackTraceElement;" us) (hp11 : Sta Z Z.heap "java/lang/Throwable" "SUPPRESSED_SENTINEL" "Ljava/util/List;" sn) (hus : us.isRef = true) (hsn : sn.isRef = true) (hun : us ≠ .null) (hp15 : Old Z n0 h0) :
    MetFree l y_53 (head1 (Jvm.Cond.code y_53 prog_4_method_1_code 3 none :: ws) ({ frames := 5, cells := 1, slots := 2752, locals := 68 } : Room)) (fun a U => a = #[(.ref x1), (.int 2), (.ref x2)] ∧ Z.Warmed39 U.vm ∧ U.heap = h0) (fun _ _ bl s _ => s.vm.MethodsKnown ∧ s.vm.FramesKnown bl) (fun _ U o U' => ∃ v L, o = .returned v ∧ Q_rmFi Z x1 x2 us sn h0 n0 v U'.heap L ∧ FrameEnd U o U' L ({ frames := 5, cells := 1, slots := 2752, locals := 68 } : Room).cells ({ frames := 5, cells := 1, slots := 2752, locals := 68 } : Room).slots) := by
 refine bodyOfK pn_52 (fun m => ef_rmFi m x1 x2) ?_
 intro p e s m below meth c T0 X0 hx hby hml hown hnm hret hk hZ e0 hh hKn
 have N0 := Fr.nil n0
 have K0 : Keep h0 h0 [x1] := Keep.refl _ _
 have O0 := hp15
 refine go (S' := T0.setTop (mkF m 2 #[sr x1, si 2, sr x2] [(.ref x2), (.ref x1)])) (fun t k => XS.aloadN X0.here hx rfl (hb hby d30_0) rfl rfl (XS.aloadN X0.here hx rfl (hb hby d30_1) rfl rfl k)) ?_
 have O620 : Old Z n0 h0 := O0.keep K0 (allS hp8 all0)
 obtain ⟨v621, T621, L621, X621, hQ621, st621⟩ := callSp X0 hx hZ (y := y_52) rfl hown (ww hw 160 rfl) (ww hw 161 rfl) (ww hw 164 rfl) (by decide) (backOfKL (W := 0) (rmEx l Z a0 hw [] x1 x2 us sn h0 n0 (Nat.le_trans Z0 K0.1) hp0 hp1 hp2 hp3 hp4 hp5 hp6 hp7 hp8 hlt hp10 hp11 hus hsn hun O620) hZ (ww hw 164 rfl) (ww hw 163 rfl) (by decide) (by decide) hKn.1 hKn.2) (g := (mkF m 2 #[sr x1, si 2, sr x2] [(.ref x2), (.ref x1)])) rfl (by rw [hml]; rfl) (a := x1) (kc := 1) (ks := 2752) (argsL := [(.ref x2)]) (rest := []) (lenOf pd_19 rfl) rfl (mr0 rfl) (hb hby d30_2) e0 (by decide) (by decide)
 obtain ⟨rfl, N621q, Kq621, q621_0, q621_1, q621_2⟩ := hQ621
 have N621 := Fr.app N0 N621q
 have K622 : Keep h0 T621.heap [x1] := K0.trans Kq621 (allS (P := fun x => x ∈ [x1] ∨ h0.size ≤ x) (Or.inl (List.mem_of_getElem? (i := 0) rfl)) all0)
 refine go (S' := T621.setTop (mkF m 7 #[sr x1, si 2, sr x2] [(.int 2), (.ref x1)])) (fun t k => st621 _ (XS.aloadN X621.here hx rfl (hb hby d30_5) rfl rfl (XS.iloadN X621.here hx rfl (hb hby d30_6) rfl k))) ?_
 obtain ⟨T623, h623, X623, e623, W623, st623⟩ := putF X621 hx hZ hown (host := "") (Or.inl (ww hw 208 rfl)) Via.refl rfl q621_1 q621_0 (Or.inr ⟨(ww hw 209 rfl), rfl, hnm⟩) (ww hw 44 rfl) (ty := .int) (by decide) rfl rfl (g := (mkF m 7 #[sr x1, si 2, sr x2] [(.int 2), (.ref x1)])) rfl rfl (hb hby d30_7)
 have K624 : Keep h0 h623 [x1] := K622.wr W623 (Or.inl (List.mem_of_getElem? (i := 0) rfl))
 have N625 := Fr.snoc X623 N621 hp8
 have f626 : Fld Z h623 x1 "com/example/neti/neti/cli/Failure" "status" "I" (.int 2) := (Fld.same W623 q621_1)
 refine go (S' := T623.setTop (mkF m 10 #[sr x1, si 2, sr x2] [])) st623 ?_
 refine finV X623 hx hk hret (hb hby d30_10) (by decide) (by decide) ?_
 have f627 : Exa Z h623 x1 "com/example/neti/neti/cli/Failure" := (q621_0.wr W623)
 have f628 : Fld Z h623 x1 "java/lang/Throwable" "detailMessage" "Ljava/lang/String;" (.ref x2) := (Fld.other W623 q621_2 (Or.inr (slot_ne (Or.inl (ww hw 203 rfl)) (Or.inr (ww hw 209 rfl)) (by decide) (t := (.object "java/lang/String")) (t' := .int) (by decide) (by decide))))
 rw [e623]
 exact ⟨rfl, N625, K624, f627, f626, f628⟩
theorem d8_0 : dd prog_4_method_2_code 0 (.new 8) 3 := by decide +kernel
theorem d8_3 : dd prog_4_method_2_code 3 .dup 1 := by decide +kernel
theorem d8_4 : dd prog_4_method_2_code 4 (.iconst 2) 1 := by decide +kernel
theorem d8_5 : dd prog_4_method_2_code 5 (.new 15) 3 := by decide +kernel
theorem d8_8 : dd prog_4_method_2_code 8 .dup 1 := by decide +kernel
theorem d8_9 : dd prog_4_method_2_code 9 (.invokespecial 17) 3 := by decide +kernel
theorem d8_12 : dd prog_4_method_2_code 12 (.aload_n 0) 1 := by decide +kernel
theorem d8_13 : dd prog_4_method_2_code 13 (.invokevirtual 20) 3 := by decide +kernel
theorem pd_35 : parseMethodDescriptor "(Ljava/lang/String;)Ljava/lang/StringBuilder;" = some ⟨[(.object "java/lang/String")], some (.object "java/lang/StringBuilder")⟩ := by decide +kernel
theorem d8_16 : dd prog_4_method_2_code 16 (.ldc 24) 2 := by decide +kernel
theorem d8_18 : dd prog_4_method_2_code 18 (.invokevirtual 20) 3 := by decide +kernel
theorem d8_21 : dd prog_4_method_2_code 21 (.aload_n 1) 1 := by decide +kernel
theorem d8_22 : dd prog_4_method_2_code 22 (.invokevirtual 20) 3 := by decide +kernel
theorem d8_25 : dd prog_4_method_2_code 25 (.ldc 26) 2 := by decide +kernel
theorem d8_27 : dd prog_4_method_2_code 27 (.invokevirtual 20) 3 := by decide +kernel
theorem d8_30 : dd prog_4_method_2_code 30 (.invokevirtual 28) 3 := by decide +kernel
theorem pd_36 : parseMethodDescriptor "()Ljava/lang/String;" = some ⟨[], some (.object "java/lang/String")⟩ := by decide +kernel
theorem d8_33 : dd prog_4_method_2_code 33 (.invokespecial 32) 3 := by decide +kernel
theorem d8_36 : dd prog_4_method_2_code 36 .areturn 1 := by decide +kernel
abbrev y_54 : MethodName := ⟨"com/example/neti/neti/cli/Failure", "badCommandLine", "(Ljava/lang/String;Ljava/lang/String;)Lcom/example/neti/neti/cli/Failure;"⟩
theorem pn_53 : plainFor y_54 = true := by first | exact plainFor_of_name (by first | (simp [plainName, overriddenIn]; done) | decide +kernel) | decide +kernel
theorem ef_rmBad (m : MethodId) (x1 : Addr) (x2 : Addr) : entryFrame m #[(.ref x1), (.ref x2)] 2 = mkF m 0 #[sr x1, sr x2] [] := by first | (simp [entryFrame, mkF, argsToLocals, Value.category]; done) | rfl
def Q_rmBad (Z : State) (x1 : Addr) (x2 : Addr) (t1 : Addr) (cd1 : Int32) (cs1 : List Int32) (t2 : Addr) (cd2 : Int32) (cs2 : List Int32) (G1 : Int32) (fm : Value) (us : Value) (sn : Value) (h0 : Heap) (n0 : Nat) (v : Option Value) (h : Heap) (L : List Loc) : Prop := ∃ (f : Addr), ∃ (m_ : Addr), ∃ (tm : Addr), ∃ (cdm : Int32), v = some (.ref f) ∧ Fr n0 L ∧ Keep h0 h [] ∧ (h0.size ≤ f) ∧ (Exa Z h f "com/example/neti/neti/cli/Failure") ∧ (Fld Z h f "com/example/neti/neti/cli/Failure" "status" "I" (.int 2)) ∧ (Fld Z h f "java/lang/Throwable" "detailMessage" "Ljava/lang/String;" (.ref m_)) ∧ (Str Z h m_ tm cdm ((((([] : List Int32) ++ cs1) ++ ([32, 40, 117, 115, 97, 103, 101, 58, 32] : List Int32)) ++ cs2) ++ ([41] : List Int32)))
set_option maxRecDepth 65536 in
set_option maxHeartbeats 40000000 in
theorem rmBad (l : Launch) (Z : State) (a0 : Array Value) (hw : ∀ d ∈ tables_1, d.before a0 Z = true) (ws : List Jvm.Cond) (x1 : Addr) (x2 : Addr) (t1 : Addr) (cd1 : Int32) (cs1 : List Int32) (t2 : Addr) (cd2 : Int32) (cs2 : List Int32) (G1 : Int32) (fm : Value) (us : Value) (sn : Value) (h0 : Heap) (n0 : Nat) (Z0 : n0 ≤ h0.size) (hp0 : Str Z h0 x1 t1 cd1 cs1) (hp1 : Str Z h0 x2 t2 cd2 cs2) (hl1 : cs1.length ≤ 2) (hl2 : cs2.length ≤ 2) (hlt : l.stackTraces = true) (hp5 : Sta Z Z.heap "java/lang/Throwable" "UNASSIGNED_STACK" "[Ljava/lang/StackTraceElement;" us) (hp6 : Sta Z Z.heap "java/lang/Throwable" "SUPPRESSED_SENTINEL" "Ljava/util/List;" sn) (hus : us.isRef = true) (hsn : sn.isRef = true) (hun : us ≠ .null) (hfm : fm.isRef = true) (hp11 : Sta Z Z.heap "jdk/internal/util/Preconditions" "SIOOBE_FORMATTER" "Ljava/util/function/BiFunction;" fm) (hp12 : Sta Z Z.heap "java/lang/String" "COMPACT_STRINGS" "Z" (.int G1)) (hG1 : ¬ (G1 = (0 : Int32))) (hp14 : Sta Z Z.heap "java/lang/StringUTF16" "$assertionsDisabled" "Z" (.int 1)) (hp15 : Sta Z Z.heap "java/lang/StringUTF16" "HI_BYTE_SHIFT" "I" (.int 0)) (hp16 : Sta Z Z.heap "java/lang/StringUTF16" "LO_BYTE_SHIFT" "I" (.int 8)) (hp17 : Old Z n0 h0) :
    MetFree l y_54 (head1 (Jvm.Cond.code y_54 prog_4_method_2_code 2 (some (.object "com/example/neti/neti/cli/Failure")) :: ws) ({ frames := 10, cells := 11, slots := 2891, locals := 146 } : Room)) (fun a U => a = #[(.ref x1), (.ref x2)] ∧ Z.Warmed39 U.vm ∧ U.heap = h0 ∧ CHv Z consts_1 U.vm h0 ∧ ∀ x ∈ ([] : List Addr), Safe Z consts_1 U.vm h0 x) (fun _ _ bl s _ => s.vm.MethodsKnown ∧ s.vm.FramesKnown bl) (fun _ U o U' => ∃ v L, o = .returned v ∧ Q_rmBad Z x1 x2 t1 cd1 cs1 t2 cd2 cs2 G1 fm us sn h0 n0 v U'.heap L ∧ CHr Z consts_1 U.vm U.heap U'.vm U'.heap ∧ ReturnedEndW U o U' L ({ frames := 10, cells := 11, slots := 2891, locals := 146 } : Room).cells ({ frames := 10, cells := 11, slots := 2891, locals := 146 } : Room).slots) := by
 refine bodyOfWK pn_53 (fun m => ef_rmBad m x1 x2) ?_
 intro p e s m below meth c T0 X0 hx hby hml hown hnm hret hk hZ e0 hS C0 hsf hKn
 have hkS := Nat.le_refl h0.size
 have N0 := Fr.nil n0
 have K0 : Keep h0 h0 [] := Keep.refl _ _
 have O0 := hp17
 obtain ⟨_, _, _, -, -, -, -, hcq1, hbb1, -⟩ := id hp0
 obtain ⟨_, _, _, -, -, -, -, hcq2, hbb2, -⟩ := id hp1
 have hd1 : cd1 = 0 ∨ cd1 = 1 := hcq1.imp (·.1) (·.1)
 have hd2 : cd2 = 0 ∨ cd2 = 1 := hcq2.imp (·.1) (·.1)
 rcases hd1 with rfl | rfl
 ·
  rcases hd2 with rfl | rfl
  ·
   have hx1 := hcq1.elim (fun q => q.2.2.2) (fun q => absurd q.1 (by decide))
   have hx2 := hcq2.elim (fun q => q.2.2.2) (fun q => absurd q.1 (by decide))
   obtain ⟨T629, h629, X629, e629, E629, A629, D629, Un629, st629⟩ := newO X0 hx hZ hown (ww hw 43 rfl) (ww hw 44 rfl) (ww hw 41 rfl) e0 (g := (mkF m 0 #[sr x1, sr x2] [])) rfl (hb hby d8_0) (by decide) (by decide)
   obtain ⟨b629, g629⟩ : ∃ z, z = h0.size := ⟨_, rfl⟩
   rw [← g629] at A629 D629 Un629 st629
   have lt_x1_b629 : x1 < b629 := by rw [g629]; exact hp0.lt1
   have lt_t1_b629 : t1 < b629 := by rw [g629]; exact hp0.lt2
   have lt_x2_b629 : x2 < b629 := by rw [g629]; exact hp1.lt1
   have lt_t2_b629 : t2 < b629 := by rw [g629]; exact hp1.lt2
   have ge_b629 : n0 ≤ b629 := by rw [g629]; exact (Nat.le_trans Z0 K0.1)
   have sz_b629 : h0.size ≤ b629 := by rw [g629]; exact K0.1
   have K630 : Keep h0 h629 [] := K0.ext E629
   have hkS := Nat.le_trans hkS E629.1
   have C631 := C0.trans (CHr.ext E629 C0.1)
   have Ux629 : Unx Z h629 b629 := Un629
   refine go (S' := T629.setTop (mkF m 5 #[sr x1, sr x2] [(.int 2), (.ref b629), (.ref b629)])) (fun t k => st629 _ (XS.dup X629.here hx rfl (hb hby d8_3) rfl rfl (XS.iconst X629.here hx rfl (hb hby d8_4) k))) ?_
   obtain ⟨T632, h632, X632, e632, E632, A632, D632, -, st632⟩ := newO X629 hx hZ hown (ww hw 45 rfl) (ww hw 46 rfl) (ww hw 47 rfl) e629 (g := (mkF m 5 #[sr x1, sr x2] [(.int 2), (.ref b629), (.ref b629)])) rfl (hb hby d8_5) (by decide) (by decide)
   obtain ⟨b632, g632⟩ : ∃ z, z = h629.size := ⟨_, rfl⟩
   rw [← g632] at A632 D632 st632
   have lt_x1_b632 : x1 < b632 := by rw [g632]; exact (hp0.keep K630 nin0 nin0).lt1
   have lt_t1_b632 : t1 < b632 := by rw [g632]; exact (hp0.keep K630 nin0 nin0).lt2
   have lt_x2_b632 : x2 < b632 := by rw [g632]; exact (hp1.keep K630 nin0 nin0).lt1
   have lt_t2_b632 : t2 < b632 := by rw [g632]; exact (hp1.keep K630 nin0 nin0).lt2
   have lt_b629_b632 : b629 < b632 := by rw [g632]; exact A629.lt
   have ge_b632 : n0 ≤ b632 := by rw [g632]; exact (Nat.le_trans Z0 K630.1)
   have sz_b632 : h0.size ≤ b632 := by rw [g632]; exact K630.1
   have K633 : Keep h0 h632 [] := K630.ext E632
   have hkS := Nat.le_trans hkS E632.1
   have C634 := C631.trans (CHr.ext E632 C631.1)
   refine go (S' := T632.setTop (mkF m 9 #[sr x1, sr x2] [(.ref b632), (.ref b632), (.int 2), (.ref b629), (.ref b629)])) (fun t k => st632 _ (XS.dup X632.here hx rfl (hb hby d8_8) rfl rfl k)) ?_
   have O635 : Old Z n0 h632 := O0.keep K633 all0
   obtain ⟨v636, T636, L636, X636, hQ636, st636⟩ := callSp X632 hx hZ (y := y_34) rfl hown (ww hw 48 rfl) (ww hw 49 rfl) (ww hw 50 rfl) (by decide) (backOf (W := 4) (rmSbi l Z a0 hw [] b632 G1 h632 n0 (Nat.le_trans Z0 K633.1) A632 (D632 (Or.inl (ww hw 60 rfl)) (ty := (.array .byte)) (by decide)) (D632 (Or.inl (ww hw 62 rfl)) (ty := .byte) (by decide)) (D632 (Or.inl (ww hw 84 rfl)) (ty := .int) (by decide)) (D632 (Or.inl (ww hw 309 rfl)) (ty := .boolean) (by decide)) ge_b632 hp12 hG1 O635) hZ (ww hw 50 rfl) (ww hw 47 rfl) (by decide) (by decide)) (g := (mkF m 9 #[sr x1, sr x2] [(.ref b632), (.ref b632), (.int 2), (.ref b629), (.ref b629)])) rfl (by rw [hml]; rfl) (a := b632) (kc := 1) (ks := 16) (argsL := []) (rest := [(.ref b632), (.int 2), (.ref b629), (.ref b629)]) (lenOf pd_18 rfl) rfl (mr0 rfl) (hb hby d8_9) e632 (by decide) (by decide)
   obtain ⟨tv_636, kb_636, rfl, N636q, Kq636, q636_0, q636_1, q636_2, q636_3, q636_4, q636_5⟩ := hQ636
   have N636 := Fr.app N0 N636q
   have f637 : Exa Z h632 b629 "com/example/neti/neti/cli/Failure" := (A629.ext E632)
   have hkS := Nat.le_trans hkS Kq636.1
   have C638 := C634.trans (CHr.keep Kq636 (allS (Safe.exa hZ.alike A632 (by decide) (by decide)) all0) C634.1)
   have K639 : Keep h0 T636.heap [] := K633.trans Kq636 (allS (P := fun x => x ∈ [] ∨ h0.size ≤ x) (Or.inr sz_b632) all0)
   have lt_x1_tv_636 : x1 < tv_636 := Nat.lt_of_lt_of_le (hp0.keep K633 nin0 nin0).lt1 q636_0
   have lt_t1_tv_636 : t1 < tv_636 := Nat.lt_of_lt_of_le (hp0.keep K633 nin0 nin0).lt2 q636_0
   have lt_x2_tv_636 : x2 < tv_636 := Nat.lt_of_lt_of_le (hp1.keep K633 nin0 nin0).lt1 q636_0
   have lt_t2_tv_636 : t2 < tv_636 := Nat.lt_of_lt_of_le (hp1.keep K633 nin0 nin0).lt2 q636_0
   have lt_b629_tv_636 : b629 < tv_636 := Nat.lt_of_lt_of_le f637.lt q636_0
   have lt_b632_tv_636 : b632 < tv_636 := Nat.lt_of_lt_of_le A632.lt q636_0
   have sz_tv_636 : h0.size ≤ tv_636 := Nat.le_trans K633.1 q636_0
   have ge_tv_636 : n0 ≤ tv_636 := Nat.le_trans Z0 sz_tv_636
   have sf640 := Safe.keep Kq636 (allS (Safe.exa hZ.alike A632 (by decide) (by decide)) all0) C634.1 (Safe.new q636_0)
   refine go (S' := T636.setTop (mkF m 13 #[sr x1, sr x2] [(.ref x1), (.ref b632), (.int 2), (.ref b629), (.ref b629)])) (fun t k => st636 _ (XS.aloadN X636.here hx rfl (hb hby d8_12) rfl rfl k)) ?_
   have f641 : Exa Z T636.heap b632 "java/lang/StringBuilder" := (A632.keep Kq636)
   have O642 : Old Z n0 T636.heap := O0.keep K639 all0
   obtain ⟨v643, T643, L643, X643, hQ643, st643⟩ := callV X636 hx hZ (y := y_32) (z := y_32) hown (ww hw 63 rfl) (ww hw 64 rfl) (notFace_of_selects (args := #[]) (mvT hZ (ww hw 66 rfl))) (ww hw 66 rfl) (ww hw 65 rfl) (by decide) (backOf (W := 3) (rmSa00 l Z a0 hw [] b632 x1 tv_636 kb_636 ([] : List Int32) t1 cs1 G1 fm T636.heap n0 (Nat.le_trans Z0 K639.1) f641 q636_1 q636_2 q636_3 q636_4 q636_5 (hp0.keep K639 nin0 nin0) (by simp only [List.length_append, List.length_nil, List.length_cons]; omega) ge_b632 ge_tv_636 (Nat.ne_of_lt lt_t1_tv_636) (Nat.ne_of_lt lt_t1_b632) (Nat.ne_of_lt lt_x1_b632) (Nat.ne_of_lt lt_x1_tv_636) (Nat.ne_of_gt lt_b632_tv_636) hfm hp11 hp12 hG1 hp14 hp15 hp16 O642) hZ (ww hw 67 rfl) (ww hw 47 rfl) (by decide) (by decide)) f641 (g := (mkF m 13 #[sr x1, sr x2] [(.ref x1), (.ref b632), (.int 2), (.ref b629), (.ref b629)])) rfl (by rw [hml]; rfl) (kc := 0) (ks := 0) (argsL := [(.ref x1)]) (rest := [(.int 2), (.ref b629), (.ref b629)]) (lenOf pd_35 rfl) rfl (mr0 rfl) (hb hby d8_13) rfl (by decide) (by decide)
   obtain ⟨rfl, N643q, Kq643, q643_0, q643_1, q643_2, q643_3, q643_4⟩ := hQ643
   have N643 := Fr.app N636 N643q
   have hkS := Nat.le_trans hkS Kq643.1
   have C644 := C638.trans (CHr.keep Kq643 (allS (Safe.exa hZ.alike f641 (by decide) (by decide)) (allS sf640 all0)) C638.1)
   have sf645 := Safe.keep Kq643 (allS (Safe.exa hZ.alike f641 (by decide) (by decide)) (allS sf640 all0)) C638.1 sf640
   have K646 : Keep h0 T643.heap [] := K639.trans Kq643 (allS (P := fun x => x ∈ [] ∨ h0.size ≤ x) (Or.inr sz_b632) (allS (P := fun x => x ∈ [] ∨ h0.size ≤ x) (Or.inr sz_tv_636) all0))
   refine go (S' := T643.setTop (mkF m 16 #[sr x1, sr x2] [(.ref b632), (.int 2), (.ref b629), (.ref b629)])) st643 ?_
   have f648 : Exa Z T643.heap b629 "com/example/neti/neti/cli/Failure" := ((f637.keep Kq636).keep Kq643)
   have f649 : Exa Z T643.heap b632 "java/lang/StringBuilder" := (f641.keep Kq643)
   obtain ⟨la647, T647, h647, k647, lb647, lk647, X647, e647, E647, hS, hkS, hZ, hown, lE647, lC647, lV647, lA647, la647_lt, lb647_lt, Cq647, lit647, lne647, st647⟩ := ldcCH X643 hx hZ hown (ww hw 110 rfl) (own_sub own_strAtoms hw) rfl hS hkS (own_EW hw) (by decide) C644.1 (vs := [(.int 32), (.int 40), (.int 117), (.int 115), (.int 97), (.int 103), (.int 101), (.int 58), (.int 32)]) (z := (9 : Int32)) ⟨by decide, by decide⟩ (by decide) (by decide) (g := (mkF m 16 #[sr x1, sr x2] [(.ref b632), (.int 2), (.ref b629), (.ref b629)])) rfl (hb hby d8_16) (n := 36) (by decide) (by decide) (by decide) (by decide)
   have K650 : Keep h0 h647 [] := K646.ext E647
   have C651 := C644.trans Cq647
   have sf652 := CHr.safe Cq647 q643_4.lt sf645
   have ne_tv_636_la647 := (lne647 tv_636 sf652).1
   have ne_tv_636_lb647 := (lne647 tv_636 sf652).2
   have f653 : Exa Z h647 b629 "com/example/neti/neti/cli/Failure" := (f648.ext E647)
   have ne_b629_la647 := (lne647 b629 (Safe.exa hZ.alike f653 (by decide) (by decide))).1
   have ne_b629_lb647 := (lne647 b629 (Safe.exa hZ.alike f653 (by decide) (by decide))).2
   have f654 : Exa Z h647 b632 "java/lang/StringBuilder" := (f649.ext E647)
   have ne_b632_la647 := (lne647 b632 (Safe.exa hZ.alike f654 (by decide) (by decide))).1
   have ne_b632_lb647 := (lne647 b632 (Safe.exa hZ.alike f654 (by decide) (by decide))).2
   have lstr647 : Str Z h647 la647 lb647 (0 : Int32) ([32, 40, 117, 115, 97, 103, 101, 58, 32] : List Int32) := ⟨_, _, _, lE647, lV647, lC647, lA647, own_codOf rfl (by decide), by decide, Nat.le_of_ble_eq_true rfl⟩
   refine go (S' := T647.setTop (mkF m 18 #[sr x1, sr x2] [(.ref la647), (.ref b632), (.int 2), (.ref b629), (.ref b629)])) st647 ?_
   have f655 : Fld Z h647 b632 "java/lang/AbstractStringBuilder" "value" "[B" (.ref tv_636) := (q643_0.ext E647)
   have f656 : Fld Z h647 b632 "java/lang/AbstractStringBuilder" "coder" "B" (.int 0) := (q643_1.ext E647)
   have f657 : Fld Z h647 b632 "java/lang/AbstractStringBuilder" "count" "I" (.int (Int32.ofNat (([] : List Int32) ++ cs1).length)) := (q643_2.ext E647)
   have f658 : Fld Z h647 b632 "java/lang/AbstractStringBuilder" "maybeLatin1" "Z" (.int 0) := (q643_3.ext E647)
   have f659 : Arv Z h647 tv_636 kb_636 .byte (16 : Int32) ((([] : List Int32) ++ cs1).map fun c => Value.int (StrChars.lo8 c)) (.int 0) := (q643_4.ext E647)
   have O660 : Old Z n0 h647 := O0.keep K650 all0
   obtain ⟨v661, T661, L661, X661, hQ661, st661⟩ := callV X647 hx hZ (y := y_32) (z := y_32) hown (ww hw 63 rfl) (ww hw 64 rfl) (notFace_of_selects (args := #[]) (mvT hZ (ww hw 66 rfl))) (ww hw 66 rfl) (ww hw 65 rfl) (by decide) (backOf (W := 3) (rmSa00 l Z a0 hw [] b632 la647 tv_636 kb_636 (([] : List Int32) ++ cs1) lb647 ([32, 40, 117, 115, 97, 103, 101, 58, 32] : List Int32) G1 fm h647 n0 (Nat.le_trans Z0 K650.1) f654 f655 f656 f657 f658 f659 lstr647 (by simp only [List.length_append, List.length_nil, List.length_cons]; omega) ge_b632 ge_tv_636 (Ne.symm ne_tv_636_lb647) (Ne.symm ne_b632_lb647) (Ne.symm ne_b632_la647) (Ne.symm ne_tv_636_la647) (Nat.ne_of_gt lt_b632_tv_636) hfm hp11 hp12 hG1 hp14 hp15 hp16 O660) hZ (ww hw 67 rfl) (ww hw 47 rfl) (by decide) (by decide)) f654 (g := (mkF m 18 #[sr x1, sr x2] [(.ref la647), (.ref b632), (.int 2), (.ref b629), (.ref b629)])) rfl (by rw [hml]; rfl) (kc := 0) (ks := 0) (argsL := [(.ref la647)]) (rest := [(.int 2), (.ref b629), (.ref b629)]) (lenOf pd_35 rfl) rfl (mr0 rfl) (hb hby d8_18) e647 (by decide) (by decide)
   obtain ⟨rfl, N661q, Kq661, q661_0, q661_1, q661_2, q661_3, q661_4⟩ := hQ661
   have N661 := Fr.app N643 N661q
   have hkS := Nat.le_trans hkS Kq661.1
   have C662 := C651.trans (CHr.keep Kq661 (allS (Safe.exa hZ.alike f654 (by decide) (by decide)) (allS sf652 all0)) C651.1)
   have sf663 := Safe.keep Kq661 (allS (Safe.exa hZ.alike f654 (by decide) (by decide)) (allS sf652 all0)) C651.1 sf652
   have K664 : Keep h0 T661.heap [] := K650.trans Kq661 (allS (P := fun x => x ∈ [] ∨ h0.size ≤ x) (Or.inr sz_b632) (allS (P := fun x => x ∈ [] ∨ h0.size ≤ x) (Or.inr sz_tv_636) all0))
   refine go (S' := T661.setTop (mkF m 22 #[sr x1, sr x2] [(.ref x2), (.ref b632), (.int 2), (.ref b629), (.ref b629)])) (fun t k => st661 _ (XS.aloadN X661.here hx rfl (hb hby d8_21) rfl rfl k)) ?_
   have f665 : Exa Z T661.heap b632 "java/lang/StringBuilder" := (f654.keep Kq661)
   have O666 : Old Z n0 T661.heap := O0.keep K664 all0
   obtain ⟨v667, T667, L667, X667, hQ667, st667⟩ := callV X661 hx hZ (y := y_32) (z := y_32) hown (ww hw 63 rfl) (ww hw 64 rfl) (notFace_of_selects (args := #[]) (mvT hZ (ww hw 66 rfl))) (ww hw 66 rfl) (ww hw 65 rfl) (by decide) (backOf (W := 3) (rmSa00 l Z a0 hw [] b632 x2 tv_636 kb_636 ((([] : List Int32) ++ cs1) ++ ([32, 40, 117, 115, 97, 103, 101, 58, 32] : List Int32)) t2 cs2 G1 fm T661.heap n0 (Nat.le_trans Z0 K664.1) f665 q661_0 q661_1 q661_2 q661_3 q661_4 (hp1.keep K664 nin0 nin0) (by simp only [List.length_append, List.length_nil, List.length_cons]; omega) ge_b632 ge_tv_636 (Nat.ne_of_lt lt_t2_tv_636) (Nat.ne_of_lt lt_t2_b632) (Nat.ne_of_lt lt_x2_b632) (Nat.ne_of_lt lt_x2_tv_636) (Nat.ne_of_gt lt_b632_tv_636) hfm hp11 hp12 hG1 hp14 hp15 hp16 O666) hZ (ww hw 67 rfl) (ww hw 47 rfl) (by decide) (by decide)) f665 (g := (mkF m 22 #[sr x1, sr x2] [(.ref x2), (.ref b632), (.int 2), (.ref b629), (.ref b629)])) rfl (by rw [hml]; rfl) (kc := 0) (ks := 0) (argsL := [(.ref x2)]) (rest := [(.int 2), (.ref b629), (.ref b629)]) (lenOf pd_35 rfl) rfl (mr0 rfl) (hb hby d8_22) rfl (by decide) (by decide)
   obtain ⟨rfl, N667q, Kq667, q667_0, q667_1, q667_2, q667_3, q667_4⟩ := hQ667
   have N667 := Fr.app N661 N667q
   have hkS := Nat.le_trans hkS Kq667.1
   have C668 := C662.trans (CHr.keep Kq667 (allS (Safe.exa hZ.alike f665 (by decide) (by decide)) (allS sf663 all0)) C662.1)
   have sf669 := Safe.keep Kq667 (allS (Safe.exa hZ.alike f665 (by decide) (by decide)) (allS sf663 all0)) C662.1 sf663
   have K670 : Keep h0 T667.heap [] := K664.trans Kq667 (allS (P := fun x => x ∈ [] ∨ h0.size ≤ x) (Or.inr sz_b632) (allS (P := fun x => x ∈ [] ∨ h0.size ≤ x) (Or.inr sz_tv_636) all0))
   refine go (S' := T667.setTop (mkF m 25 #[sr x1, sr x2] [(.ref b632), (.int 2), (.ref b629), (.ref b629)])) st667 ?_
   have f672 : Exa Z T667.heap b629 "com/example/neti/neti/cli/Failure" := ((f653.keep Kq661).keep Kq667)
   have f673 : Exa Z T667.heap b632 "java/lang/StringBuilder" := (f665.keep Kq667)
   have f674 : Str Z T667.heap la647 lb647 (0 : Int32) ([32, 40, 117, 115, 97, 103, 101, 58, 32] : List Int32) := ((lstr647.keep Kq661 (ninS (Ne.symm ne_b632_la647) (ninS (Ne.symm ne_tv_636_la647) nin0)) (ninS (Ne.symm ne_b632_lb647) (ninS (Ne.symm ne_tv_636_lb647) nin0))).keep Kq667 (ninS (Ne.symm ne_b632_la647) (ninS (Ne.symm ne_tv_636_la647) nin0)) (ninS (Ne.symm ne_b632_lb647) (ninS (Ne.symm ne_tv_636_lb647) nin0)))
   obtain ⟨la671, T671, h671, k671, lb671, lk671, X671, e671, E671, hS, hkS, hZ, hown, lE671, lC671, lV671, lA671, la671_lt, lb671_lt, Cq671, lit671, lne671, st671⟩ := ldcCH X667 hx hZ hown (ww hw 111 rfl) (own_sub own_strAtoms hw) rfl hS hkS (own_EW hw) (by decide) C668.1 (vs := [(.int 41)]) (z := (1 : Int32)) ⟨by decide, by decide⟩ (by decide) (by decide) (g := (mkF m 25 #[sr x1, sr x2] [(.ref b632), (.int 2), (.ref b629), (.ref b629)])) rfl (hb hby d8_25) (n := 4) (by decide) (by decide) (by decide) (by decide)
   have K675 : Keep h0 h671 [] := K670.ext E671
   have C676 := C668.trans Cq671
   have sf677 := CHr.safe Cq671 q667_4.lt sf669
   have ne_tv_636_la671 := (lne671 tv_636 sf677).1
   have ne_tv_636_lb671 := (lne671 tv_636 sf677).2
   have f678 : Exa Z h671 b629 "com/example/neti/neti/cli/Failure" := (f672.ext E671)
   have ne_b629_la671 := (lne671 b629 (Safe.exa hZ.alike f678 (by decide) (by decide))).1
   have ne_b629_lb671 := (lne671 b629 (Safe.exa hZ.alike f678 (by decide) (by decide))).2
   have f679 : Exa Z h671 b632 "java/lang/StringBuilder" := (f673.ext E671)
   have ne_b632_la671 := (lne671 b632 (Safe.exa hZ.alike f679 (by decide) (by decide))).1
   have ne_b632_lb671 := (lne671 b632 (Safe.exa hZ.alike f679 (by decide) (by decide))).2
   have lstr671 : Str Z h671 la671 lb671 (0 : Int32) ([41] : List Int32) := ⟨_, _, _, lE671, lV671, lC671, lA671, own_codOf rfl (by decide), by decide, Nat.le_of_ble_eq_true rfl⟩
   refine go (S' := T671.setTop (mkF m 27 #[sr x1, sr x2] [(.ref la671), (.ref b632), (.int 2), (.ref b629), (.ref b629)])) st671 ?_
   have f680 : Fld Z h671 b632 "java/lang/AbstractStringBuilder" "value" "[B" (.ref tv_636) := (q667_0.ext E671)
   have f681 : Fld Z h671 b632 "java/lang/AbstractStringBuilder" "coder" "B" (.int 0) := (q667_1.ext E671)
   have f682 : Fld Z h671 b632 "java/lang/AbstractStringBuilder" "count" "I" (.int (Int32.ofNat (((([] : List Int32) ++ cs1) ++ ([32, 40, 117, 115, 97, 103, 101, 58, 32] : List Int32)) ++ cs2).length)) := (q667_2.ext E671)
   have f683 : Fld Z h671 b632 "java/lang/AbstractStringBuilder" "maybeLatin1" "Z" (.int 0) := (q667_3.ext E671)
   have f684 : Arv Z h671 tv_636 kb_636 .byte (16 : Int32) ((((([] : List Int32) ++ cs1) ++ ([32, 40, 117, 115, 97, 103, 101, 58, 32] : List Int32)) ++ cs2).map fun c => Value.int (StrChars.lo8 c)) (.int 0) := (q667_4.ext E671)
   have O685 : Old Z n0 h671 := O0.keep K675 all0
   obtain ⟨v686, T686, L686, X686, hQ686, st686⟩ := callV X671 hx hZ (y := y_32) (z := y_32) hown (ww hw 63 rfl) (ww hw 64 rfl) (notFace_of_selects (args := #[]) (mvT hZ (ww hw 66 rfl))) (ww hw 66 rfl) (ww hw 65 rfl) (by decide) (backOf (W := 3) (rmSa00 l Z a0 hw [] b632 la671 tv_636 kb_636 (((([] : List Int32) ++ cs1) ++ ([32, 40, 117, 115, 97, 103, 101, 58, 32] : List Int32)) ++ cs2) lb671 ([41] : List Int32) G1 fm h671 n0 (Nat.le_trans Z0 K675.1) f679 f680 f681 f682 f683 f684 lstr671 (by simp only [List.length_append, List.length_nil, List.length_cons]; omega) ge_b632 ge_tv_636 (Ne.symm ne_tv_636_lb671) (Ne.symm ne_b632_lb671) (Ne.symm ne_b632_la671) (Ne.symm ne_tv_636_la671) (Nat.ne_of_gt lt_b632_tv_636) hfm hp11 hp12 hG1 hp14 hp15 hp16 O685) hZ (ww hw 67 rfl) (ww hw 47 rfl) (by decide) (by decide)) f679 (g := (mkF m 27 #[sr x1, sr x2] [(.ref la671), (.ref b632), (.int 2), (.ref b629), (.ref b629)])) rfl (by rw [hml]; rfl) (kc := 0) (ks := 0) (argsL := [(.ref la671)]) (rest := [(.int 2), (.ref b629), (.ref b629)]) (lenOf pd_35 rfl) rfl (mr0 rfl) (hb hby d8_27) e671 (by decide) (by decide)
   obtain ⟨rfl, N686q, Kq686, q686_0, q686_1, q686_2, q686_3, q686_4⟩ := hQ686
   have N686 := Fr.app N667 N686q
   have hkS := Nat.le_trans hkS Kq686.1
   have C687 := C676.trans (CHr.keep Kq686 (allS (Safe.exa hZ.alike f679 (by decide) (by decide)) (allS sf677 all0)) C676.1)
   have sf688 := Safe.keep Kq686 (allS (Safe.exa hZ.alike f679 (by decide) (by decide)) (allS sf677 all0)) C676.1 sf677
   have K689 : Keep h0 T686.heap [] := K675.trans Kq686 (allS (P := fun x => x ∈ [] ∨ h0.size ≤ x) (Or.inr sz_b632) (allS (P := fun x => x ∈ [] ∨ h0.size ≤ x) (Or.inr sz_tv_636) all0))
   refine go (S' := T686.setTop (mkF m 30 #[sr x1, sr x2] [(.ref b632), (.int 2), (.ref b629), (.ref b629)])) st686 ?_
   have f690 : Exa Z T686.heap b632 "java/lang/StringBuilder" := (f679.keep Kq686)
   have O691 : Old Z n0 T686.heap := O0.keep K689 all0
   obtain ⟨v692, T692, L692, X692, hQ692, st692⟩ := callV X686 hx hZ (y := y_44) (z := y_44) hown (ww hw 112 rfl) (ww hw 113 rfl) (notFace_of_selects (args := #[]) (mvT hZ (ww hw 115 rfl))) (ww hw 115 rfl) (ww hw 114 rfl) (by decide) (backOf (W := 3) (rmTos0 l Z a0 hw [] b632 tv_636 kb_636 ((((([] : List Int32) ++ cs1) ++ ([32, 40, 117, 115, 97, 103, 101, 58, 32] : List Int32)) ++ cs2) ++ ([41] : List Int32)) G1 T686.heap n0 (Nat.le_trans Z0 K689.1) f690 q686_0 q686_1 q686_2 q686_3 q686_4 (own_all (own_all (own_all (own_all (fun _ q => nomatch q) hbb1) (by decide)) hbb2) (by decide)) (by simp only [List.length_append, List.length_nil, List.length_cons]; omega) (own_all (own_all (own_all (own_all (fun _ q => nomatch q) hx1) (by decide)) hx2) (by decide)) hp12 hG1 O691) hZ (ww hw 116 rfl) (ww hw 47 rfl) (by decide) (by decide)) f690 (g := (mkF m 30 #[sr x1, sr x2] [(.ref b632), (.int 2), (.ref b629), (.ref b629)])) rfl (by rw [hml]; rfl) (kc := 2) (ks := 32) (argsL := []) (rest := [(.int 2), (.ref b629), (.ref b629)]) (lenOf pd_36 rfl) rfl (mr0 rfl) (hb hby d8_30) rfl (by decide) (by decide)
   obtain ⟨x_692, t3_692, rfl, N692q, Kq692, q692_0, q692_1⟩ := hQ692
   have N692 := Fr.app N686 N692q
   have f693 : Exa Z T686.heap b629 "com/example/neti/neti/cli/Failure" := (f678.keep Kq686)
   have f694 : Str Z T686.heap la647 lb647 (0 : Int32) ([32, 40, 117, 115, 97, 103, 101, 58, 32] : List Int32) := ((f674.ext E671).keep Kq686 (ninS (Ne.symm ne_b632_la647) (ninS (Ne.symm ne_tv_636_la647) nin0)) (ninS (Ne.symm ne_b632_lb647) (ninS (Ne.symm ne_tv_636_lb647) nin0)))
   have f695 : Str Z T686.heap la671 lb671 (0 : Int32) ([41] : List Int32) := (lstr671.keep Kq686 (ninS (Ne.symm ne_b632_la671) (ninS (Ne.symm ne_tv_636_la671) nin0)) (ninS (Ne.symm ne_b632_lb671) (ninS (Ne.symm ne_tv_636_lb671) nin0)))
   have hkS := Nat.le_trans hkS Kq692.1
   have C696 := C687.trans (CHr.keep Kq692 all0 C687.1)
   have sf697 := Safe.keep Kq692 all0 C687.1 sf688
   have K698 : Keep h0 T692.heap [] := K689.trans Kq692 all0
   have lt_x1_x_692 : x1 < x_692 := Nat.lt_of_lt_of_le (hp0.keep K689 nin0 nin0).lt1 q692_0
   have lt_t1_x_692 : t1 < x_692 := Nat.lt_of_lt_of_le (hp0.keep K689 nin0 nin0).lt2 q692_0
   have lt_x2_x_692 : x2 < x_692 := Nat.lt_of_lt_of_le (hp1.keep K689 nin0 nin0).lt1 q692_0
   have lt_t2_x_692 : t2 < x_692 := Nat.lt_of_lt_of_le (hp1.keep K689 nin0 nin0).lt2 q692_0
   have lt_b629_x_692 : b629 < x_692 := Nat.lt_of_lt_of_le f693.lt q692_0
   have lt_b632_x_692 : b632 < x_692 := Nat.lt_of_lt_of_le f690.lt q692_0
   have lt_tv_636_x_692 : tv_636 < x_692 := Nat.lt_of_lt_of_le q686_4.lt q692_0
   have lt_la647_x_692 : la647 < x_692 := Nat.lt_of_lt_of_le f694.lt1 q692_0
   have lt_lb647_x_692 : lb647 < x_692 := Nat.lt_of_lt_of_le f694.lt2 q692_0
   have lt_la671_x_692 : la671 < x_692 := Nat.lt_of_lt_of_le f695.lt1 q692_0
   have lt_lb671_x_692 : lb671 < x_692 := Nat.lt_of_lt_of_le f695.lt2 q692_0
   have sz_x_692 : h0.size ≤ x_692 := Nat.le_trans K689.1 q692_0
   have ge_x_692 : n0 ≤ x_692 := Nat.le_trans Z0 sz_x_692
   have ne_t3_692_b629 : t3_692 ≠ b629 := q692_1.ne2 (f693.keep Kq692) (ww hw 44 rfl)
   have ne_t3_692_b632 : t3_692 ≠ b632 := q692_1.ne2 (f690.keep Kq692) (ww hw 46 rfl)
   refine go (S' := T692.setTop (mkF m 33 #[sr x1, sr x2] [(.ref x_692), (.int 2), (.ref b629), (.ref b629)])) st692 ?_
   have f699 : Exa Z T692.heap b629 "com/example/neti/neti/cli/Failure" := (f693.keep Kq692)
   have f700 : Fld Z T692.heap b629 "java/lang/Throwable" "cause" "Ljava/lang/Throwable;" .null := ((((((((((D629 (Or.inl (ww hw 173 rfl)) (ty := (.object "java/lang/Throwable")) (by decide)).ext E632).keep Kq636 (ninS (Nat.ne_of_lt lt_b629_b632) nin0)).keep Kq643 (ninS (Nat.ne_of_lt lt_b629_b632) (ninS (Nat.ne_of_lt lt_b629_tv_636) nin0))).ext E647).keep Kq661 (ninS (Nat.ne_of_lt lt_b629_b632) (ninS (Nat.ne_of_lt lt_b629_tv_636) nin0))).keep Kq667 (ninS (Nat.ne_of_lt lt_b629_b632) (ninS (Nat.ne_of_lt lt_b629_tv_636) nin0))).ext E671).keep Kq686 (ninS (Nat.ne_of_lt lt_b629_b632) (ninS (Nat.ne_of_lt lt_b629_tv_636) nin0))).keep Kq692 nin0)
   have f701 : Fld Z T692.heap b629 "java/lang/Throwable" "stackTrace" "[Ljava/lang/StackTraceElement;" .null := ((((((((((D629 (Or.inl (ww hw 176 rfl)) (ty := (.array (.object "java/lang/StackTraceElement"))) (by decide)).ext E632).keep Kq636 (ninS (Nat.ne_of_lt lt_b629_b632) nin0)).keep Kq643 (ninS (Nat.ne_of_lt lt_b629_b632) (ninS (Nat.ne_of_lt lt_b629_tv_636) nin0))).ext E647).keep Kq661 (ninS (Nat.ne_of_lt lt_b629_b632) (ninS (Nat.ne_of_lt lt_b629_tv_636) nin0))).keep Kq667 (ninS (Nat.ne_of_lt lt_b629_b632) (ninS (Nat.ne_of_lt lt_b629_tv_636) nin0))).ext E671).keep Kq686 (ninS (Nat.ne_of_lt lt_b629_b632) (ninS (Nat.ne_of_lt lt_b629_tv_636) nin0))).keep Kq692 nin0)
   have f702 : Fld Z T692.heap b629 "java/lang/Throwable" "suppressedExceptions" "Ljava/util/List;" .null := ((((((((((D629 (Or.inl (ww hw 179 rfl)) (ty := (.object "java/util/List")) (by decide)).ext E632).keep Kq636 (ninS (Nat.ne_of_lt lt_b629_b632) nin0)).keep Kq643 (ninS (Nat.ne_of_lt lt_b629_b632) (ninS (Nat.ne_of_lt lt_b629_tv_636) nin0))).ext E647).keep Kq661 (ninS (Nat.ne_of_lt lt_b629_b632) (ninS (Nat.ne_of_lt lt_b629_tv_636) nin0))).keep Kq667 (ninS (Nat.ne_of_lt lt_b629_b632) (ninS (Nat.ne_of_lt lt_b629_tv_636) nin0))).ext E671).keep Kq686 (ninS (Nat.ne_of_lt lt_b629_b632) (ninS (Nat.ne_of_lt lt_b629_tv_636) nin0))).keep Kq692 nin0)
   have f703 : Fld Z T692.heap b629 "java/lang/Throwable" "backtrace" "Ljava/lang/Object;" .null := ((((((((((D629 (Or.inl (ww hw 204 rfl)) (ty := (.object "java/lang/Object")) (by decide)).ext E632).keep Kq636 (ninS (Nat.ne_of_lt lt_b629_b632) nin0)).keep Kq643 (ninS (Nat.ne_of_lt lt_b629_b632) (ninS (Nat.ne_of_lt lt_b629_tv_636) nin0))).ext E647).keep Kq661 (ninS (Nat.ne_of_lt lt_b629_b632) (ninS (Nat.ne_of_lt lt_b629_tv_636) nin0))).keep Kq667 (ninS (Nat.ne_of_lt lt_b629_b632) (ninS (Nat.ne_of_lt lt_b629_tv_636) nin0))).ext E671).keep Kq686 (ninS (Nat.ne_of_lt lt_b629_b632) (ninS (Nat.ne_of_lt lt_b629_tv_636) nin0))).keep Kq692 nin0)
   have f704 : Fld Z T692.heap b629 "java/lang/Throwable" "detailMessage" "Ljava/lang/String;" .null := ((((((((((D629 (Or.inl (ww hw 203 rfl)) (ty := (.object "java/lang/String")) (by decide)).ext E632).keep Kq636 (ninS (Nat.ne_of_lt lt_b629_b632) nin0)).keep Kq643 (ninS (Nat.ne_of_lt lt_b629_b632) (ninS (Nat.ne_of_lt lt_b629_tv_636) nin0))).ext E647).keep Kq661 (ninS (Nat.ne_of_lt lt_b629_b632) (ninS (Nat.ne_of_lt lt_b629_tv_636) nin0))).keep Kq667 (ninS (Nat.ne_of_lt lt_b629_b632) (ninS (Nat.ne_of_lt lt_b629_tv_636) nin0))).ext E671).keep Kq686 (ninS (Nat.ne_of_lt lt_b629_b632) (ninS (Nat.ne_of_lt lt_b629_tv_636) nin0))).keep Kq692 nin0)
   have f705 : Fld Z T692.heap b629 "com/example/neti/neti/cli/Failure" "status" "I" (.int 0) := ((((((((((D629 (Or.inr (ww hw 209 rfl)) (ty := .int) (by decide)).ext E632).keep Kq636 (ninS (Nat.ne_of_lt lt_b629_b632) nin0)).keep Kq643 (ninS (Nat.ne_of_lt lt_b629_b632) (ninS (Nat.ne_of_lt lt_b629_tv_636) nin0))).ext E647).keep Kq661 (ninS (Nat.ne_of_lt lt_b629_b632) (ninS (Nat.ne_of_lt lt_b629_tv_636) nin0))).keep Kq667 (ninS (Nat.ne_of_lt lt_b629_b632) (ninS (Nat.ne_of_lt lt_b629_tv_636) nin0))).ext E671).keep Kq686 (ninS (Nat.ne_of_lt lt_b629_b632) (ninS (Nat.ne_of_lt lt_b629_tv_636) nin0))).keep Kq692 nin0)
   have f706 : Unx Z T692.heap b629 := (((((((((Ux629.ext E632).keep Kq636 (ninS (Nat.ne_of_lt lt_b629_b632) nin0)).keep Kq643 (ninS (Nat.ne_of_lt lt_b629_b632) (ninS (Nat.ne_of_lt lt_b629_tv_636) nin0))).ext E647).keep Kq661 (ninS (Nat.ne_of_lt lt_b629_b632) (ninS (Nat.ne_of_lt lt_b629_tv_636) nin0))).keep Kq667 (ninS (Nat.ne_of_lt lt_b629_b632) (ninS (Nat.ne_of_lt lt_b629_tv_636) nin0))).ext E671).keep Kq686 (ninS (Nat.ne_of_lt lt_b629_b632) (ninS (Nat.ne_of_lt lt_b629_tv_636) nin0))).keep Kq692 nin0)
   have O707 : Old Z n0 T692.heap := O0.keep K698 all0
   obtain ⟨v708, T708, L708, X708, hQ708, st708⟩ := callSp X692 hx hZ (y := y_53) rfl hown (ww hw 157 rfl) (ww hw 158 rfl) (ww hw 159 rfl) (by decide) (backOfKL (W := 1) (rmFi l Z a0 hw [] b629 x_692 us sn T692.heap n0 (Nat.le_trans Z0 K698.1) f699 f700 f701 f702 f703 f704 f705 f706 ge_b629 hlt hp5 hp6 hus hsn hun O707) hZ (ww hw 159 rfl) (ww hw 41 rfl) (by decide) (by decide) (Vm.MethodsKnown.alikeC hS.1.alike hKn.1) (Vm.FramesKnown.alikeC hS.1.alike hKn.2)) (g := (mkF m 33 #[sr x1, sr x2] [(.ref x_692), (.int 2), (.ref b629), (.ref b629)])) rfl (by rw [hml]; rfl) (a := b629) (kc := 1) (ks := 2752) (argsL := [(.int 2), (.ref x_692)]) (rest := [(.ref b629)]) (lenOf pd_23 rfl) rfl (mr0 rfl) (hb hby d8_33) rfl (by decide) (by decide)
   obtain ⟨rfl, N708q, Kq708, q708_0, q708_1, q708_2⟩ := hQ708
   have N708 := Fr.app N692 N708q
   have hkS := Nat.le_trans hkS Kq708.1
   have C709 := C696.trans (CHr.keep Kq708 (allS (Safe.exa hZ.alike f699 (by decide) (by decide)) all0) C696.1)
   have sf710 := Safe.keep Kq708 (allS (Safe.exa hZ.alike f699 (by decide) (by decide)) all0) C696.1 sf697
   have K711 : Keep h0 T708.heap [] := K698.trans Kq708 (allS (P := fun x => x ∈ [] ∨ h0.size ≤ x) (Or.inr sz_b629) all0)
   refine go (S' := T708.setTop (mkF m 36 #[sr x1, sr x2] [(.ref b629)])) st708 ?_
   refine finRW X708 hx hk hret rfl rfl hS hkS hZ (own_EW hw) C709 rfl (hb hby d8_36) (by decide) (by decide) ?_
   have f712 : Str Z T708.heap x_692 t3_692 (0 : Int32) ((((([] : List Int32) ++ cs1) ++ ([32, 40, 117, 115, 97, 103, 101, 58, 32] : List Int32)) ++ cs2) ++ ([41] : List Int32)) := (q692_1.keep Kq708 (ninS (Nat.ne_of_gt lt_b629_x_692) nin0) (ninS ne_t3_692_b629 nin0))
   exact ⟨b629, x_692, t3_692, (0 : Int32), rfl, N708, K711, sz_b629, q708_0, q708_1, q708_2, f712⟩
  ·
   have hx1 := hcq1.elim (fun q => q.2.2.2) (fun q => absurd q.1 (by decide))
   have hx2 := hcq2.elim (fun q => absurd q.1 (by decide)) (fun q => q.2.2.2)
   obtain ⟨T713, h713, X713, e713, E713, A713, D713, Un713, st713⟩ := newO X0 hx hZ hown (ww hw 43 rfl) (ww hw 44 rfl) (ww hw 41 rfl) e0 (g := (mkF m 0 #[sr x1, sr x2] [])) rfl (hb hby d8_0) (by decide) (by decide)
   obtain ⟨b713, g713⟩ : ∃ z, z = h0.size := ⟨_, rfl⟩
   rw [← g713] at A713 D713 Un713 st713
   have lt_x1_b713 : x1 < b713 := by rw [g713]; exact hp0.lt1
   have lt_t1_b713 : t1 < b713 := by rw [g713]; exact hp0.lt2
   have lt_x2_b713 : x2 < b713 := by rw [g713]; exact hp1.lt1
   have lt_t2_b713 : t2 < b713 := by rw [g713]; exact hp1.lt2
   have ge_b713 : n0 ≤ b713 := by rw [g713]; exact (Nat.le_trans Z0 K0.1)
   have sz_b713 : h0.size ≤ b713 := by rw [g713]; exact K0.1
   have K714 : Keep h0 h713 [] := K0.ext E713
   have hkS := Nat.le_trans hkS E713.1
   have C715 := C0.trans (CHr.ext E713 C0.1)
   have Ux713 : Unx Z h713 b713 := Un713
   refine go (S' := T713.setTop (mkF m 5 #[sr x1, sr x2] [(.int 2), (.ref b713), (.ref b713)])) (fun t k => st713 _ (XS.dup X713.here hx rfl (hb hby d8_3) rfl rfl (XS.iconst X713.here hx rfl (hb hby d8_4) k))) ?_
   obtain ⟨T716, h716, X716, e716, E716, A716, D716, -, st716⟩ := newO X713 hx hZ hown (ww hw 45 rfl) (ww hw 46 rfl) (ww hw 47 rfl) e713 (g := (mkF m 5 #[sr x1, sr x2] [(.int 2), (.ref b713), (.ref b713)])) rfl (hb hby d8_5) (by decide) (by decide)
   obtain ⟨b716, g716⟩ : ∃ z, z = h713.size := ⟨_, rfl⟩
   rw [← g716] at A716 D716 st716
   have lt_x1_b716 : x1 < b716 := by rw [g716]; exact (hp0.keep K714 nin0 nin0).lt1
   have lt_t1_b716 : t1 < b716 := by rw [g716]; exact (hp0.keep K714 nin0 nin0).lt2
   have lt_x2_b716 : x2 < b716 := by rw [g716]; exact (hp1.keep K714 nin0 nin0).lt1
   have lt_t2_b716 : t2 < b716 := by rw [g716]; exact (hp1.keep K714 nin0 nin0).lt2
   have lt_b713_b716 : b713 < b716 := by rw [g716]; exact A713.lt
   have ge_b716 : n0 ≤ b716 := by rw [g716]; exact (Nat.le_trans Z0 K714.1)
   have sz_b716 : h0.size ≤ b716 := by rw [g716]; exact K714.1
   have K717 : Keep h0 h716 [] := K714.ext E716
   have hkS := Nat.le_trans hkS E716.1
   have C718 := C715.trans (CHr.ext E716 C715.1)
   refine go (S' := T716.setTop (mkF m 9 #[sr x1, sr x2] [(.ref b716), (.ref b716), (.int 2), (.ref b713), (.ref b713)])) (fun t k => st716 _ (XS.dup X716.here hx rfl (hb hby d8_8) rfl rfl k)) ?_
   have O719 : Old Z n0 h716 := O0.keep K717 all0
   obtain ⟨v720, T720, L720, X720, hQ720, st720⟩ := callSp X716 hx hZ (y := y_34) rfl hown (ww hw 48 rfl) (ww hw 49 rfl) (ww hw 50 rfl) (by decide) (backOf (W := 4) (rmSbi l Z a0 hw [] b716 G1 h716 n0 (Nat.le_trans Z0 K717.1) A716 (D716 (Or.inl (ww hw 60 rfl)) (ty := (.array .byte)) (by decide)) (D716 (Or.inl (ww hw 62 rfl)) (ty := .byte) (by decide)) (D716 (Or.inl (ww hw 84 rfl)) (ty := .int) (by decide)) (D716 (Or.inl (ww hw 309 rfl)) (ty := .boolean) (by decide)) ge_b716 hp12 hG1 O719) hZ (ww hw 50 rfl) (ww hw 47 rfl) (by decide) (by decide)) (g := (mkF m 9 #[sr x1, sr x2] [(.ref b716), (.ref b716), (.int 2), (.ref b713), (.ref b713)])) rfl (by rw [hml]; rfl) (a := b716) (kc := 1) (ks := 16) (argsL := []) (rest := [(.ref b716), (.int 2), (.ref b713), (.ref b713)]) (lenOf pd_18 rfl) rfl (mr0 rfl) (hb hby d8_9) e716 (by decide) (by decide)
   obtain ⟨tv_720, kb_720, rfl, N720q, Kq720, q720_0, q720_1, q720_2, q720_3, q720_4, q720_5⟩ := hQ720
   have N720 := Fr.app N0 N720q
   have f721 : Exa Z h716 b713 "com/example/neti/neti/cli/Failure" := (A713.ext E716)
   have hkS := Nat.le_trans hkS Kq720.1
   have C722 := C718.trans (CHr.keep Kq720 (allS (Safe.exa hZ.alike A716 (by decide) (by decide)) all0) C718.1)
   have K723 : Keep h0 T720.heap [] := K717.trans Kq720 (allS (P := fun x => x ∈ [] ∨ h0.size ≤ x) (Or.inr sz_b716) all0)
   have lt_x1_tv_720 : x1 < tv_720 := Nat.lt_of_lt_of_le (hp0.keep K717 nin0 nin0).lt1 q720_0
   have lt_t1_tv_720 : t1 < tv_720 := Nat.lt_of_lt_of_le (hp0.keep K717 nin0 nin0).lt2 q720_0
   have lt_x2_tv_720 : x2 < tv_720 := Nat.lt_of_lt_of_le (hp1.keep K717 nin0 nin0).lt1 q720_0
   have lt_t2_tv_720 : t2 < tv_720 := Nat.lt_of_lt_of_le (hp1.keep K717 nin0 nin0).lt2 q720_0
   have lt_b713_tv_720 : b713 < tv_720 := Nat.lt_of_lt_of_le f721.lt q720_0
   have lt_b716_tv_720 : b716 < tv_720 := Nat.lt_of_lt_of_le A716.lt q720_0
   have sz_tv_720 : h0.size ≤ tv_720 := Nat.le_trans K717.1 q720_0
   have ge_tv_720 : n0 ≤ tv_720 := Nat.le_trans Z0 sz_tv_720
   have sf724 := Safe.keep Kq720 (allS (Safe.exa hZ.alike A716 (by decide) (by decide)) all0) C718.1 (Safe.new q720_0)
   refine go (S' := T720.setTop (mkF m 13 #[sr x1, sr x2] [(.ref x1), (.ref b716), (.int 2), (.ref b713), (.ref b713)])) (fun t k => st720 _ (XS.aloadN X720.here hx rfl (hb hby d8_12) rfl rfl k)) ?_
   have f725 : Exa Z T720.heap b716 "java/lang/StringBuilder" := (A716.keep Kq720)
   have O726 : Old Z n0 T720.heap := O0.keep K723 all0
   obtain ⟨v727, T727, L727, X727, hQ727, st727⟩ := callV X720 hx hZ (y := y_32) (z := y_32) hown (ww hw 63 rfl) (ww hw 64 rfl) (notFace_of_selects (args := #[]) (mvT hZ (ww hw 66 rfl))) (ww hw 66 rfl) (ww hw 65 rfl) (by decide) (backOf (W := 3) (rmSa00 l Z a0 hw [] b716 x1 tv_720 kb_720 ([] : List Int32) t1 cs1 G1 fm T720.heap n0 (Nat.le_trans Z0 K723.1) f725 q720_1 q720_2 q720_3 q720_4 q720_5 (hp0.keep K723 nin0 nin0) (by simp only [List.length_append, List.length_nil, List.length_cons]; omega) ge_b716 ge_tv_720 (Nat.ne_of_lt lt_t1_tv_720) (Nat.ne_of_lt lt_t1_b716) (Nat.ne_of_lt lt_x1_b716) (Nat.ne_of_lt lt_x1_tv_720) (Nat.ne_of_gt lt_b716_tv_720) hfm hp11 hp12 hG1 hp14 hp15 hp16 O726) hZ (ww hw 67 rfl) (ww hw 47 rfl) (by decide) (by decide)) f725 (g := (mkF m 13 #[sr x1, sr x2] [(.ref x1), (.ref b716), (.int 2), (.ref b713), (.ref b713)])) rfl (by rw [hml]; rfl) (kc := 0) (ks := 0) (argsL := [(.ref x1)]) (rest := [(.int 2), (.ref b713), (.ref b713)]) (lenOf pd_35 rfl) rfl (mr0 rfl) (hb hby d8_13) rfl (by decide) (by decide)
   obtain ⟨rfl, N727q, Kq727, q727_0, q727_1, q727_2, q727_3, q727_4⟩ := hQ727
   have N727 := Fr.app N720 N727q
   have hkS := Nat.le_trans hkS Kq727.1
   have C728 := C722.trans (CHr.keep Kq727 (allS (Safe.exa hZ.alike f725 (by decide) (by decide)) (allS sf724 all0)) C722.1)
   have sf729 := Safe.keep Kq727 (allS (Safe.exa hZ.alike f725 (by decide) (by decide)) (allS sf724 all0)) C722.1 sf724
   have K730 : Keep h0 T727.heap [] := K723.trans Kq727 (allS (P := fun x => x ∈ [] ∨ h0.size ≤ x) (Or.inr sz_b716) (allS (P := fun x => x ∈ [] ∨ h0.size ≤ x) (Or.inr sz_tv_720) all0))
   refine go (S' := T727.setTop (mkF m 16 #[sr x1, sr x2] [(.ref b716), (.int 2), (.ref b713), (.ref b713)])) st727 ?_
   have f732 : Exa Z T727.heap b713 "com/example/neti/neti/cli/Failure" := ((f721.keep Kq720).keep Kq727)
   have f733 : Exa Z T727.heap b716 "java/lang/StringBuilder" := (f725.keep Kq727)
   obtain ⟨la731, T731, h731, k731, lb731, lk731, X731, e731, E731, hS, hkS, hZ, hown, lE731, lC731, lV731, lA731, la731_lt, lb731_lt, Cq731, lit731, lne731, st731⟩ := ldcCH X727 hx hZ hown (ww hw 110 rfl) (own_sub own_strAtoms hw) rfl hS hkS (own_EW hw) (by decide) C728.1 (vs := [(.int 32), (.int 40), (.int 117), (.int 115), (.int 97), (.int 103), (.int 101), (.int 58), (.int 32)]) (z := (9 : Int32)) ⟨by decide, by decide⟩ (by decide) (by decide) (g := (mkF m 16 #[sr x1, sr x2] [(.ref b716), (.int 2), (.ref b713), (.ref b713)])) rfl (hb hby d8_16) (n := 36) (by decide) (by decide) (by decide) (by decide)
   have K734 : Keep h0 h731 [] := K730.ext E731
   have C735 := C728.trans Cq731
   have sf736 := CHr.safe Cq731 q727_4.lt sf729
   have ne_tv_720_la731 := (lne731 tv_720 sf736).1
   have ne_tv_720_lb731 := (lne731 tv_720 sf736).2
   have f737 : Exa Z h731 b713 "com/example/neti/neti/cli/Failure" := (f732.ext E731)
   have ne_b713_la731 := (lne731 b713 (Safe.exa hZ.alike f737 (by decide) (by decide))).1
   have ne_b713_lb731 := (lne731 b713 (Safe.exa hZ.alike f737 (by decide) (by decide))).2
   have f738 : Exa Z h731 b716 "java/lang/StringBuilder" := (f733.ext E731)
   have ne_b716_la731 := (lne731 b716 (Safe.exa hZ.alike f738 (by decide) (by decide))).1
   have ne_b716_lb731 := (lne731 b716 (Safe.exa hZ.alike f738 (by decide) (by decide))).2
   have lstr731 : Str Z h731 la731 lb731 (0 : Int32) ([32, 40, 117, 115, 97, 103, 101, 58, 32] : List Int32) := ⟨_, _, _, lE731, lV731, lC731, lA731, own_codOf rfl (by decide), by decide, Nat.le_of_ble_eq_true rfl⟩
   refine go (S' := T731.setTop (mkF m 18 #[sr x1, sr x2] [(.ref la731), (.ref b716), (.int 2), (.ref b713), (.ref b713)])) st731 ?_
   have f739 : Fld Z h731 b716 "java/lang/AbstractStringBuilder" "value" "[B" (.ref tv_720) := (q727_0.ext E731)
   have f740 : Fld Z h731 b716 "java/lang/AbstractStringBuilder" "coder" "B" (.int 0) := (q727_1.ext E731)
   have f741 : Fld Z h731 b716 "java/lang/AbstractStringBuilder" "count" "I" (.int (Int32.ofNat (([] : List Int32) ++ cs1).length)) := (q727_2.ext E731)
   have f742 : Fld Z h731 b716 "java/lang/AbstractStringBuilder" "maybeLatin1" "Z" (.int 0) := (q727_3.ext E731)
   have f743 : Arv Z h731 tv_720 kb_720 .byte (16 : Int32) ((([] : List Int32) ++ cs1).map fun c => Value.int (StrChars.lo8 c)) (.int 0) := (q727_4.ext E731)
   have O744 : Old Z n0 h731 := O0.keep K734 all0
   obtain ⟨v745, T745, L745, X745, hQ745, st745⟩ := callV X731 hx hZ (y := y_32) (z := y_32) hown (ww hw 63 rfl) (ww hw 64 rfl) (notFace_of_selects (args := #[]) (mvT hZ (ww hw 66 rfl))) (ww hw 66 rfl) (ww hw 65 rfl) (by decide) (backOf (W := 3) (rmSa00 l Z a0 hw [] b716 la731 tv_720 kb_720 (([] : List Int32) ++ cs1) lb731 ([32, 40, 117, 115, 97, 103, 101, 58, 32] : List Int32) G1 fm h731 n0 (Nat.le_trans Z0 K734.1) f738 f739 f740 f741 f742 f743 lstr731 (by simp only [List.length_append, List.length_nil, List.length_cons]; omega) ge_b716 ge_tv_720 (Ne.symm ne_tv_720_lb731) (Ne.symm ne_b716_lb731) (Ne.symm ne_b716_la731) (Ne.symm ne_tv_720_la731) (Nat.ne_of_gt lt_b716_tv_720) hfm hp11 hp12 hG1 hp14 hp15 hp16 O744) hZ (ww hw 67 rfl) (ww hw 47 rfl) (by decide) (by decide)) f738 (g := (mkF m 18 #[sr x1, sr x2] [(.ref la731), (.ref b716), (.int 2), (.ref b713), (.ref b713)])) rfl (by rw [hml]; rfl) (kc := 0) (ks := 0) (argsL := [(.ref la731)]) (rest := [(.int 2), (.ref b713), (.ref b713)]) (lenOf pd_35 rfl) rfl (mr0 rfl) (hb hby d8_18) e731 (by decide) (by decide)
   obtain ⟨rfl, N745q, Kq745, q745_0, q745_1, q745_2, q745_3, q745_4⟩ := hQ745
   have N745 := Fr.app N727 N745q
   have hkS := Nat.le_trans hkS Kq745.1
   have C746 := C735.trans (CHr.keep Kq745 (allS (Safe.exa hZ.alike f738 (by decide) (by decide)) (allS sf736 all0)) C735.1)
   have sf747 := Safe.keep Kq745 (allS (Safe.exa hZ.alike f738 (by decide) (by decide)) (allS sf736 all0)) C735.1 sf736
   have K748 : Keep h0 T745.heap [] := K734.trans Kq745 (allS (P := fun x => x ∈ [] ∨ h0.size ≤ x) (Or.inr sz_b716) (allS (P := fun x => x ∈ [] ∨ h0.size ≤ x) (Or.inr sz_tv_720) all0))
   refine go (S' := T745.setTop (mkF m 22 #[sr x1, sr x2] [(.ref x2), (.ref b716), (.int 2), (.ref b713), (.ref b713)])) (fun t k => st745 _ (XS.aloadN X745.here hx rfl (hb hby d8_21) rfl rfl k)) ?_
   have f749 : Exa Z T745.heap b716 "java/lang/StringBuilder" := (f738.keep Kq745)
   have O750 : Old Z n0 T745.heap := O0.keep K748 all0
   obtain ⟨v751, T751, L751, X751, hQ751, st751⟩ := callV X745 hx hZ (y := y_32) (z := y_32) hown (ww hw 63 rfl) (ww hw 64 rfl) (notFace_of_selects (args := #[]) (mvT hZ (ww hw 66 rfl))) (ww hw 66 rfl) (ww hw 65 rfl) (by decide) (backOf (W := 3) (rmSa01 l Z a0 hw [] b716 x2 tv_720 kb_720 ((([] : List Int32) ++ cs1) ++ ([32, 40, 117, 115, 97, 103, 101, 58, 32] : List Int32)) t2 cs2 G1 fm T745.heap n0 (Nat.le_trans Z0 K748.1) f749 q745_0 q745_1 q745_2 q745_3 q745_4 (hp1.keep K748 nin0 nin0) (own_all (own_all (fun _ q => nomatch q) (fun c hc => ⟨(hbb1 c hc).1, hx1 c hc⟩)) (by decide)) (by simp only [List.length_append, List.length_nil, List.length_cons]; omega) ge_b716 ge_tv_720 (Nat.ne_of_lt lt_t2_tv_720) (Nat.ne_of_lt lt_t2_b716) (Nat.ne_of_lt lt_x2_b716) (Nat.ne_of_lt lt_x2_tv_720) (Nat.ne_of_gt lt_b716_tv_720) hfm hp11 hp12 hG1 hp14 hp15 hp16 O750) hZ (ww hw 67 rfl) (ww hw 47 rfl) (by decide) (by decide)) f749 (g := (mkF m 22 #[sr x1, sr x2] [(.ref x2), (.ref b716), (.int 2), (.ref b713), (.ref b713)])) rfl (by rw [hml]; rfl) (kc := 1) (ks := 32) (argsL := [(.ref x2)]) (rest := [(.int 2), (.ref b713), (.ref b713)]) (lenOf pd_35 rfl) rfl (mr0 rfl) (hb hby d8_22) rfl (by decide) (by decide)
   obtain ⟨t3_751, k3_751, rfl, N751q, Kq751, q751_0, q751_1, q751_2, q751_3, q751_4, q751_5⟩ := hQ751
   have N751 := Fr.app N745 N751q
   have f752 : Exa Z T745.heap b713 "com/example/neti/neti/cli/Failure" := (f737.keep Kq745)
   have f753 : Str Z T745.heap la731 lb731 (0 : Int32) ([32, 40, 117, 115, 97, 103, 101, 58, 32] : List Int32) := (lstr731.keep Kq745 (ninS (Ne.symm ne_b716_la731) (ninS (Ne.symm ne_tv_720_la731) nin0)) (ninS (Ne.symm ne_b716_lb731) (ninS (Ne.symm ne_tv_720_lb731) nin0)))
   have hkS := Nat.le_trans hkS Kq751.1
   have C754 := C746.trans (CHr.keep Kq751 (allS (Safe.exa hZ.alike f749 (by decide) (by decide)) all0) C746.1)
   have sf755 := Safe.keep Kq751 (allS (Safe.exa hZ.alike f749 (by decide) (by decide)) all0) C746.1 sf747
   have K756 : Keep h0 T751.heap [] := K748.trans Kq751 (allS (P := fun x => x ∈ [] ∨ h0.size ≤ x) (Or.inr sz_b716) all0)
   have lt_x1_t3_751 : x1 < t3_751 := Nat.lt_of_lt_of_le (hp0.keep K748 nin0 nin0).lt1 q751_0
   have lt_t1_t3_751 : t1 < t3_751 := Nat.lt_of_lt_of_le (hp0.keep K748 nin0 nin0).lt2 q751_0
   have lt_x2_t3_751 : x2 < t3_751 := Nat.lt_of_lt_of_le (hp1.keep K748 nin0 nin0).lt1 q751_0
   have lt_t2_t3_751 : t2 < t3_751 := Nat.lt_of_lt_of_le (hp1.keep K748 nin0 nin0).lt2 q751_0
   have lt_b713_t3_751 : b713 < t3_751 := Nat.lt_of_lt_of_le f752.lt q751_0
   have lt_b716_t3_751 : b716 < t3_751 := Nat.lt_of_lt_of_le f749.lt q751_0
   have lt_tv_720_t3_751 : tv_720 < t3_751 := Nat.lt_of_lt_of_le q745_4.lt q751_0
   have lt_la731_t3_751 : la731 < t3_751 := Nat.lt_of_lt_of_le f753.lt1 q751_0
   have lt_lb731_t3_751 : lb731 < t3_751 := Nat.lt_of_lt_of_le f753.lt2 q751_0
   have sz_t3_751 : h0.size ≤ t3_751 := Nat.le_trans K748.1 q751_0
   have ge_t3_751 : n0 ≤ t3_751 := Nat.le_trans Z0 sz_t3_751
   have sf757 := Safe.keep Kq751 (allS (Safe.exa hZ.alike f749 (by decide) (by decide)) all0) C746.1 (Safe.new q751_0)
   refine go (S' := T751.setTop (mkF m 25 #[sr x1, sr x2] [(.ref b716), (.int 2), (.ref b713), (.ref b713)])) st751 ?_
   have f759 : Arv Z T751.heap tv_720 kb_720 .byte (16 : Int32) (((([] : List Int32) ++ cs1) ++ ([32, 40, 117, 115, 97, 103, 101, 58, 32] : List Int32)).map fun c => Value.int (StrChars.lo8 c)) (.int 0) := (q745_4.keep Kq751 (ninS (Nat.ne_of_gt lt_b716_tv_720) nin0))
   have f760 : Exa Z T751.heap b713 "com/example/neti/neti/cli/Failure" := (f752.keep Kq751)
   have f761 : Exa Z T751.heap b716 "java/lang/StringBuilder" := (f749.keep Kq751)
   have f762 : Str Z T751.heap la731 lb731 (0 : Int32) ([32, 40, 117, 115, 97, 103, 101, 58, 32] : List Int32) := (f753.keep Kq751 (ninS (Ne.symm ne_b716_la731) nin0) (ninS (Ne.symm ne_b716_lb731) nin0))
   obtain ⟨la758, T758, h758, k758, lb758, lk758, X758, e758, E758, hS, hkS, hZ, hown, lE758, lC758, lV758, lA758, la758_lt, lb758_lt, Cq758, lit758, lne758, st758⟩ := ldcCH X751 hx hZ hown (ww hw 111 rfl) (own_sub own_strAtoms hw) rfl hS hkS (own_EW hw) (by decide) C754.1 (vs := [(.int 41)]) (z := (1 : Int32)) ⟨by decide, by decide⟩ (by decide) (by decide) (g := (mkF m 25 #[sr x1, sr x2] [(.ref b716), (.int 2), (.ref b713), (.ref b713)])) rfl (hb hby d8_25) (n := 4) (by decide) (by decide) (by decide) (by decide)
   have K763 : Keep h0 h758 [] := K756.ext E758
   have C764 := C754.trans Cq758
   have sf765 := CHr.safe Cq758 f759.lt sf755
   have sf766 := CHr.safe Cq758 q751_5.lt sf757
   have ne_tv_720_la758 := (lne758 tv_720 sf765).1
   have ne_tv_720_lb758 := (lne758 tv_720 sf765).2
   have ne_t3_751_la758 := (lne758 t3_751 sf766).1
   have ne_t3_751_lb758 := (lne758 t3_751 sf766).2
   have f767 : Exa Z h758 b713 "com/example/neti/neti/cli/Failure" := (f760.ext E758)
   have ne_b713_la758 := (lne758 b713 (Safe.exa hZ.alike f767 (by decide) (by decide))).1
   have ne_b713_lb758 := (lne758 b713 (Safe.exa hZ.alike f767 (by decide) (by decide))).2
   have f768 : Exa Z h758 b716 "java/lang/StringBuilder" := (f761.ext E758)
   have ne_b716_la758 := (lne758 b716 (Safe.exa hZ.alike f768 (by decide) (by decide))).1
   have ne_b716_lb758 := (lne758 b716 (Safe.exa hZ.alike f768 (by decide) (by decide))).2
   have lstr758 : Str Z h758 la758 lb758 (0 : Int32) ([41] : List Int32) := ⟨_, _, _, lE758, lV758, lC758, lA758, own_codOf rfl (by decide), by decide, Nat.le_of_ble_eq_true rfl⟩
   refine go (S' := T758.setTop (mkF m 27 #[sr x1, sr x2] [(.ref la758), (.ref b716), (.int 2), (.ref b713), (.ref b713)])) st758 ?_
   have f769 : Fld Z h758 b716 "java/lang/AbstractStringBuilder" "value" "[B" (.ref t3_751) := (q751_1.ext E758)
   have f770 : Fld Z h758 b716 "java/lang/AbstractStringBuilder" "coder" "B" (.int 1) := (q751_2.ext E758)
   have f771 : Fld Z h758 b716 "java/lang/AbstractStringBuilder" "count" "I" (.int (Int32.ofNat (((([] : List Int32) ++ cs1) ++ ([32, 40, 117, 115, 97, 103, 101, 58, 32] : List Int32)) ++ cs2).length)) := (q751_3.ext E758)
   have f772 : Fld Z h758 b716 "java/lang/AbstractStringBuilder" "maybeLatin1" "Z" (.int 0) := (q751_4.ext E758)
   have f773 : Arv Z h758 t3_751 k3_751 .byte (Int32.ofNat (2 * 16)) (StrChars.Road.wideBytes (((([] : List Int32) ++ cs1) ++ ([32, 40, 117, 115, 97, 103, 101, 58, 32] : List Int32)) ++ cs2)) (.int 0) := (q751_5.ext E758)
   have O774 : Old Z n0 h758 := O0.keep K763 all0
   obtain ⟨v775, T775, L775, X775, hQ775, st775⟩ := callV X758 hx hZ (y := y_32) (z := y_32) hown (ww hw 63 rfl) (ww hw 64 rfl) (notFace_of_selects (args := #[]) (mvT hZ (ww hw 66 rfl))) (ww hw 66 rfl) (ww hw 65 rfl) (by decide) (backOf (W := 3) (rmSa10 l Z a0 hw [] b716 la758 t3_751 k3_751 (((([] : List Int32) ++ cs1) ++ ([32, 40, 117, 115, 97, 103, 101, 58, 32] : List Int32)) ++ cs2) lb758 ([41] : List Int32) G1 fm h758 n0 (Nat.le_trans Z0 K763.1) f768 f769 f770 f771 f772 f773 lstr758 (by simp only [List.length_append, List.length_nil, List.length_cons]; omega) ge_b716 ge_t3_751 (Ne.symm ne_t3_751_lb758) (Ne.symm ne_b716_lb758) (Ne.symm ne_b716_la758) (Ne.symm ne_t3_751_la758) (Nat.ne_of_gt lt_b716_t3_751) hfm hp11 hp12 hG1 hp14 hp15 hp16 O774) hZ (ww hw 67 rfl) (ww hw 47 rfl) (by decide) (by decide)) f768 (g := (mkF m 27 #[sr x1, sr x2] [(.ref la758), (.ref b716), (.int 2), (.ref b713), (.ref b713)])) rfl (by rw [hml]; rfl) (kc := 0) (ks := 0) (argsL := [(.ref la758)]) (rest := [(.int 2), (.ref b713), (.ref b713)]) (lenOf pd_35 rfl) rfl (mr0 rfl) (hb hby d8_27) e758 (by decide) (by decide)
   obtain ⟨rfl, N775q, Kq775, q775_0, q775_1, q775_2, q775_3, q775_4⟩ := hQ775
   have N775 := Fr.app N751 N775q
   have hkS := Nat.le_trans hkS Kq775.1
   have C776 := C764.trans (CHr.keep Kq775 (allS (Safe.exa hZ.alike f768 (by decide) (by decide)) (allS sf766 all0)) C764.1)
   have sf777 := Safe.keep Kq775 (allS (Safe.exa hZ.alike f768 (by decide) (by decide)) (allS sf766 all0)) C764.1 sf765
   have sf778 := Safe.keep Kq775 (allS (Safe.exa hZ.alike f768 (by decide) (by decide)) (allS sf766 all0)) C764.1 sf766
   have K779 : Keep h0 T775.heap [] := K763.trans Kq775 (allS (P := fun x => x ∈ [] ∨ h0.size ≤ x) (Or.inr sz_b716) (allS (P := fun x => x ∈ [] ∨ h0.size ≤ x) (Or.inr sz_t3_751) all0))
   refine go (S' := T775.setTop (mkF m 30 #[sr x1, sr x2] [(.ref b716), (.int 2), (.ref b713), (.ref b713)])) st775 ?_
   have f780 : Exa Z T775.heap b716 "java/lang/StringBuilder" := (f768.keep Kq775)
   have O781 : Old Z n0 T775.heap := O0.keep K779 all0
   obtain ⟨v782, T782, L782, X782, hQ782, st782⟩ := callV X775 hx hZ (y := y_44) (z := y_44) hown (ww hw 112 rfl) (ww hw 113 rfl) (notFace_of_selects (args := #[]) (mvT hZ (ww hw 115 rfl))) (ww hw 115 rfl) (ww hw 114 rfl) (by decide) (backOf (W := 3) (rmTos1 l Z a0 hw [] b716 t3_751 k3_751 ((((([] : List Int32) ++ cs1) ++ ([32, 40, 117, 115, 97, 103, 101, 58, 32] : List Int32)) ++ cs2) ++ ([41] : List Int32)) G1 T775.heap n0 (Nat.le_trans Z0 K779.1) f780 q775_0 q775_1 q775_2 q775_3 q775_4 (own_all (own_all (own_all (own_all (fun _ q => nomatch q) hbb1) (by decide)) hbb2) (by decide)) (by simp only [List.length_append, List.length_nil, List.length_cons]; omega) (hx2.elim fun c q => ⟨c, List.mem_append_left _ (List.mem_append_right _ q.1), q.2⟩) hp12 hG1 O781) hZ (ww hw 116 rfl) (ww hw 47 rfl) (by decide) (by decide)) f780 (g := (mkF m 30 #[sr x1, sr x2] [(.ref b716), (.int 2), (.ref b713), (.ref b713)])) rfl (by rw [hml]; rfl) (kc := 2) (ks := 32) (argsL := []) (rest := [(.int 2), (.ref b713), (.ref b713)]) (lenOf pd_36 rfl) rfl (mr0 rfl) (hb hby d8_30) rfl (by decide) (by decide)
   obtain ⟨x_782, t3_782, rfl, N782q, Kq782, q782_0, q782_1⟩ := hQ782
   have N782 := Fr.app N775 N782q
   have f783 : Exa Z T775.heap b713 "com/example/neti/neti/cli/Failure" := (f767.keep Kq775)
   have f784 : Arv Z T775.heap tv_720 kb_720 .byte (16 : Int32) (((([] : List Int32) ++ cs1) ++ ([32, 40, 117, 115, 97, 103, 101, 58, 32] : List Int32)).map fun c => Value.int (StrChars.lo8 c)) (.int 0) := ((f759.ext E758).keep Kq775 (ninS (Nat.ne_of_gt lt_b716_tv_720) (ninS (Nat.ne_of_lt lt_tv_720_t3_751) nin0)))
   have f785 : Str Z T775.heap la731 lb731 (0 : Int32) ([32, 40, 117, 115, 97, 103, 101, 58, 32] : List Int32) := ((f762.ext E758).keep Kq775 (ninS (Ne.symm ne_b716_la731) (ninS (Nat.ne_of_lt lt_la731_t3_751) nin0)) (ninS (Ne.symm ne_b716_lb731) (ninS (Nat.ne_of_lt lt_lb731_t3_751) nin0)))
   have f786 : Str Z T775.heap la758 lb758 (0 : Int32) ([41] : List Int32) := (lstr758.keep Kq775 (ninS (Ne.symm ne_b716_la758) (ninS (Ne.symm ne_t3_751_la758) nin0)) (ninS (Ne.symm ne_b716_lb758) (ninS (Ne.symm ne_t3_751_lb758) nin0)))
   have hkS := Nat.le_trans hkS Kq782.1
   have C787 := C776.trans (CHr.keep Kq782 all0 C776.1)
   have sf788 := Safe.keep Kq782 all0 C776.1 sf777
   have sf789 := Safe.keep Kq782 all0 C776.1 sf778
   have K790 : Keep h0 T782.heap [] := K779.trans Kq782 all0
   have lt_x1_x_782 : x1 < x_782 := Nat.lt_of_lt_of_le (hp0.keep K779 nin0 nin0).lt1 q782_0
   have lt_t1_x_782 : t1 < x_782 := Nat.lt_of_lt_of_le (hp0.keep K779 nin0 nin0).lt2 q782_0
   have lt_x2_x_782 : x2 < x_782 := Nat.lt_of_lt_of_le (hp1.keep K779 nin0 nin0).lt1 q782_0
   have lt_t2_x_782 : t2 < x_782 := Nat.lt_of_lt_of_le (hp1.keep K779 nin0 nin0).lt2 q782_0
   have lt_b713_x_782 : b713 < x_782 := Nat.lt_of_lt_of_le f783.lt q782_0
   have lt_b716_x_782 : b716 < x_782 := Nat.lt_of_lt_of_le f780.lt q782_0
   have lt_tv_720_x_782 : tv_720 < x_782 := Nat.lt_of_lt_of_le f784.lt q782_0
   have lt_la731_x_782 : la731 < x_782 := Nat.lt_of_lt_of_le f785.lt1 q782_0
   have lt_lb731_x_782 : lb731 < x_782 := Nat.lt_of_lt_of_le f785.lt2 q782_0
   have lt_t3_751_x_782 : t3_751 < x_782 := Nat.lt_of_lt_of_le q775_4.lt q782_0
   have lt_la758_x_782 : la758 < x_782 := Nat.lt_of_lt_of_le f786.lt1 q782_0
   have lt_lb758_x_782 : lb758 < x_782 := Nat.lt_of_lt_of_le f786.lt2 q782_0
   have sz_x_782 : h0.size ≤ x_782 := Nat.le_trans K779.1 q782_0
   have ge_x_782 : n0 ≤ x_782 := Nat.le_trans Z0 sz_x_782
   have ne_t3_782_b713 : t3_782 ≠ b713 := q782_1.ne2 (f783.keep Kq782) (ww hw 44 rfl)
   have ne_t3_782_b716 : t3_782 ≠ b716 := q782_1.ne2 (f780.keep Kq782) (ww hw 46 rfl)
   refine go (S' := T782.setTop (mkF m 33 #[sr x1, sr x2] [(.ref x_782), (.int 2), (.ref b713), (.ref b713)])) st782 ?_
   have f791 : Exa Z T782.heap b713 "com/example/neti/neti/cli/Failure" := (f783.keep Kq782)
   have f792 : Fld Z T782.heap b713 "java/lang/Throwable" "cause" "Ljava/lang/Throwable;" .null := ((((((((((D713 (Or.inl (ww hw 173 rfl)) (ty := (.object "java/lang/Throwable")) (by decide)).ext E716).keep Kq720 (ninS (Nat.ne_of_lt lt_b713_b716) nin0)).keep Kq727 (ninS (Nat.ne_of_lt lt_b713_b716) (ninS (Nat.ne_of_lt lt_b713_tv_720) nin0))).ext E731).keep Kq745 (ninS (Nat.ne_of_lt lt_b713_b716) (ninS (Nat.ne_of_lt lt_b713_tv_720) nin0))).keep Kq751 (ninS (Nat.ne_of_lt lt_b713_b716) nin0)).ext E758).keep Kq775 (ninS (Nat.ne_of_lt lt_b713_b716) (ninS (Nat.ne_of_lt lt_b713_t3_751) nin0))).keep Kq782 nin0)
   have f793 : Fld Z T782.heap b713 "java/lang/Throwable" "stackTrace" "[Ljava/lang/StackTraceElement;" .null := ((((((((((D713 (Or.inl (ww hw 176 rfl)) (ty := (.array (.object "java/lang/StackTraceElement"))) (by decide)).ext E716).keep Kq720 (ninS (Nat.ne_of_lt lt_b713_b716) nin0)).keep Kq727 (ninS (Nat.ne_of_lt lt_b713_b716) (ninS (Nat.ne_of_lt lt_b713_tv_720) nin0))).ext E731).keep Kq745 (ninS (Nat.ne_of_lt lt_b713_b716) (ninS (Nat.ne_of_lt lt_b713_tv_720) nin0))).keep Kq751 (ninS (Nat.ne_of_lt lt_b713_b716) nin0)).ext E758).keep Kq775 (ninS (Nat.ne_of_lt lt_b713_b716) (ninS (Nat.ne_of_lt lt_b713_t3_751) nin0))).keep Kq782 nin0)
   have f794 : Fld Z T782.heap b713 "java/lang/Throwable" "suppressedExceptions" "Ljava/util/List;" .null := ((((((((((D713 (Or.inl (ww hw 179 rfl)) (ty := (.object "java/util/List")) (by decide)).ext E716).keep Kq720 (ninS (Nat.ne_of_lt lt_b713_b716) nin0)).keep Kq727 (ninS (Nat.ne_of_lt lt_b713_b716) (ninS (Nat.ne_of_lt lt_b713_tv_720) nin0))).ext E731).keep Kq745 (ninS (Nat.ne_of_lt lt_b713_b716) (ninS (Nat.ne_of_lt lt_b713_tv_720) nin0))).keep Kq751 (ninS (Nat.ne_of_lt lt_b713_b716) nin0)).ext E758).keep Kq775 (ninS (Nat.ne_of_lt lt_b713_b716) (ninS (Nat.ne_of_lt lt_b713_t3_751) nin0))).keep Kq782 nin0)
   have f795 : Fld Z T782.heap b713 "java/lang/Throwable" "backtrace" "Ljava/lang/Object;" .null := ((((((((((D713 (Or.inl (ww hw 204 rfl)) (ty := (.object "java/lang/Object")) (by decide)).ext E716).keep Kq720 (ninS (Nat.ne_of_lt lt_b713_b716) nin0)).keep Kq727 (ninS (Nat.ne_of_lt lt_b713_b716) (ninS (Nat.ne_of_lt lt_b713_tv_720) nin0))).ext E731).keep Kq745 (ninS (Nat.ne_of_lt lt_b713_b716) (ninS (Nat.ne_of_lt lt_b713_tv_720) nin0))).keep Kq751 (ninS (Nat.ne_of_lt lt_b713_b716) nin0)).ext E758).keep Kq775 (ninS (Nat.ne_of_lt lt_b713_b716) (ninS (Nat.ne_of_lt lt_b713_t3_751) nin0))).keep Kq782 nin0)
   have f796 : Fld Z T782.heap b713 "java/lang/Throwable" "detailMessage" "Ljava/lang/String;" .null := ((((((((((D713 (Or.inl (ww hw 203 rfl)) (ty := (.object "java/lang/String")) (by decide)).ext E716).keep Kq720 (ninS (Nat.ne_of_lt lt_b713_b716) nin0)).keep Kq727 (ninS (Nat.ne_of_lt lt_b713_b716) (ninS (Nat.ne_of_lt lt_b713_tv_720) nin0))).ext E731).keep Kq745 (ninS (Nat.ne_of_lt lt_b713_b716) (ninS (Nat.ne_of_lt lt_b713_tv_720) nin0))).keep Kq751 (ninS (Nat.ne_of_lt lt_b713_b716) nin0)).ext E758).keep Kq775 (ninS (Nat.ne_of_lt lt_b713_b716) (ninS (Nat.ne_of_lt lt_b713_t3_751) nin0))).keep Kq782 nin0)
   have f797 : Fld Z T782.heap b713 "com/example/neti/neti/cli/Failure" "status" "I" (.int 0) := ((((((((((D713 (Or.inr (ww hw 209 rfl)) (ty := .int) (by decide)).ext E716).keep Kq720 (ninS (Nat.ne_of_lt lt_b713_b716) nin0)).keep Kq727 (ninS (Nat.ne_of_lt lt_b713_b716) (ninS (Nat.ne_of_lt lt_b713_tv_720) nin0))).ext E731).keep Kq745 (ninS (Nat.ne_of_lt lt_b713_b716) (ninS (Nat.ne_of_lt lt_b713_tv_720) nin0))).keep Kq751 (ninS (Nat.ne_of_lt lt_b713_b716) nin0)).ext E758).keep Kq775 (ninS (Nat.ne_of_lt lt_b713_b716) (ninS (Nat.ne_of_lt lt_b713_t3_751) nin0))).keep Kq782 nin0)
   have f798 : Unx Z T782.heap b713 := (((((((((Ux713.ext E716).keep Kq720 (ninS (Nat.ne_of_lt lt_b713_b716) nin0)).keep Kq727 (ninS (Nat.ne_of_lt lt_b713_b716) (ninS (Nat.ne_of_lt lt_b713_tv_720) nin0))).ext E731).keep Kq745 (ninS (Nat.ne_of_lt lt_b713_b716) (ninS (Nat.ne_of_lt lt_b713_tv_720) nin0))).keep Kq751 (ninS (Nat.ne_of_lt lt_b713_b716) nin0)).ext E758).keep Kq775 (ninS (Nat.ne_of_lt lt_b713_b716) (ninS (Nat.ne_of_lt lt_b713_t3_751) nin0))).keep Kq782 nin0)
   have O799 : Old Z n0 T782.heap := O0.keep K790 all0
   obtain ⟨v800, T800, L800, X800, hQ800, st800⟩ := callSp X782 hx hZ (y := y_53) rfl hown (ww hw 157 rfl) (ww hw 158 rfl) (ww hw 159 rfl) (by decide) (backOfKL (W := 1) (rmFi l Z a0 hw [] b713 x_782 us sn T782.heap n0 (Nat.le_trans Z0 K790.1) f791 f792 f793 f794 f795 f796 f797 f798 ge_b713 hlt hp5 hp6 hus hsn hun O799) hZ (ww hw 159 rfl) (ww hw 41 rfl) (by decide) (by decide) (Vm.MethodsKnown.alikeC hS.1.alike hKn.1) (Vm.FramesKnown.alikeC hS.1.alike hKn.2)) (g := (mkF m 33 #[sr x1, sr x2] [(.ref x_782), (.int 2), (.ref b713), (.ref b713)])) rfl (by rw [hml]; rfl) (a := b713) (kc := 1) (ks := 2752) (argsL := [(.int 2), (.ref x_782)]) (rest := [(.ref b713)]) (lenOf pd_23 rfl) rfl (mr0 rfl) (hb hby d8_33) rfl (by decide) (by decide)
   obtain ⟨rfl, N800q, Kq800, q800_0, q800_1, q800_2⟩ := hQ800
   have N800 := Fr.app N782 N800q
   have hkS := Nat.le_trans hkS Kq800.1
   have C801 := C787.trans (CHr.keep Kq800 (allS (Safe.exa hZ.alike f791 (by decide) (by decide)) all0) C787.1)
   have sf802 := Safe.keep Kq800 (allS (Safe.exa hZ.alike f791 (by decide) (by decide)) all0) C787.1 sf788
   have sf803 := Safe.keep Kq800 (allS (Safe.exa hZ.alike f791 (by decide) (by decide)) all0) C787.1 sf789
   have K804 : Keep h0 T800.heap [] := K790.trans Kq800 (allS (P := fun x => x ∈ [] ∨ h0.size ≤ x) (Or.inr sz_b713) all0)
   refine go (S' := T800.setTop (mkF m 36 #[sr x1, sr x2] [(.ref b713)])) st800 ?_
   refine finRW X800 hx hk hret rfl rfl hS hkS hZ (own_EW hw) C801 rfl (hb hby d8_36) (by decide) (by decide) ?_
   have f805 : Str Z T800.heap x_782 t3_782 (1 : Int32) ((((([] : List Int32) ++ cs1) ++ ([32, 40, 117, 115, 97, 103, 101, 58, 32] : List Int32)) ++ cs2) ++ ([41] : List Int32)) := (q782_1.keep Kq800 (ninS (Nat.ne_of_gt lt_b713_x_782) nin0) (ninS ne_t3_782_b713 nin0))
   exact ⟨b713, x_782, t3_782, (1 : Int32), rfl, N800, K804, sz_b713, q800_0, q800_1, q800_2, f805⟩
 ·
  rcases hd2 with rfl | rfl
  ·
   have hx1 := hcq1.elim (fun q => absurd q.1 (by decide)) (fun q => q.2.2.2)
   have hx2 := hcq2.elim (fun q => q.2.2.2) (fun q => absurd q.1 (by decide))
   obtain ⟨T806, h806, X806, e806, E806, A806, D806, Un806, st806⟩ := newO X0 hx hZ hown (ww hw 43 rfl) (ww hw 44 rfl) (ww hw 41 rfl) e0 (g := (mkF m 0 #[sr x1, sr x2] [])) rfl (hb hby d8_0) (by decide) (by decide)
   obtain ⟨b806, g806⟩ : ∃ z, z = h0.size := ⟨_, rfl⟩
   rw [← g806] at A806 D806 Un806 st806
   have lt_x1_b806 : x1 < b806 := by rw [g806]; exact hp0.lt1
   have lt_t1_b806 : t1 < b806 := by rw [g806]; exact hp0.lt2
   have lt_x2_b806 : x2 < b806 := by rw [g806]; exact hp1.lt1
   have lt_t2_b806 : t2 < b806 := by rw [g806]; exact hp1.lt2
   have ge_b806 : n0 ≤ b806 := by rw [g806]; exact (Nat.le_trans Z0 K0.1)
   have sz_b806 : h0.size ≤ b806 := by rw [g806]; exact K0.1
   have K807 : Keep h0 h806 [] := K0.ext E806
   have hkS := Nat.le_trans hkS E806.1
   have C808 := C0.trans (CHr.ext E806 C0.1)
   have Ux806 : Unx Z h806 b806 := Un806
   refine go (S' := T806.setTop (mkF m 5 #[sr x1, sr x2] [(.int 2), (.ref b806), (.ref b806)])) (fun t k => st806 _ (XS.dup X806.here hx rfl (hb hby d8_3) rfl rfl (XS.iconst X806.here hx rfl (hb hby d8_4) k))) ?_
   obtain ⟨T809, h809, X809, e809, E809, A809, D809, -, st809⟩ := newO X806 hx hZ hown (ww hw 45 rfl) (ww hw 46 rfl) (ww hw 47 rfl) e806 (g := (mkF m 5 #[sr x1, sr x2] [(.int 2), (.ref b806), (.ref b806)])) rfl (hb hby d8_5) (by decide) (by decide)
   obtain ⟨b809, g809⟩ : ∃ z, z = h806.size := ⟨_, rfl⟩
   rw [← g809] at A809 D809 st809
   have lt_x1_b809 : x1 < b809 := by rw [g809]; exact (hp0.keep K807 nin0 nin0).lt1
   have lt_t1_b809 : t1 < b809 := by rw [g809]; exact (hp0.keep K807 nin0 nin0).lt2
   have lt_x2_b809 : x2 < b809 := by rw [g809]; exact (hp1.keep K807 nin0 nin0).lt1
   have lt_t2_b809 : t2 < b809 := by rw [g809]; exact (hp1.keep K807 nin0 nin0).lt2
   have lt_b806_b809 : b806 < b809 := by rw [g809]; exact A806.lt
   have ge_b809 : n0 ≤ b809 := by rw [g809]; exact (Nat.le_trans Z0 K807.1)
   have sz_b809 : h0.size ≤ b809 := by rw [g809]; exact K807.1
   have K810 : Keep h0 h809 [] := K807.ext E809
   have hkS := Nat.le_trans hkS E809.1
   have C811 := C808.trans (CHr.ext E809 C808.1)
   refine go (S' := T809.setTop (mkF m 9 #[sr x1, sr x2] [(.ref b809), (.ref b809), (.int 2), (.ref b806), (.ref b806)])) (fun t k => st809 _ (XS.dup X809.here hx rfl (hb hby d8_8) rfl rfl k)) ?_
   have O812 : Old Z n0 h809 := O0.keep K810 all0
   obtain ⟨v813, T813, L813, X813, hQ813, st813⟩ := callSp X809 hx hZ (y := y_34) rfl hown (ww hw 48 rfl) (ww hw 49 rfl) (ww hw 50 rfl) (by decide) (backOf (W := 4) (rmSbi l Z a0 hw [] b809 G1 h809 n0 (Nat.le_trans Z0 K810.1) A809 (D809 (Or.inl (ww hw 60 rfl)) (ty := (.array .byte)) (by decide)) (D809 (Or.inl (ww hw 62 rfl)) (ty := .byte) (by decide)) (D809 (Or.inl (ww hw 84 rfl)) (ty := .int) (by decide)) (D809 (Or.inl (ww hw 309 rfl)) (ty := .boolean) (by decide)) ge_b809 hp12 hG1 O812) hZ (ww hw 50 rfl) (ww hw 47 rfl) (by decide) (by decide)) (g := (mkF m 9 #[sr x1, sr x2] [(.ref b809), (.ref b809), (.int 2), (.ref b806), (.ref b806)])) rfl (by rw [hml]; rfl) (a := b809) (kc := 1) (ks := 16) (argsL := []) (rest := [(.ref b809), (.int 2), (.ref b806), (.ref b806)]) (lenOf pd_18 rfl) rfl (mr0 rfl) (hb hby d8_9) e809 (by decide) (by decide)
   obtain ⟨tv_813, kb_813, rfl, N813q, Kq813, q813_0, q813_1, q813_2, q813_3, q813_4, q813_5⟩ := hQ813
   have N813 := Fr.app N0 N813q
   have f814 : Exa Z h809 b806 "com/example/neti/neti/cli/Failure" := (A806.ext E809)
   have hkS := Nat.le_trans hkS Kq813.1
   have C815 := C811.trans (CHr.keep Kq813 (allS (Safe.exa hZ.alike A809 (by decide) (by decide)) all0) C811.1)
   have K816 : Keep h0 T813.heap [] := K810.trans Kq813 (allS (P := fun x => x ∈ [] ∨ h0.size ≤ x) (Or.inr sz_b809) all0)
   have lt_x1_tv_813 : x1 < tv_813 := Nat.lt_of_lt_of_le (hp0.keep K810 nin0 nin0).lt1 q813_0
   have lt_t1_tv_813 : t1 < tv_813 := Nat.lt_of_lt_of_le (hp0.keep K810 nin0 nin0).lt2 q813_0
   have lt_x2_tv_813 : x2 < tv_813 := Nat.lt_of_lt_of_le (hp1.keep K810 nin0 nin0).lt1 q813_0
   have lt_t2_tv_813 : t2 < tv_813 := Nat.lt_of_lt_of_le (hp1.keep K810 nin0 nin0).lt2 q813_0
   have lt_b806_tv_813 : b806 < tv_813 := Nat.lt_of_lt_of_le f814.lt q813_0
   have lt_b809_tv_813 : b809 < tv_813 := Nat.lt_of_lt_of_le A809.lt q813_0
   have sz_tv_813 : h0.size ≤ tv_813 := Nat.le_trans K810.1 q813_0
   have ge_tv_813 : n0 ≤ tv_813 := Nat.le_trans Z0 sz_tv_813
   have sf817 := Safe.keep Kq813 (allS (Safe.exa hZ.alike A809 (by decide) (by decide)) all0) C811.1 (Safe.new q813_0)
   refine go (S' := T813.setTop (mkF m 13 #[sr x1, sr x2] [(.ref x1), (.ref b809), (.int 2), (.ref b806), (.ref b806)])) (fun t k => st813 _ (XS.aloadN X813.here hx rfl (hb hby d8_12) rfl rfl k)) ?_
   have f818 : Exa Z T813.heap b809 "java/lang/StringBuilder" := (A809.keep Kq813)
   have O819 : Old Z n0 T813.heap := O0.keep K816 all0
   obtain ⟨v820, T820, L820, X820, hQ820, st820⟩ := callV X813 hx hZ (y := y_32) (z := y_32) hown (ww hw 63 rfl) (ww hw 64 rfl) (notFace_of_selects (args := #[]) (mvT hZ (ww hw 66 rfl))) (ww hw 66 rfl) (ww hw 65 rfl) (by decide) (backOf (W := 3) (rmSa01 l Z a0 hw [] b809 x1 tv_813 kb_813 ([] : List Int32) t1 cs1 G1 fm T813.heap n0 (Nat.le_trans Z0 K816.1) f818 q813_1 q813_2 q813_3 q813_4 q813_5 (hp0.keep K816 nin0 nin0) (fun _ q => nomatch q) (by simp only [List.length_append, List.length_nil, List.length_cons]; omega) ge_b809 ge_tv_813 (Nat.ne_of_lt lt_t1_tv_813) (Nat.ne_of_lt lt_t1_b809) (Nat.ne_of_lt lt_x1_b809) (Nat.ne_of_lt lt_x1_tv_813) (Nat.ne_of_gt lt_b809_tv_813) hfm hp11 hp12 hG1 hp14 hp15 hp16 O819) hZ (ww hw 67 rfl) (ww hw 47 rfl) (by decide) (by decide)) f818 (g := (mkF m 13 #[sr x1, sr x2] [(.ref x1), (.ref b809), (.int 2), (.ref b806), (.ref b806)])) rfl (by rw [hml]; rfl) (kc := 1) (ks := 32) (argsL := [(.ref x1)]) (rest := [(.int 2), (.ref b806), (.ref b806)]) (lenOf pd_35 rfl) rfl (mr0 rfl) (hb hby d8_13) rfl (by decide) (by decide)
   obtain ⟨t3_820, k3_820, rfl, N820q, Kq820, q820_0, q820_1, q820_2, q820_3, q820_4, q820_5⟩ := hQ820
   have N820 := Fr.app N813 N820q
   have f821 : Exa Z T813.heap b806 "com/example/neti/neti/cli/Failure" := (f814.keep Kq813)
   have hkS := Nat.le_trans hkS Kq820.1
   have C822 := C815.trans (CHr.keep Kq820 (allS (Safe.exa hZ.alike f818 (by decide) (by decide)) all0) C815.1)
   have sf823 := Safe.keep Kq820 (allS (Safe.exa hZ.alike f818 (by decide) (by decide)) all0) C815.1 sf817
   have K824 : Keep h0 T820.heap [] := K816.trans Kq820 (allS (P := fun x => x ∈ [] ∨ h0.size ≤ x) (Or.inr sz_b809) all0)
   have lt_x1_t3_820 : x1 < t3_820 := Nat.lt_of_lt_of_le (hp0.keep K816 nin0 nin0).lt1 q820_0
   have lt_t1_t3_820 : t1 < t3_820 := Nat.lt_of_lt_of_le (hp0.keep K816 nin0 nin0).lt2 q820_0
   have lt_x2_t3_820 : x2 < t3_820 := Nat.lt_of_lt_of_le (hp1.keep K816 nin0 nin0).lt1 q820_0
   have lt_t2_t3_820 : t2 < t3_820 := Nat.lt_of_lt_of_le (hp1.keep K816 nin0 nin0).lt2 q820_0
   have lt_b806_t3_820 : b806 < t3_820 := Nat.lt_of_lt_of_le f821.lt q820_0
   have lt_b809_t3_820 : b809 < t3_820 := Nat.lt_of_lt_of_le f818.lt q820_0
   have lt_tv_813_t3_820 : tv_813 < t3_820 := Nat.lt_of_lt_of_le q813_5.lt q820_0
   have sz_t3_820 : h0.size ≤ t3_820 := Nat.le_trans K816.1 q820_0
   have ge_t3_820 : n0 ≤ t3_820 := Nat.le_trans Z0 sz_t3_820
   have sf825 := Safe.keep Kq820 (allS (Safe.exa hZ.alike f818 (by decide) (by decide)) all0) C815.1 (Safe.new q820_0)
   refine go (S' := T820.setTop (mkF m 16 #[sr x1, sr x2] [(.ref b809), (.int 2), (.ref b806), (.ref b806)])) st820 ?_
   have f827 : Arv Z T820.heap tv_813 kb_813 .byte (16 : Int32) [] (.int 0) := (q813_5.keep Kq820 (ninS (Nat.ne_of_gt lt_b809_tv_813) nin0))
   have f828 : Exa Z T820.heap b806 "com/example/neti/neti/cli/Failure" := (f821.keep Kq820)
   have f829 : Exa Z T820.heap b809 "java/lang/StringBuilder" := (f818.keep Kq820)
   obtain ⟨la826, T826, h826, k826, lb826, lk826, X826, e826, E826, hS, hkS, hZ, hown, lE826, lC826, lV826, lA826, la826_lt, lb826_lt, Cq826, lit826, lne826, st826⟩ := ldcCH X820 hx hZ hown (ww hw 110 rfl) (own_sub own_strAtoms hw) rfl hS hkS (own_EW hw) (by decide) C822.1 (vs := [(.int 32), (.int 40), (.int 117), (.int 115), (.int 97), (.int 103), (.int 101), (.int 58), (.int 32)]) (z := (9 : Int32)) ⟨by decide, by decide⟩ (by decide) (by decide) (g := (mkF m 16 #[sr x1, sr x2] [(.ref b809), (.int 2), (.ref b806), (.ref b806)])) rfl (hb hby d8_16) (n := 36) (by decide) (by decide) (by decide) (by decide)
   have K830 : Keep h0 h826 [] := K824.ext E826
   have C831 := C822.trans Cq826
   have sf832 := CHr.safe Cq826 f827.lt sf823
   have sf833 := CHr.safe Cq826 q820_5.lt sf825
   have ne_tv_813_la826 := (lne826 tv_813 sf832).1
   have ne_tv_813_lb826 := (lne826 tv_813 sf832).2
   have ne_t3_820_la826 := (lne826 t3_820 sf833).1
   have ne_t3_820_lb826 := (lne826 t3_820 sf833).2
   have f834 : Exa Z h826 b806 "com/example/neti/neti/cli/Failure" := (f828.ext E826)
   have ne_b806_la826 := (lne826 b806 (Safe.exa hZ.alike f834 (by decide) (by decide))).1
   have ne_b806_lb826 := (lne826 b806 (Safe.exa hZ.alike f834 (by decide) (by decide))).2
   have f835 : Exa Z h826 b809 "java/lang/StringBuilder" := (f829.ext E826)
   have ne_b809_la826 := (lne826 b809 (Safe.exa hZ.alike f835 (by decide) (by decide))).1
   have ne_b809_lb826 := (lne826 b809 (Safe.exa hZ.alike f835 (by decide) (by decide))).2
   have lstr826 : Str Z h826 la826 lb826 (0 : Int32) ([32, 40, 117, 115, 97, 103, 101, 58, 32] : List Int32) := ⟨_, _, _, lE826, lV826, lC826, lA826, own_codOf rfl (by decide), by decide, Nat.le_of_ble_eq_true rfl⟩
   refine go (S' := T826.setTop (mkF m 18 #[sr x1, sr x2] [(.ref la826), (.ref b809), (.int 2), (.ref b806), (.ref b806)])) st826 ?_
   have f836 : Fld Z h826 b809 "java/lang/AbstractStringBuilder" "value" "[B" (.ref t3_820) := (q820_1.ext E826)
   have f837 : Fld Z h826 b809 "java/lang/AbstractStringBuilder" "coder" "B" (.int 1) := (q820_2.ext E826)
   have f838 : Fld Z h826 b809 "java/lang/AbstractStringBuilder" "count" "I" (.int (Int32.ofNat (([] : List Int32) ++ cs1).length)) := (q820_3.ext E826)
   have f839 : Fld Z h826 b809 "java/lang/AbstractStringBuilder" "maybeLatin1" "Z" (.int 0) := (q820_4.ext E826)
   have f840 : Arv Z h826 t3_820 k3_820 .byte (Int32.ofNat (2 * 16)) (StrChars.Road.wideBytes (([] : List Int32) ++ cs1)) (.int 0) := (q820_5.ext E826)
   have O841 : Old Z n0 h826 := O0.keep K830 all0
   obtain ⟨v842, T842, L842, X842, hQ842, st842⟩ := callV X826 hx hZ (y := y_32) (z := y_32) hown (ww hw 63 rfl) (ww hw 64 rfl) (notFace_of_selects (args := #[]) (mvT hZ (ww hw 66 rfl))) (ww hw 66 rfl) (ww hw 65 rfl) (by decide) (backOf (W := 3) (rmSa10 l Z a0 hw [] b809 la826 t3_820 k3_820 (([] : List Int32) ++ cs1) lb826 ([32, 40, 117, 115, 97, 103, 101, 58, 32] : List Int32) G1 fm h826 n0 (Nat.le_trans Z0 K830.1) f835 f836 f837 f838 f839 f840 lstr826 (by simp only [List.length_append, List.length_nil, List.length_cons]; omega) ge_b809 ge_t3_820 (Ne.symm ne_t3_820_lb826) (Ne.symm ne_b809_lb826) (Ne.symm ne_b809_la826) (Ne.symm ne_t3_820_la826) (Nat.ne_of_gt lt_b809_t3_820) hfm hp11 hp12 hG1 hp14 hp15 hp16 O841) hZ (ww hw 67 rfl) (ww hw 47 rfl) (by decide) (by decide)) f835 (g := (mkF m 18 #[sr x1, sr x2] [(.ref la826), (.ref b809), (.int 2), (.ref b806), (.ref b806)])) rfl (by rw [hml]; rfl) (kc := 0) (ks := 0) (argsL := [(.ref la826)]) (rest := [(.int 2), (.ref b806), (.ref b806)]) (lenOf pd_35 rfl) rfl (mr0 rfl) (hb hby d8_18) e826 (by decide) (by decide)
   obtain ⟨rfl, N842q, Kq842, q842_0, q842_1, q842_2, q842_3, q842_4⟩ := hQ842
   have N842 := Fr.app N820 N842q
   have hkS := Nat.le_trans hkS Kq842.1
   have C843 := C831.trans (CHr.keep Kq842 (allS (Safe.exa hZ.alike f835 (by decide) (by decide)) (allS sf833 all0)) C831.1)
   have sf844 := Safe.keep Kq842 (allS (Safe.exa hZ.alike f835 (by decide) (by decide)) (allS sf833 all0)) C831.1 sf832
   have sf845 := Safe.keep Kq842 (allS (Safe.exa hZ.alike f835 (by decide) (by decide)) (allS sf833 all0)) C831.1 sf833
   have K846 : Keep h0 T842.heap [] := K830.trans Kq842 (allS (P := fun x => x ∈ [] ∨ h0.size ≤ x) (Or.inr sz_b809) (allS (P := fun x => x ∈ [] ∨ h0.size ≤ x) (Or.inr sz_t3_820) all0))
   refine go (S' := T842.setTop (mkF m 22 #[sr x1, sr x2] [(.ref x2), (.ref b809), (.int 2), (.ref b806), (.ref b806)])) (fun t k => st842 _ (XS.aloadN X842.here hx rfl (hb hby d8_21) rfl rfl k)) ?_
   have f847 : Exa Z T842.heap b809 "java/lang/StringBuilder" := (f835.keep Kq842)
   have O848 : Old Z n0 T842.heap := O0.keep K846 all0
   obtain ⟨v849, T849, L849, X849, hQ849, st849⟩ := callV X842 hx hZ (y := y_32) (z := y_32) hown (ww hw 63 rfl) (ww hw 64 rfl) (notFace_of_selects (args := #[]) (mvT hZ (ww hw 66 rfl))) (ww hw 66 rfl) (ww hw 65 rfl) (by decide) (backOf (W := 3) (rmSa10 l Z a0 hw [] b809 x2 t3_820 k3_820 ((([] : List Int32) ++ cs1) ++ ([32, 40, 117, 115, 97, 103, 101, 58, 32] : List Int32)) t2 cs2 G1 fm T842.heap n0 (Nat.le_trans Z0 K846.1) f847 q842_0 q842_1 q842_2 q842_3 q842_4 (hp1.keep K846 nin0 nin0) (by simp only [List.length_append, List.length_nil, List.length_cons]; omega) ge_b809 ge_t3_820 (Nat.ne_of_lt lt_t2_t3_820) (Nat.ne_of_lt lt_t2_b809) (Nat.ne_of_lt lt_x2_b809) (Nat.ne_of_lt lt_x2_t3_820) (Nat.ne_of_gt lt_b809_t3_820) hfm hp11 hp12 hG1 hp14 hp15 hp16 O848) hZ (ww hw 67 rfl) (ww hw 47 rfl) (by decide) (by decide)) f847 (g := (mkF m 22 #[sr x1, sr x2] [(.ref x2), (.ref b809), (.int 2), (.ref b806), (.ref b806)])) rfl (by rw [hml]; rfl) (kc := 0) (ks := 0) (argsL := [(.ref x2)]) (rest := [(.int 2), (.ref b806), (.ref b806)]) (lenOf pd_35 rfl) rfl (mr0 rfl) (hb hby d8_22) rfl (by decide) (by decide)
   obtain ⟨rfl, N849q, Kq849, q849_0, q849_1, q849_2, q849_3, q849_4⟩ := hQ849
   have N849 := Fr.app N842 N849q
   have hkS := Nat.le_trans hkS Kq849.1
   have C850 := C843.trans (CHr.keep Kq849 (allS (Safe.exa hZ.alike f847 (by decide) (by decide)) (allS sf845 all0)) C843.1)
   have sf851 := Safe.keep Kq849 (allS (Safe.exa hZ.alike f847 (by decide) (by decide)) (allS sf845 all0)) C843.1 sf844
   have sf852 := Safe.keep Kq849 (allS (Safe.exa hZ.alike f847 (by decide) (by decide)) (allS sf845 all0)) C843.1 sf845
   have K853 : Keep h0 T849.heap [] := K846.trans Kq849 (allS (P := fun x => x ∈ [] ∨ h0.size ≤ x) (Or.inr sz_b809) (allS (P := fun x => x ∈ [] ∨ h0.size ≤ x) (Or.inr sz_t3_820) all0))
   refine go (S' := T849.setTop (mkF m 25 #[sr x1, sr x2] [(.ref b809), (.int 2), (.ref b806), (.ref b806)])) st849 ?_
   have f855 : Arv Z T849.heap tv_813 kb_813 .byte (16 : Int32) [] (.int 0) := (((f827.ext E826).keep Kq842 (ninS (Nat.ne_of_gt lt_b809_tv_813) (ninS (Nat.ne_of_lt lt_tv_813_t3_820) nin0))).keep Kq849 (ninS (Nat.ne_of_gt lt_b809_tv_813) (ninS (Nat.ne_of_lt lt_tv_813_t3_820) nin0)))
   have f856 : Exa Z T849.heap b806 "com/example/neti/neti/cli/Failure" := ((f834.keep Kq842).keep Kq849)
   have f857 : Exa Z T849.heap b809 "java/lang/StringBuilder" := (f847.keep Kq849)
   have f858 : Str Z T849.heap la826 lb826 (0 : Int32) ([32, 40, 117, 115, 97, 103, 101, 58, 32] : List Int32) := ((lstr826.keep Kq842 (ninS (Ne.symm ne_b809_la826) (ninS (Ne.symm ne_t3_820_la826) nin0)) (ninS (Ne.symm ne_b809_lb826) (ninS (Ne.symm ne_t3_820_lb826) nin0))).keep Kq849 (ninS (Ne.symm ne_b809_la826) (ninS (Ne.symm ne_t3_820_la826) nin0)) (ninS (Ne.symm ne_b809_lb826) (ninS (Ne.symm ne_t3_820_lb826) nin0)))
   obtain ⟨la854, T854, h854, k854, lb854, lk854, X854, e854, E854, hS, hkS, hZ, hown, lE854, lC854, lV854, lA854, la854_lt, lb854_lt, Cq854, lit854, lne854, st854⟩ := ldcCH X849 hx hZ hown (ww hw 111 rfl) (own_sub own_strAtoms hw) rfl hS hkS (own_EW hw) (by decide) C850.1 (vs := [(.int 41)]) (z := (1 : Int32)) ⟨by decide, by decide⟩ (by decide) (by decide) (g := (mkF m 25 #[sr x1, sr x2] [(.ref b809), (.int 2), (.ref b806), (.ref b806)])) rfl (hb hby d8_25) (n := 4) (by decide) (by decide) (by decide) (by decide)
   have K859 : Keep h0 h854 [] := K853.ext E854
   have C860 := C850.trans Cq854
   have sf861 := CHr.safe Cq854 f855.lt sf851
   have sf862 := CHr.safe Cq854 q849_4.lt sf852
   have ne_tv_813_la854 := (lne854 tv_813 sf861).1
   have ne_tv_813_lb854 := (lne854 tv_813 sf861).2
   have ne_t3_820_la854 := (lne854 t3_820 sf862).1
   have ne_t3_820_lb854 := (lne854 t3_820 sf862).2
   have f863 : Exa Z h854 b806 "com/example/neti/neti/cli/Failure" := (f856.ext E854)
   have ne_b806_la854 := (lne854 b806 (Safe.exa hZ.alike f863 (by decide) (by decide))).1
   have ne_b806_lb854 := (lne854 b806 (Safe.exa hZ.alike f863 (by decide) (by decide))).2
   have f864 : Exa Z h854 b809 "java/lang/StringBuilder" := (f857.ext E854)
   have ne_b809_la854 := (lne854 b809 (Safe.exa hZ.alike f864 (by decide) (by decide))).1
   have ne_b809_lb854 := (lne854 b809 (Safe.exa hZ.alike f864 (by decide) (by decide))).2
   have lstr854 : Str Z h854 la854 lb854 (0 : Int32) ([41] : List Int32) := ⟨_, _, _, lE854, lV854, lC854, lA854, own_codOf rfl (by decide), by decide, Nat.le_of_ble_eq_true rfl⟩
   refine go (S' := T854.setTop (mkF m 27 #[sr x1, sr x2] [(.ref la854), (.ref b809), (.int 2), (.ref b806), (.ref b806)])) st854 ?_
   have f865 : Fld Z h854 b809 "java/lang/AbstractStringBuilder" "value" "[B" (.ref t3_820) := (q849_0.ext E854)
   have f866 : Fld Z h854 b809 "java/lang/AbstractStringBuilder" "coder" "B" (.int 1) := (q849_1.ext E854)
   have f867 : Fld Z h854 b809 "java/lang/AbstractStringBuilder" "count" "I" (.int (Int32.ofNat (((([] : List Int32) ++ cs1) ++ ([32, 40, 117, 115, 97, 103, 101, 58, 32] : List Int32)) ++ cs2).length)) := (q849_2.ext E854)
   have f868 : Fld Z h854 b809 "java/lang/AbstractStringBuilder" "maybeLatin1" "Z" (.int 0) := (q849_3.ext E854)
   have f869 : Arv Z h854 t3_820 k3_820 .byte (Int32.ofNat (2 * 16)) (StrChars.Road.wideBytes (((([] : List Int32) ++ cs1) ++ ([32, 40, 117, 115, 97, 103, 101, 58, 32] : List Int32)) ++ cs2)) (.int 0) := (q849_4.ext E854)
   have O870 : Old Z n0 h854 := O0.keep K859 all0
   obtain ⟨v871, T871, L871, X871, hQ871, st871⟩ := callV X854 hx hZ (y := y_32) (z := y_32) hown (ww hw 63 rfl) (ww hw 64 rfl) (notFace_of_selects (args := #[]) (mvT hZ (ww hw 66 rfl))) (ww hw 66 rfl) (ww hw 65 rfl) (by decide) (backOf (W := 3) (rmSa10 l Z a0 hw [] b809 la854 t3_820 k3_820 (((([] : List Int32) ++ cs1) ++ ([32, 40, 117, 115, 97, 103, 101, 58, 32] : List Int32)) ++ cs2) lb854 ([41] : List Int32) G1 fm h854 n0 (Nat.le_trans Z0 K859.1) f864 f865 f866 f867 f868 f869 lstr854 (by simp only [List.length_append, List.length_nil, List.length_cons]; omega) ge_b809 ge_t3_820 (Ne.symm ne_t3_820_lb854) (Ne.symm ne_b809_lb854) (Ne.symm ne_b809_la854) (Ne.symm ne_t3_820_la854) (Nat.ne_of_gt lt_b809_t3_820) hfm hp11 hp12 hG1 hp14 hp15 hp16 O870) hZ (ww hw 67 rfl) (ww hw 47 rfl) (by decide) (by decide)) f864 (g := (mkF m 27 #[sr x1, sr x2] [(.ref la854), (.ref b809), (.int 2), (.ref b806), (.ref b806)])) rfl (by rw [hml]; rfl) (kc := 0) (ks := 0) (argsL := [(.ref la854)]) (rest := [(.int 2), (.ref b806), (.ref b806)]) (lenOf pd_35 rfl) rfl (mr0 rfl) (hb hby d8_27) e854 (by decide) (by decide)
   obtain ⟨rfl, N871q, Kq871, q871_0, q871_1, q871_2, q871_3, q871_4⟩ := hQ871
   have N871 := Fr.app N849 N871q
   have hkS := Nat.le_trans hkS Kq871.1
   have C872 := C860.trans (CHr.keep Kq871 (allS (Safe.exa hZ.alike f864 (by decide) (by decide)) (allS sf862 all0)) C860.1)
   have sf873 := Safe.keep Kq871 (allS (Safe.exa hZ.alike f864 (by decide) (by decide)) (allS sf862 all0)) C860.1 sf861
   have sf874 := Safe.keep Kq871 (allS (Safe.exa hZ.alike f864 (by decide) (by decide)) (allS sf862 all0)) C860.1 sf862
   have K875 : Keep h0 T871.heap [] := K859.trans Kq871 (allS (P := fun x => x ∈ [] ∨ h0.size ≤ x) (Or.inr sz_b809) (allS (P := fun x => x ∈ [] ∨ h0.size ≤ x) (Or.inr sz_t3_820) all0))
   refine go (S' := T871.setTop (mkF m 30 #[sr x1, sr x2] [(.ref b809), (.int 2), (.ref b806), (.ref b806)])) st871 ?_
   have f876 : Exa Z T871.heap b809 "java/lang/StringBuilder" := (f864.keep Kq871)
   have O877 : Old Z n0 T871.heap := O0.keep K875 all0
   obtain ⟨v878, T878, L878, X878, hQ878, st878⟩ := callV X871 hx hZ (y := y_44) (z := y_44) hown (ww hw 112 rfl) (ww hw 113 rfl) (notFace_of_selects (args := #[]) (mvT hZ (ww hw 115 rfl))) (ww hw 115 rfl) (ww hw 114 rfl) (by decide) (backOf (W := 3) (rmTos1 l Z a0 hw [] b809 t3_820 k3_820 ((((([] : List Int32) ++ cs1) ++ ([32, 40, 117, 115, 97, 103, 101, 58, 32] : List Int32)) ++ cs2) ++ ([41] : List Int32)) G1 T871.heap n0 (Nat.le_trans Z0 K875.1) f876 q871_0 q871_1 q871_2 q871_3 q871_4 (own_all (own_all (own_all (own_all (fun _ q => nomatch q) hbb1) (by decide)) hbb2) (by decide)) (by simp only [List.length_append, List.length_nil, List.length_cons]; omega) (hx1.elim fun c q => ⟨c, List.mem_append_left _ (List.mem_append_left _ (List.mem_append_left _ (List.mem_append_right _ q.1))), q.2⟩) hp12 hG1 O877) hZ (ww hw 116 rfl) (ww hw 47 rfl) (by decide) (by decide)) f876 (g := (mkF m 30 #[sr x1, sr x2] [(.ref b809), (.int 2), (.ref b806), (.ref b806)])) rfl (by rw [hml]; rfl) (kc := 2) (ks := 32) (argsL := []) (rest := [(.int 2), (.ref b806), (.ref b806)]) (lenOf pd_36 rfl) rfl (mr0 rfl) (hb hby d8_30) rfl (by decide) (by decide)
   obtain ⟨x_878, t3_878, rfl, N878q, Kq878, q878_0, q878_1⟩ := hQ878
   have N878 := Fr.app N871 N878q
   have f879 : Exa Z T871.heap b806 "com/example/neti/neti/cli/Failure" := (f863.keep Kq871)
   have f880 : Arv Z T871.heap tv_813 kb_813 .byte (16 : Int32) [] (.int 0) := ((f855.ext E854).keep Kq871 (ninS (Nat.ne_of_gt lt_b809_tv_813) (ninS (Nat.ne_of_lt lt_tv_813_t3_820) nin0)))
   have f881 : Str Z T871.heap la826 lb826 (0 : Int32) ([32, 40, 117, 115, 97, 103, 101, 58, 32] : List Int32) := ((f858.ext E854).keep Kq871 (ninS (Ne.symm ne_b809_la826) (ninS (Ne.symm ne_t3_820_la826) nin0)) (ninS (Ne.symm ne_b809_lb826) (ninS (Ne.symm ne_t3_820_lb826) nin0)))
   have f882 : Str Z T871.heap la854 lb854 (0 : Int32) ([41] : List Int32) := (lstr854.keep Kq871 (ninS (Ne.symm ne_b809_la854) (ninS (Ne.symm ne_t3_820_la854) nin0)) (ninS (Ne.symm ne_b809_lb854) (ninS (Ne.symm ne_t3_820_lb854) nin0)))
   have hkS := Nat.le_trans hkS Kq878.1
   have C883 := C872.trans (CHr.keep Kq878 all0 C872.1)
   have sf884 := Safe.keep Kq878 all0 C872.1 sf873
   have sf885 := Safe.keep Kq878 all0 C872.1 sf874
   have K886 : Keep h0 T878.heap [] := K875.trans Kq878 all0
   have lt_x1_x_878 : x1 < x_878 := Nat.lt_of_lt_of_le (hp0.keep K875 nin0 nin0).lt1 q878_0
   have lt_t1_x_878 : t1 < x_878 := Nat.lt_of_lt_of_le (hp0.keep K875 nin0 nin0).lt2 q878_0
   have lt_x2_x_878 : x2 < x_878 := Nat.lt_of_lt_of_le (hp1.keep K875 nin0 nin0).lt1 q878_0
   have lt_t2_x_878 : t2 < x_878 := Nat.lt_of_lt_of_le (hp1.keep K875 nin0 nin0).lt2 q878_0
   have lt_b806_x_878 : b806 < x_878 := Nat.lt_of_lt_of_le f879.lt q878_0
   have lt_b809_x_878 : b809 < x_878 := Nat.lt_of_lt_of_le f876.lt q878_0
   have lt_tv_813_x_878 : tv_813 < x_878 := Nat.lt_of_lt_of_le f880.lt q878_0
   have lt_t3_820_x_878 : t3_820 < x_878 := Nat.lt_of_lt_of_le q871_4.lt q878_0
   have lt_la826_x_878 : la826 < x_878 := Nat.lt_of_lt_of_le f881.lt1 q878_0
   have lt_lb826_x_878 : lb826 < x_878 := Nat.lt_of_lt_of_le f881.lt2 q878_0
   have lt_la854_x_878 : la854 < x_878 := Nat.lt_of_lt_of_le f882.lt1 q878_0
   have lt_lb854_x_878 : lb854 < x_878 := Nat.lt_of_lt_of_le f882.lt2 q878_0
   have sz_x_878 : h0.size ≤ x_878 := Nat.le_trans K875.1 q878_0
   have ge_x_878 : n0 ≤ x_878 := Nat.le_trans Z0 sz_x_878
   have ne_t3_878_b806 : t3_878 ≠ b806 := q878_1.ne2 (f879.keep Kq878) (ww hw 44 rfl)
   have ne_t3_878_b809 : t3_878 ≠ b809 := q878_1.ne2 (f876.keep Kq878) (ww hw 46 rfl)
   refine go (S' := T878.setTop (mkF m 33 #[sr x1, sr x2] [(.ref x_878), (.int 2), (.ref b806), (.ref b806)])) st878 ?_
   have f887 : Exa Z T878.heap b806 "com/example/neti/neti/cli/Failure" := (f879.keep Kq878)
   have f888 : Fld Z T878.heap b806 "java/lang/Throwable" "cause" "Ljava/lang/Throwable;" .null := ((((((((((D806 (Or.inl (ww hw 173 rfl)) (ty := (.object "java/lang/Throwable")) (by decide)).ext E809).keep Kq813 (ninS (Nat.ne_of_lt lt_b806_b809) nin0)).keep Kq820 (ninS (Nat.ne_of_lt lt_b806_b809) nin0)).ext E826).keep Kq842 (ninS (Nat.ne_of_lt lt_b806_b809) (ninS (Nat.ne_of_lt lt_b806_t3_820) nin0))).keep Kq849 (ninS (Nat.ne_of_lt lt_b806_b809) (ninS (Nat.ne_of_lt lt_b806_t3_820) nin0))).ext E854).keep Kq871 (ninS (Nat.ne_of_lt lt_b806_b809) (ninS (Nat.ne_of_lt lt_b806_t3_820) nin0))).keep Kq878 nin0)
   have f889 : Fld Z T878.heap b806 "java/lang/Throwable" "stackTrace" "[Ljava/lang/StackTraceElement;" .null := ((((((((((D806 (Or.inl (ww hw 176 rfl)) (ty := (.array (.object "java/lang/StackTraceElement"))) (by decide)).ext E809).keep Kq813 (ninS (Nat.ne_of_lt lt_b806_b809) nin0)).keep Kq820 (ninS (Nat.ne_of_lt lt_b806_b809) nin0)).ext E826).keep Kq842 (ninS (Nat.ne_of_lt lt_b806_b809) (ninS (Nat.ne_of_lt lt_b806_t3_820) nin0))).keep Kq849 (ninS (Nat.ne_of_lt lt_b806_b809) (ninS (Nat.ne_of_lt lt_b806_t3_820) nin0))).ext E854).keep Kq871 (ninS (Nat.ne_of_lt lt_b806_b809) (ninS (Nat.ne_of_lt lt_b806_t3_820) nin0))).keep Kq878 nin0)
   have f890 : Fld Z T878.heap b806 "java/lang/Throwable" "suppressedExceptions" "Ljava/util/List;" .null := ((((((((((D806 (Or.inl (ww hw 179 rfl)) (ty := (.object "java/util/List")) (by decide)).ext E809).keep Kq813 (ninS (Nat.ne_of_lt lt_b806_b809) nin0)).keep Kq820 (ninS (Nat.ne_of_lt lt_b806_b809) nin0)).ext E826).keep Kq842 (ninS (Nat.ne_of_lt lt_b806_b809) (ninS (Nat.ne_of_lt lt_b806_t3_820) nin0))).keep Kq849 (ninS (Nat.ne_of_lt lt_b806_b809) (ninS (Nat.ne_of_lt lt_b806_t3_820) nin0))).ext E854).keep Kq871 (ninS (Nat.ne_of_lt lt_b806_b809) (ninS (Nat.ne_of_lt lt_b806_t3_820) nin0))).keep Kq878 nin0)
   have f891 : Fld Z T878.heap b806 "java/lang/Throwable" "backtrace" "Ljava/lang/Object;" .null := ((((((((((D806 (Or.inl (ww hw 204 rfl)) (ty := (.object "java/lang/Object")) (by decide)).ext E809).keep Kq813 (ninS (Nat.ne_of_lt lt_b806_b809) nin0)).keep Kq820 (ninS (Nat.ne_of_lt lt_b806_b809) nin0)).ext E826).keep Kq842 (ninS (Nat.ne_of_lt lt_b806_b809) (ninS (Nat.ne_of_lt lt_b806_t3_820) nin0))).keep Kq849 (ninS (Nat.ne_of_lt lt_b806_b809) (ninS (Nat.ne_of_lt lt_b806_t3_820) nin0))).ext E854).keep Kq871 (ninS (Nat.ne_of_lt lt_b806_b809) (ninS (Nat.ne_of_lt lt_b806_t3_820) nin0))).keep Kq878 nin0)
   have f892 : Fld Z T878.heap b806 "java/lang/Throwable" "detailMessage" "Ljava/lang/String;" .null := ((((((((((D806 (Or.inl (ww hw 203 rfl)) (ty := (.object "java/lang/String")) (by decide)).ext E809).keep Kq813 (ninS (Nat.ne_of_lt lt_b806_b809) nin0)).keep Kq820 (ninS (Nat.ne_of_lt lt_b806_b809) nin0)).ext E826).keep Kq842 (ninS (Nat.ne_of_lt lt_b806_b809) (ninS (Nat.ne_of_lt lt_b806_t3_820) nin0))).keep Kq849 (ninS (Nat.ne_of_lt lt_b806_b809) (ninS (Nat.ne_of_lt lt_b806_t3_820) nin0))).ext E854).keep Kq871 (ninS (Nat.ne_of_lt lt_b806_b809) (ninS (Nat.ne_of_lt lt_b806_t3_820) nin0))).keep Kq878 nin0)
   have f893 : Fld Z T878.heap b806 "com/example/neti/neti/cli/Failure" "status" "I" (.int 0) := ((((((((((D806 (Or.inr (ww hw 209 rfl)) (ty := .int) (by decide)).ext E809).keep Kq813 (ninS (Nat.ne_of_lt lt_b806_b809) nin0)).keep Kq820 (ninS (Nat.ne_of_lt lt_b806_b809) nin0)).ext E826).keep Kq842 (ninS (Nat.ne_of_lt lt_b806_b809) (ninS (Nat.ne_of_lt lt_b806_t3_820) nin0))).keep Kq849 (ninS (Nat.ne_of_lt lt_b806_b809) (ninS (Nat.ne_of_lt lt_b806_t3_820) nin0))).ext E854).keep Kq871 (ninS (Nat.ne_of_lt lt_b806_b809) (ninS (Nat.ne_of_lt lt_b806_t3_820) nin0))).keep Kq878 nin0)
   have f894 : Unx Z T878.heap b806 := (((((((((Ux806.ext E809).keep Kq813 (ninS (Nat.ne_of_lt lt_b806_b809) nin0)).keep Kq820 (ninS (Nat.ne_of_lt lt_b806_b809) nin0)).ext E826).keep Kq842 (ninS (Nat.ne_of_lt lt_b806_b809) (ninS (Nat.ne_of_lt lt_b806_t3_820) nin0))).keep Kq849 (ninS (Nat.ne_of_lt lt_b806_b809) (ninS (Nat.ne_of_lt lt_b806_t3_820) nin0))).ext E854).keep Kq871 (ninS (Nat.ne_of_lt lt_b806_b809) (ninS (Nat.ne_of_lt lt_b806_t3_820) nin0))).keep Kq878 nin0)
   have O895 : Old Z n0 T878.heap := O0.keep K886 all0
   obtain ⟨v896, T896, L896, X896, hQ896, st896⟩ := callSp X878 hx hZ (y := y_53) rfl hown (ww hw 157 rfl) (ww hw 158 rfl) (ww hw 159 rfl) (by decide) (backOfKL (W := 1) (rmFi l Z a0 hw [] b806 x_878 us sn T878.heap n0 (Nat.le_trans Z0 K886.1) f887 f888 f889 f890 f891 f892 f893 f894 ge_b806 hlt hp5 hp6 hus hsn hun O895) hZ (ww hw 159 rfl) (ww hw 41 rfl) (by decide) (by decide) (Vm.MethodsKnown.alikeC hS.1.alike hKn.1) (Vm.FramesKnown.alikeC hS.1.alike hKn.2)) (g := (mkF m 33 #[sr x1, sr x2] [(.ref x_878), (.int 2), (.ref b806), (.ref b806)])) rfl (by rw [hml]; rfl) (a := b806) (kc := 1) (ks := 2752) (argsL := [(.int 2), (.ref x_878)]) (rest := [(.ref b806)]) (lenOf pd_23 rfl) rfl (mr0 rfl) (hb hby d8_33) rfl (by decide) (by decide)
   obtain ⟨rfl, N896q, Kq896, q896_0, q896_1, q896_2⟩ := hQ896
   have N896 := Fr.app N878 N896q
   have hkS := Nat.le_trans hkS Kq896.1
   have C897 := C883.trans (CHr.keep Kq896 (allS (Safe.exa hZ.alike f887 (by decide) (by decide)) all0) C883.1)
   have sf898 := Safe.keep Kq896 (allS (Safe.exa hZ.alike f887 (by decide) (by decide)) all0) C883.1 sf884
   have sf899 := Safe.keep Kq896 (allS (Safe.exa hZ.alike f887 (by decide) (by decide)) all0) C883.1 sf885
   have K900 : Keep h0 T896.heap [] := K886.trans Kq896 (allS (P := fun x => x ∈ [] ∨ h0.size ≤ x) (Or.inr sz_b806) all0)
   refine go (S' := T896.setTop (mkF m 36 #[sr x1, sr x2] [(.ref b806)])) st896 ?_
   refine finRW X896 hx hk hret rfl rfl hS hkS hZ (own_EW hw) C897 rfl (hb hby d8_36) (by decide) (by decide) ?_
   have f901 : Str Z T896.heap x_878 t3_878 (1 : Int32) ((((([] : List Int32) ++ cs1) ++ ([32, 40, 117, 115, 97, 103, 101, 58, 32] : List Int32)) ++ cs2) ++ ([41] : List Int32)) := (q878_1.keep Kq896 (ninS (Nat.ne_of_gt lt_b806_x_878) nin0) (ninS ne_t3_878_b806 nin0))
   exact ⟨b806, x_878, t3_878, (1 : Int32), rfl, N896, K900, sz_b806, q896_0, q896_1, q896_2, f901⟩
  ·
   have hx1 := hcq1.elim (fun q => absurd q.1 (by decide)) (fun q => q.2.2.2)
   have hx2 := hcq2.elim (fun q => absurd q.1 (by decide)) (fun q => q.2.2.2)
   obtain ⟨T902, h902, X902, e902, E902, A902, D902, Un902, st902⟩ := newO X0 hx hZ hown (ww hw 43 rfl) (ww hw 44 rfl) (ww hw 41 rfl) e0 (g := (mkF m 0 #[sr x1, sr x2] [])) rfl (hb hby d8_0) (by decide) (by decide)
   obtain ⟨b902, g902⟩ : ∃ z, z = h0.size := ⟨_, rfl⟩
   rw [← g902] at A902 D902 Un902 st902
   have lt_x1_b902 : x1 < b902 := by rw [g902]; exact hp0.lt1
   have lt_t1_b902 : t1 < b902 := by rw [g902]; exact hp0.lt2
   have lt_x2_b902 : x2 < b902 := by rw [g902]; exact hp1.lt1
   have lt_t2_b902 : t2 < b902 := by rw [g902]; exact hp1.lt2
   have ge_b902 : n0 ≤ b902 := by rw [g902]; exact (Nat.le_trans Z0 K0.1)
   have sz_b902 : h0.size ≤ b902 := by rw [g902]; exact K0.1
   have K903 : Keep h0 h902 [] := K0.ext E902
   have hkS := Nat.le_trans hkS E902.1
   have C904 := C0.trans (CHr.ext E902 C0.1)
   have Ux902 : Unx Z h902 b902 := Un902
   refine go (S' := T902.setTop (mkF m 5 #[sr x1, sr x2] [(.int 2), (.ref b902), (.ref b902)])) (fun t k => st902 _ (XS.dup X902.here hx rfl (hb hby d8_3) rfl rfl (XS.iconst X902.here hx rfl (hb hby d8_4) k))) ?_
   obtain ⟨T905, h905, X905, e905, E905, A905, D905, -, st905⟩ := newO X902 hx hZ hown (ww hw 45 rfl) (ww hw 46 rfl) (ww hw 47 rfl) e902 (g := (mkF m 5 #[sr x1, sr x2] [(.int 2), (.ref b902), (.ref b902)])) rfl (hb hby d8_5) (by decide) (by decide)
   obtain ⟨b905, g905⟩ : ∃ z, z = h902.size := ⟨_, rfl⟩
   rw [← g905] at A905 D905 st905
   have lt_x1_b905 : x1 < b905 := by rw [g905]; exact (hp0.keep K903 nin0 nin0).lt1
   have lt_t1_b905 : t1 < b905 := by rw [g905]; exact (hp0.keep K903 nin0 nin0).lt2
   have lt_x2_b905 : x2 < b905 := by rw [g905]; exact (hp1.keep K903 nin0 nin0).lt1
   have lt_t2_b905 : t2 < b905 := by rw [g905]; exact (hp1.keep K903 nin0 nin0).lt2
   have lt_b902_b905 : b902 < b905 := by rw [g905]; exact A902.lt
   have ge_b905 : n0 ≤ b905 := by rw [g905]; exact (Nat.le_trans Z0 K903.1)
   have sz_b905 : h0.size ≤ b905 := by rw [g905]; exact K903.1
   have K906 : Keep h0 h905 [] := K903.ext E905
   have hkS := Nat.le_trans hkS E905.1
   have C907 := C904.trans (CHr.ext E905 C904.1)
   refine go (S' := T905.setTop (mkF m 9 #[sr x1, sr x2] [(.ref b905), (.ref b905), (.int 2), (.ref b902), (.ref b902)])) (fun t k => st905 _ (XS.dup X905.here hx rfl (hb hby d8_8) rfl rfl k)) ?_
   have O908 : Old Z n0 h905 := O0.keep K906 all0
   obtain ⟨v909, T909, L909, X909, hQ909, st909⟩ := callSp X905 hx hZ (y := y_34) rfl hown (ww hw 48 rfl) (ww hw 49 rfl) (ww hw 50 rfl) (by decide) (backOf (W := 4) (rmSbi l Z a0 hw [] b905 G1 h905 n0 (Nat.le_trans Z0 K906.1) A905 (D905 (Or.inl (ww hw 60 rfl)) (ty := (.array .byte)) (by decide)) (D905 (Or.inl (ww hw 62 rfl)) (ty := .byte) (by decide)) (D905 (Or.inl (ww hw 84 rfl)) (ty := .int) (by decide)) (D905 (Or.inl (ww hw 309 rfl)) (ty := .boolean) (by decide)) ge_b905 hp12 hG1 O908) hZ (ww hw 50 rfl) (ww hw 47 rfl) (by decide) (by decide)) (g := (mkF m 9 #[sr x1, sr x2] [(.ref b905), (.ref b905), (.int 2), (.ref b902), (.ref b902)])) rfl (by rw [hml]; rfl) (a := b905) (kc := 1) (ks := 16) (argsL := []) (rest := [(.ref b905), (.int 2), (.ref b902), (.ref b902)]) (lenOf pd_18 rfl) rfl (mr0 rfl) (hb hby d8_9) e905 (by decide) (by decide)
   obtain ⟨tv_909, kb_909, rfl, N909q, Kq909, q909_0, q909_1, q909_2, q909_3, q909_4, q909_5⟩ := hQ909
   have N909 := Fr.app N0 N909q
   have f910 : Exa Z h905 b902 "com/example/neti/neti/cli/Failure" := (A902.ext E905)
   have hkS := Nat.le_trans hkS Kq909.1
   have C911 := C907.trans (CHr.keep Kq909 (allS (Safe.exa hZ.alike A905 (by decide) (by decide)) all0) C907.1)
   have K912 : Keep h0 T909.heap [] := K906.trans Kq909 (allS (P := fun x => x ∈ [] ∨ h0.size ≤ x) (Or.inr sz_b905) all0)
   have lt_x1_tv_909 : x1 < tv_909 := Nat.lt_of_lt_of_le (hp0.keep K906 nin0 nin0).lt1 q909_0
   have lt_t1_tv_909 : t1 < tv_909 := Nat.lt_of_lt_of_le (hp0.keep K906 nin0 nin0).lt2 q909_0
   have lt_x2_tv_909 : x2 < tv_909 := Nat.lt_of_lt_of_le (hp1.keep K906 nin0 nin0).lt1 q909_0
   have lt_t2_tv_909 : t2 < tv_909 := Nat.lt_of_lt_of_le (hp1.keep K906 nin0 nin0).lt2 q909_0
   have lt_b902_tv_909 : b902 < tv_909 := Nat.lt_of_lt_of_le f910.lt q909_0
   have lt_b905_tv_909 : b905 < tv_909 := Nat.lt_of_lt_of_le A905.lt q909_0
   have sz_tv_909 : h0.size ≤ tv_909 := Nat.le_trans K906.1 q909_0
   have ge_tv_909 : n0 ≤ tv_909 := Nat.le_trans Z0 sz_tv_909
   have sf913 := Safe.keep Kq909 (allS (Safe.exa hZ.alike A905 (by decide) (by decide)) all0) C907.1 (Safe.new q909_0)
   refine go (S' := T909.setTop (mkF m 13 #[sr x1, sr x2] [(.ref x1), (.ref b905), (.int 2), (.ref b902), (.ref b902)])) (fun t k => st909 _ (XS.aloadN X909.here hx rfl (hb hby d8_12) rfl rfl k)) ?_
   have f914 : Exa Z T909.heap b905 "java/lang/StringBuilder" := (A905.keep Kq909)
   have O915 : Old Z n0 T909.heap := O0.keep K912 all0
   obtain ⟨v916, T916, L916, X916, hQ916, st916⟩ := callV X909 hx hZ (y := y_32) (z := y_32) hown (ww hw 63 rfl) (ww hw 64 rfl) (notFace_of_selects (args := #[]) (mvT hZ (ww hw 66 rfl))) (ww hw 66 rfl) (ww hw 65 rfl) (by decide) (backOf (W := 3) (rmSa01 l Z a0 hw [] b905 x1 tv_909 kb_909 ([] : List Int32) t1 cs1 G1 fm T909.heap n0 (Nat.le_trans Z0 K912.1) f914 q909_1 q909_2 q909_3 q909_4 q909_5 (hp0.keep K912 nin0 nin0) (fun _ q => nomatch q) (by simp only [List.length_append, List.length_nil, List.length_cons]; omega) ge_b905 ge_tv_909 (Nat.ne_of_lt lt_t1_tv_909) (Nat.ne_of_lt lt_t1_b905) (Nat.ne_of_lt lt_x1_b905) (Nat.ne_of_lt lt_x1_tv_909) (Nat.ne_of_gt lt_b905_tv_909) hfm hp11 hp12 hG1 hp14 hp15 hp16 O915) hZ (ww hw 67 rfl) (ww hw 47 rfl) (by decide) (by decide)) f914 (g := (mkF m 13 #[sr x1, sr x2] [(.ref x1), (.ref b905), (.int 2), (.ref b902), (.ref b902)])) rfl (by rw [hml]; rfl) (kc := 1) (ks := 32) (argsL := [(.ref x1)]) (rest := [(.int 2), (.ref b902), (.ref b902)]) (lenOf pd_35 rfl) rfl (mr0 rfl) (hb hby d8_13) rfl (by decide) (by decide)
   obtain ⟨t3_916, k3_916, rfl, N916q, Kq916, q916_0, q916_1, q916_2, q916_3, q916_4, q916_5⟩ := hQ916
   have N916 := Fr.app N909 N916q
   have f917 : Exa Z T909.heap b902 "com/example/neti/neti/cli/Failure" := (f910.keep Kq909)
   have hkS := Nat.le_trans hkS Kq916.1
   have C918 := C911.trans (CHr.keep Kq916 (allS (Safe.exa hZ.alike f914 (by decide) (by decide)) all0) C911.1)
   have sf919 := Safe.keep Kq916 (allS (Safe.exa hZ.alike f914 (by decide) (by decide)) all0) C911.1 sf913
   have K920 : Keep h0 T916.heap [] := K912.trans Kq916 (allS (P := fun x => x ∈ [] ∨ h0.size ≤ x) (Or.inr sz_b905) all0)
   have lt_x1_t3_916 : x1 < t3_916 := Nat.lt_of_lt_of_le (hp0.keep K912 nin0 nin0).lt1 q916_0
   have lt_t1_t3_916 : t1 < t3_916 := Nat.lt_of_lt_of_le (hp0.keep K912 nin0 nin0).lt2 q916_0
   have lt_x2_t3_916 : x2 < t3_916 := Nat.lt_of_lt_of_le (hp1.keep K912 nin0 nin0).lt1 q916_0
   have lt_t2_t3_916 : t2 < t3_916 := Nat.lt_of_lt_of_le (hp1.keep K912 nin0 nin0).lt2 q916_0
   have lt_b902_t3_916 : b902 < t3_916 := Nat.lt_of_lt_of_le f917.lt q916_0
   have lt_b905_t3_916 : b905 < t3_916 := Nat.lt_of_lt_of_le f914.lt q916_0
   have lt_tv_909_t3_916 : tv_909 < t3_916 := Nat.lt_of_lt_of_le q909_5.lt q916_0
   have sz_t3_916 : h0.size ≤ t3_916 := Nat.le_trans K912.1 q916_0
   have ge_t3_916 : n0 ≤ t3_916 := Nat.le_trans Z0 sz_t3_916
   have sf921 := Safe.keep Kq916 (allS (Safe.exa hZ.alike f914 (by decide) (by decide)) all0) C911.1 (Safe.new q916_0)
   refine go (S' := T916.setTop (mkF m 16 #[sr x1, sr x2] [(.ref b905), (.int 2), (.ref b902), (.ref b902)])) st916 ?_
   have f923 : Arv Z T916.heap tv_909 kb_909 .byte (16 : Int32) [] (.int 0) := (q909_5.keep Kq916 (ninS (Nat.ne_of_gt lt_b905_tv_909) nin0))
   have f924 : Exa Z T916.heap b902 "com/example/neti/neti/cli/Failure" := (f917.keep Kq916)
   have f925 : Exa Z T916.heap b905 "java/lang/StringBuilder" := (f914.keep Kq916)
   obtain ⟨la922, T922, h922, k922, lb922, lk922, X922, e922, E922, hS, hkS, hZ, hown, lE922, lC922, lV922, lA922, la922_lt, lb922_lt, Cq922, lit922, lne922, st922⟩ := ldcCH X916 hx hZ hown (ww hw 110 rfl) (own_sub own_strAtoms hw) rfl hS hkS (own_EW hw) (by decide) C918.1 (vs := [(.int 32), (.int 40), (.int 117), (.int 115), (.int 97), (.int 103), (.int 101), (.int 58), (.int 32)]) (z := (9 : Int32)) ⟨by decide, by decide⟩ (by decide) (by decide) (g := (mkF m 16 #[sr x1, sr x2] [(.ref b905), (.int 2), (.ref b902), (.ref b902)])) rfl (hb hby d8_16) (n := 36) (by decide) (by decide) (by decide) (by decide)
   have K926 : Keep h0 h922 [] := K920.ext E922
   have C927 := C918.trans Cq922
   have sf928 := CHr.safe Cq922 f923.lt sf919
   have sf929 := CHr.safe Cq922 q916_5.lt sf921
   have ne_tv_909_la922 := (lne922 tv_909 sf928).1
   have ne_tv_909_lb922 := (lne922 tv_909 sf928).2
   have ne_t3_916_la922 := (lne922 t3_916 sf929).1
   have ne_t3_916_lb922 := (lne922 t3_916 sf929).2
   have f930 : Exa Z h922 b902 "com/example/neti/neti/cli/Failure" := (f924.ext E922)
   have ne_b902_la922 := (lne922 b902 (Safe.exa hZ.alike f930 (by decide) (by decide))).1
   have ne_b902_lb922 := (lne922 b902 (Safe.exa hZ.alike f930 (by decide) (by decide))).2
   have f931 : Exa Z h922 b905 "java/lang/StringBuilder" := (f925.ext E922)
   have ne_b905_la922 := (lne922 b905 (Safe.exa hZ.alike f931 (by decide) (by decide))).1
   have ne_b905_lb922 := (lne922 b905 (Safe.exa hZ.alike f931 (by decide) (by decide))).2
   have lstr922 : Str Z h922 la922 lb922 (0 : Int32) ([32, 40, 117, 115, 97, 103, 101, 58, 32] : List Int32) := ⟨_, _, _, lE922, lV922, lC922, lA922, own_codOf rfl (by decide), by decide, Nat.le_of_ble_eq_true rfl⟩
   refine go (S' := T922.setTop (mkF m 18 #[sr x1, sr x2] [(.ref la922), (.ref b905), (.int 2), (.ref b902), (.ref b902)])) st922 ?_
   have f932 : Fld Z h922 b905 "java/lang/AbstractStringBuilder" "value" "[B" (.ref t3_916) := (q916_1.ext E922)
   have f933 : Fld Z h922 b905 "java/lang/AbstractStringBuilder" "coder" "B" (.int 1) := (q916_2.ext E922)
   have f934 : Fld Z h922 b905 "java/lang/AbstractStringBuilder" "count" "I" (.int (Int32.ofNat (([] : List Int32) ++ cs1).length)) := (q916_3.ext E922)
   have f935 : Fld Z h922 b905 "java/lang/AbstractStringBuilder" "maybeLatin1" "Z" (.int 0) := (q916_4.ext E922)
   have f936 : Arv Z h922 t3_916 k3_916 .byte (Int32.ofNat (2 * 16)) (StrChars.Road.wideBytes (([] : List Int32) ++ cs1)) (.int 0) := (q916_5.ext E922)
   have O937 : Old Z n0 h922 := O0.keep K926 all0
   obtain ⟨v938, T938, L938, X938, hQ938, st938⟩ := callV X922 hx hZ (y := y_32) (z := y_32) hown (ww hw 63 rfl) (ww hw 64 rfl) (notFace_of_selects (args := #[]) (mvT hZ (ww hw 66 rfl))) (ww hw 66 rfl) (ww hw 65 rfl) (by decide) (backOf (W := 3) (rmSa10 l Z a0 hw [] b905 la922 t3_916 k3_916 (([] : List Int32) ++ cs1) lb922 ([32, 40, 117, 115, 97, 103, 101, 58, 32] : List Int32) G1 fm h922 n0 (Nat.le_trans Z0 K926.1) f931 f932 f933 f934 f935 f936 lstr922 (by simp only [List.length_append, List.length_nil, List.length_cons]; omega) ge_b905 ge_t3_916 (Ne.symm ne_t3_916_lb922) (Ne.symm ne_b905_lb922) (Ne.symm ne_b905_la922) (Ne.symm ne_t3_916_la922) (Nat.ne_of_gt lt_b905_t3_916) hfm hp11 hp12 hG1 hp14 hp15 hp16 O937) hZ (ww hw 67 rfl) (ww hw 47 rfl) (by decide) (by decide)) f931 (g := (mkF m 18 #[sr x1, sr x2] [(.ref la922), (.ref b905), (.int 2), (.ref b902), (.ref b902)])) rfl (by rw [hml]; rfl) (kc := 0) (ks := 0) (argsL := [(.ref la922)]) (rest := [(.int 2), (.ref b902), (.ref b902)]) (lenOf pd_35 rfl) rfl (mr0 rfl) (hb hby d8_18) e922 (by decide) (by decide)
   obtain ⟨rfl, N938q, Kq938, q938_0, q938_1, q938_2, q938_3, q938_4⟩ := hQ938
   have N938 := Fr.app N916 N938q
   have hkS := Nat.le_trans hkS Kq938.1
   have C939 := C927.trans (CHr.keep Kq938 (allS (Safe.exa hZ.alike f931 (by decide) (by decide)) (allS sf929 all0)) C927.1)
   have sf940 := Safe.keep Kq938 (allS (Safe.exa hZ.alike f931 (by decide) (by decide)) (allS sf929 all0)) C927.1 sf928
   have sf941 := Safe.keep Kq938 (allS (Safe.exa hZ.alike f931 (by decide) (by decide)) (allS sf929 all0)) C927.1 sf929
   have K942 : Keep h0 T938.heap [] := K926.trans Kq938 (allS (P := fun x => x ∈ [] ∨ h0.size ≤ x) (Or.inr sz_b905) (allS (P := fun x => x ∈ [] ∨ h0.size ≤ x) (Or.inr sz_t3_916) all0))
   refine go (S' := T938.setTop (mkF m 22 #[sr x1, sr x2] [(.ref x2), (.ref b905), (.int 2), (.ref b902), (.ref b902)])) (fun t k => st938 _ (XS.aloadN X938.here hx rfl (hb hby d8_21) rfl rfl k)) ?_
   have f943 : Exa Z T938.heap b905 "java/lang/StringBuilder" := (f931.keep Kq938)
   have O944 : Old Z n0 T938.heap := O0.keep K942 all0
   obtain ⟨v945, T945, L945, X945, hQ945, st945⟩ := callV X938 hx hZ (y := y_32) (z := y_32) hown (ww hw 63 rfl) (ww hw 64 rfl) (notFace_of_selects (args := #[]) (mvT hZ (ww hw 66 rfl))) (ww hw 66 rfl) (ww hw 65 rfl) (by decide) (backOf (W := 3) (rmSa11 l Z a0 hw [] b905 x2 t3_916 k3_916 ((([] : List Int32) ++ cs1) ++ ([32, 40, 117, 115, 97, 103, 101, 58, 32] : List Int32)) t2 cs2 G1 fm T938.heap n0 (Nat.le_trans Z0 K942.1) f943 q938_0 q938_1 q938_2 q938_3 q938_4 (hp1.keep K942 nin0 nin0) (by simp only [List.length_append, List.length_nil, List.length_cons]; omega) ge_b905 ge_t3_916 (Nat.ne_of_lt lt_t2_t3_916) (Nat.ne_of_lt lt_t2_b905) (Nat.ne_of_lt lt_x2_b905) (Nat.ne_of_lt lt_x2_t3_916) (Nat.ne_of_gt lt_b905_t3_916) hfm hp11 hp12 hG1 hp14 hp15 hp16 O944) hZ (ww hw 67 rfl) (ww hw 47 rfl) (by decide) (by decide)) f943 (g := (mkF m 22 #[sr x1, sr x2] [(.ref x2), (.ref b905), (.int 2), (.ref b902), (.ref b902)])) rfl (by rw [hml]; rfl) (kc := 0) (ks := 0) (argsL := [(.ref x2)]) (rest := [(.int 2), (.ref b902), (.ref b902)]) (lenOf pd_35 rfl) rfl (mr0 rfl) (hb hby d8_22) rfl (by decide) (by decide)
   obtain ⟨rfl, N945q, Kq945, q945_0, q945_1, q945_2, q945_3, q945_4⟩ := hQ945
   have N945 := Fr.app N938 N945q
   have hkS := Nat.le_trans hkS Kq945.1
   have C946 := C939.trans (CHr.keep Kq945 (allS (Safe.exa hZ.alike f943 (by decide) (by decide)) (allS sf941 all0)) C939.1)
   have sf947 := Safe.keep Kq945 (allS (Safe.exa hZ.alike f943 (by decide) (by decide)) (allS sf941 all0)) C939.1 sf940
   have sf948 := Safe.keep Kq945 (allS (Safe.exa hZ.alike f943 (by decide) (by decide)) (allS sf941 all0)) C939.1 sf941
   have K949 : Keep h0 T945.heap [] := K942.trans Kq945 (allS (P := fun x => x ∈ [] ∨ h0.size ≤ x) (Or.inr sz_b905) (allS (P := fun x => x ∈ [] ∨ h0.size ≤ x) (Or.inr sz_t3_916) all0))
   refine go (S' := T945.setTop (mkF m 25 #[sr x1, sr x2] [(.ref b905), (.int 2), (.ref b902), (.ref b902)])) st945 ?_
   have f951 : Arv Z T945.heap tv_909 kb_909 .byte (16 : Int32) [] (.int 0) := (((f923.ext E922).keep Kq938 (ninS (Nat.ne_of_gt lt_b905_tv_909) (ninS (Nat.ne_of_lt lt_tv_909_t3_916) nin0))).keep Kq945 (ninS (Nat.ne_of_gt lt_b905_tv_909) (ninS (Nat.ne_of_lt lt_tv_909_t3_916) nin0)))
   have f952 : Exa Z T945.heap b902 "com/example/neti/neti/cli/Failure" := ((f930.keep Kq938).keep Kq945)
   have f953 : Exa Z T945.heap b905 "java/lang/StringBuilder" := (f943.keep Kq945)
   have f954 : Str Z T945.heap la922 lb922 (0 : Int32) ([32, 40, 117, 115, 97, 103, 101, 58, 32] : List Int32) := ((lstr922.keep Kq938 (ninS (Ne.symm ne_b905_la922) (ninS (Ne.symm ne_t3_916_la922) nin0)) (ninS (Ne.symm ne_b905_lb922) (ninS (Ne.symm ne_t3_916_lb922) nin0))).keep Kq945 (ninS (Ne.symm ne_b905_la922) (ninS (Ne.symm ne_t3_916_la922) nin0)) (ninS (Ne.symm ne_b905_lb922) (ninS (Ne.symm ne_t3_916_lb922) nin0)))
   obtain ⟨la950, T950, h950, k950, lb950, lk950, X950, e950, E950, hS, hkS, hZ, hown, lE950, lC950, lV950, lA950, la950_lt, lb950_lt, Cq950, lit950, lne950, st950⟩ := ldcCH X945 hx hZ hown (ww hw 111 rfl) (own_sub own_strAtoms hw) rfl hS hkS (own_EW hw) (by decide) C946.1 (vs := [(.int 41)]) (z := (1 : Int32)) ⟨by decide, by decide⟩ (by decide) (by decide) (g := (mkF m 25 #[sr x1, sr x2] [(.ref b905), (.int 2), (.ref b902), (.ref b902)])) rfl (hb hby d8_25) (n := 4) (by decide) (by decide) (by decide) (by decide)
   have K955 : Keep h0 h950 [] := K949.ext E950
   have C956 := C946.trans Cq950
   have sf957 := CHr.safe Cq950 f951.lt sf947
   have sf958 := CHr.safe Cq950 q945_4.lt sf948
   have ne_tv_909_la950 := (lne950 tv_909 sf957).1
   have ne_tv_909_lb950 := (lne950 tv_909 sf957).2
   have ne_t3_916_la950 := (lne950 t3_916 sf958).1
   have ne_t3_916_lb950 := (lne950 t3_916 sf958).2
   have f959 : Exa Z h950 b902 "com/example/neti/neti/cli/Failure" := (f952.ext E950)
   have ne_b902_la950 := (lne950 b902 (Safe.exa hZ.alike f959 (by decide) (by decide))).1
   have ne_b902_lb950 := (lne950 b902 (Safe.exa hZ.alike f959 (by decide) (by decide))).2
   have f960 : Exa Z h950 b905 "java/lang/StringBuilder" := (f953.ext E950)
   have ne_b905_la950 := (lne950 b905 (Safe.exa hZ.alike f960 (by decide) (by decide))).1
   have ne_b905_lb950 := (lne950 b905 (Safe.exa hZ.alike f960 (by decide) (by decide))).2
   have lstr950 : Str Z h950 la950 lb950 (0 : Int32) ([41] : List Int32) := ⟨_, _, _, lE950, lV950, lC950, lA950, own_codOf rfl (by decide), by decide, Nat.le_of_ble_eq_true rfl⟩
   refine go (S' := T950.setTop (mkF m 27 #[sr x1, sr x2] [(.ref la950), (.ref b905), (.int 2), (.ref b902), (.ref b902)])) st950 ?_
   have f961 : Fld Z h950 b905 "java/lang/AbstractStringBuilder" "value" "[B" (.ref t3_916) := (q945_0.ext E950)
   have f962 : Fld Z h950 b905 "java/lang/AbstractStringBuilder" "coder" "B" (.int 1) := (q945_1.ext E950)
   have f963 : Fld Z h950 b905 "java/lang/AbstractStringBuilder" "count" "I" (.int (Int32.ofNat (((([] : List Int32) ++ cs1) ++ ([32, 40, 117, 115, 97, 103, 101, 58, 32] : List Int32)) ++ cs2).length)) := (q945_2.ext E950)
   have f964 : Fld Z h950 b905 "java/lang/AbstractStringBuilder" "maybeLatin1" "Z" (.int 0) := (q945_3.ext E950)
   have f965 : Arv Z h950 t3_916 k3_916 .byte (Int32.ofNat (2 * 16)) (StrChars.Road.wideBytes (((([] : List Int32) ++ cs1) ++ ([32, 40, 117, 115, 97, 103, 101, 58, 32] : List Int32)) ++ cs2)) (.int 0) := (q945_4.ext E950)
   have O966 : Old Z n0 h950 := O0.keep K955 all0
   obtain ⟨v967, T967, L967, X967, hQ967, st967⟩ := callV X950 hx hZ (y := y_32) (z := y_32) hown (ww hw 63 rfl) (ww hw 64 rfl) (notFace_of_selects (args := #[]) (mvT hZ (ww hw 66 rfl))) (ww hw 66 rfl) (ww hw 65 rfl) (by decide) (backOf (W := 3) (rmSa10 l Z a0 hw [] b905 la950 t3_916 k3_916 (((([] : List Int32) ++ cs1) ++ ([32, 40, 117, 115, 97, 103, 101, 58, 32] : List Int32)) ++ cs2) lb950 ([41] : List Int32) G1 fm h950 n0 (Nat.le_trans Z0 K955.1) f960 f961 f962 f963 f964 f965 lstr950 (by simp only [List.length_append, List.length_nil, List.length_cons]; omega) ge_b905 ge_t3_916 (Ne.symm ne_t3_916_lb950) (Ne.symm ne_b905_lb950) (Ne.symm ne_b905_la950) (Ne.symm ne_t3_916_la950) (Nat.ne_of_gt lt_b905_t3_916) hfm hp11 hp12 hG1 hp14 hp15 hp16 O966) hZ (ww hw 67 rfl) (ww hw 47 rfl) (by decide) (by decide)) f960 (g := (mkF m 27 #[sr x1, sr x2] [(.ref la950), (.ref b905), (.int 2), (.ref b902), (.ref b902)])) rfl (by rw [hml]; rfl) (kc := 0) (ks := 0) (argsL := [(.ref la950)]) (rest := [(.int 2), (.ref b902), (.ref b902)]) (lenOf pd_35 rfl) rfl (mr0 rfl) (hb hby d8_27) e950 (by decide) (by decide)
   obtain ⟨rfl, N967q, Kq967, q967_0, q967_1, q967_2, q967_3, q967_4⟩ := hQ967
   have N967 := Fr.app N945 N967q
   have hkS := Nat.le_trans hkS Kq967.1
   have C968 := C956.trans (CHr.keep Kq967 (allS (Safe.exa hZ.alike f960 (by decide) (by decide)) (allS sf958 all0)) C956.1)
   have sf969 := Safe.keep Kq967 (allS (Safe.exa hZ.alike f960 (by decide) (by decide)) (allS sf958 all0)) C956.1 sf957
   have sf970 := Safe.keep Kq967 (allS (Safe.exa hZ.alike f960 (by decide) (by decide)) (allS sf958 all0)) C956.1 sf958
   have K971 : Keep h0 T967.heap [] := K955.trans Kq967 (allS (P := fun x => x ∈ [] ∨ h0.size ≤ x) (Or.inr sz_b905) (allS (P := fun x => x ∈ [] ∨ h0.size ≤ x) (Or.inr sz_t3_916) all0))
   refine go (S' := T967.setTop (mkF m 30 #[sr x1, sr x2] [(.ref b905), (.int 2), (.ref b902), (.ref b902)])) st967 ?_
   have f972 : Exa Z T967.heap b905 "java/lang/StringBuilder" := (f960.keep Kq967)
   have O973 : Old Z n0 T967.heap := O0.keep K971 all0
   obtain ⟨v974, T974, L974, X974, hQ974, st974⟩ := callV X967 hx hZ (y := y_44) (z := y_44) hown (ww hw 112 rfl) (ww hw 113 rfl) (notFace_of_selects (args := #[]) (mvT hZ (ww hw 115 rfl))) (ww hw 115 rfl) (ww hw 114 rfl) (by decide) (backOf (W := 3) (rmTos1 l Z a0 hw [] b905 t3_916 k3_916 ((((([] : List Int32) ++ cs1) ++ ([32, 40, 117, 115, 97, 103, 101, 58, 32] : List Int32)) ++ cs2) ++ ([41] : List Int32)) G1 T967.heap n0 (Nat.le_trans Z0 K971.1) f972 q967_0 q967_1 q967_2 q967_3 q967_4 (own_all (own_all (own_all (own_all (fun _ q => nomatch q) hbb1) (by decide)) hbb2) (by decide)) (by simp only [List.length_append, List.length_nil, List.length_cons]; omega) (hx1.elim fun c q => ⟨c, List.mem_append_left _ (List.mem_append_left _ (List.mem_append_left _ (List.mem_append_right _ q.1))), q.2⟩) hp12 hG1 O973) hZ (ww hw 116 rfl) (ww hw 47 rfl) (by decide) (by decide)) f972 (g := (mkF m 30 #[sr x1, sr x2] [(.ref b905), (.int 2), (.ref b902), (.ref b902)])) rfl (by rw [hml]; rfl) (kc := 2) (ks := 32) (argsL := []) (rest := [(.int 2), (.ref b902), (.ref b902)]) (lenOf pd_36 rfl) rfl (mr0 rfl) (hb hby d8_30) rfl (by decide) (by decide)
   obtain ⟨x_974, t3_974, rfl, N974q, Kq974, q974_0, q974_1⟩ := hQ974
   have N974 := Fr.app N967 N974q
   have f975 : Exa Z T967.heap b902 "com/example/neti/neti/cli/Failure" := (f959.keep Kq967)
   have f976 : Arv Z T967.heap tv_909 kb_909 .byte (16 : Int32) [] (.int 0) := ((f951.ext E950).keep Kq967 (ninS (Nat.ne_of_gt lt_b905_tv_909) (ninS (Nat.ne_of_lt lt_tv_909_t3_916) nin0)))
   have f977 : Str Z T967.heap la922 lb922 (0 : Int32) ([32, 40, 117, 115, 97, 103, 101, 58, 32] : List Int32) := ((f954.ext E950).keep Kq967 (ninS (Ne.symm ne_b905_la922) (ninS (Ne.symm ne_t3_916_la922) nin0)) (ninS (Ne.symm ne_b905_lb922) (ninS (Ne.symm ne_t3_916_lb922) nin0)))
   have f978 : Str Z T967.heap la950 lb950 (0 : Int32) ([41] : List Int32) := (lstr950.keep Kq967 (ninS (Ne.symm ne_b905_la950) (ninS (Ne.symm ne_t3_916_la950) nin0)) (ninS (Ne.symm ne_b905_lb950) (ninS (Ne.symm ne_t3_916_lb950) nin0)))
   have hkS := Nat.le_trans hkS Kq974.1
   have C979 := C968.trans (CHr.keep Kq974 all0 C968.1)
   have sf980 := Safe.keep Kq974 all0 C968.1 sf969
   have sf981 := Safe.keep Kq974 all0 C968.1 sf970
   have K982 : Keep h0 T974.heap [] := K971.trans Kq974 all0
   have lt_x1_x_974 : x1 < x_974 := Nat.lt_of_lt_of_le (hp0.keep K971 nin0 nin0).lt1 q974_0
   have lt_t1_x_974 : t1 < x_974 := Nat.lt_of_lt_of_le (hp0.keep K971 nin0 nin0).lt2 q974_0
   have lt_x2_x_974 : x2 < x_974 := Nat.lt_of_lt_of_le (hp1.keep K971 nin0 nin0).lt1 q974_0
   have lt_t2_x_974 : t2 < x_974 := Nat.lt_of_lt_of_le (hp1.keep K971 nin0 nin0).lt2 q974_0
   have lt_b902_x_974 : b902 < x_974 := Nat.lt_of_lt_of_le f975.lt q974_0
   have lt_b905_x_974 : b905 < x_974 := Nat.lt_of_lt_of_le f972.lt q974_0
   have lt_tv_909_x_974 : tv_909 < x_974 := Nat.lt_of_lt_of_le f976.lt q974_0
   have lt_t3_916_x_974 : t3_916 < x_974 := Nat.lt_of_lt_of_le q967_4.lt q974_0
   have lt_la922_x_974 : la922 < x_974 := Nat.lt_of_lt_of_le f977.lt1 q974_0
   have lt_lb922_x_974 : lb922 < x_974 := Nat.lt_of_lt_of_le f977.lt2 q974_0
   have lt_la950_x_974 : la950 < x_974 := Nat.lt_of_lt_of_le f978.lt1 q974_0
   have lt_lb950_x_974 : lb950 < x_974 := Nat.lt_of_lt_of_le f978.lt2 q974_0
   have sz_x_974 : h0.size ≤ x_974 := Nat.le_trans K971.1 q974_0
   have ge_x_974 : n0 ≤ x_974 := Nat.le_trans Z0 sz_x_974
   have ne_t3_974_b902 : t3_974 ≠ b902 := q974_1.ne2 (f975.keep Kq974) (ww hw 44 rfl)
   have ne_t3_974_b905 : t3_974 ≠ b905 := q974_1.ne2 (f972.keep Kq974) (ww hw 46 rfl)
   refine go (S' := T974.setTop (mkF m 33 #[sr x1, sr x2] [(.ref x_974), (.int 2), (.ref b902), (.ref b902)])) st974 ?_
   have f983 : Exa Z T974.heap b902 "com/example/neti/neti/cli/Failure" := (f975.keep Kq974)
   have f984 : Fld Z T974.heap b902 "java/lang/Throwable" "cause" "Ljava/lang/Throwable;" .null := ((((((((((D902 (Or.inl (ww hw 173 rfl)) (ty := (.object "java/lang/Throwable")) (by decide)).ext E905).keep Kq909 (ninS (Nat.ne_of_lt lt_b902_b905) nin0)).keep Kq916 (ninS (Nat.ne_of_lt lt_b902_b905) nin0)).ext E922).keep Kq938 (ninS (Nat.ne_of_lt lt_b902_b905) (ninS (Nat.ne_of_lt lt_b902_t3_916) nin0))).keep Kq945 (ninS (Nat.ne_of_lt lt_b902_b905) (ninS (Nat.ne_of_lt lt_b902_t3_916) nin0))).ext E950).keep Kq967 (ninS (Nat.ne_of_lt lt_b902_b905) (ninS (Nat.ne_of_lt lt_b902_t3_916) nin0))).keep Kq974 nin0)
   have f985 : Fld Z T974.heap b902 "java/lang/Throwable" "stackTrace" "[Ljava/lang/StackTraceElement;" .null := ((((((((((D902 (Or.inl (ww hw 176 rfl)) (ty := (.array (.object "java/lang/StackTraceElement"))) (by decide)).ext E905).keep Kq909 (ninS (Nat.ne_of_lt lt_b902_b905) nin0)).keep Kq916 (ninS (Nat.ne_of_lt lt_b902_b905) nin0)).ext E922).keep Kq938 (ninS (Nat.ne_of_lt lt_b902_b905) (ninS (Nat.ne_of_lt lt_b902_t3_916) nin0))).keep Kq945 (ninS (Nat.ne_of_lt lt_b902_b905) (ninS (Nat.ne_of_lt lt_b902_t3_916) nin0))).ext E950).keep Kq967 (ninS (Nat.ne_of_lt lt_b902_b905) (ninS (Nat.ne_of_lt lt_b902_t3_916) nin0))).keep Kq974 nin0)
   have f986 : Fld Z T974.heap b902 "java/lang/Throwable" "suppressedExceptions" "Ljava/util/List;" .null := ((((((((((D902 (Or.inl (ww hw 179 rfl)) (ty := (.object "java/util/List")) (by decide)).ext E905).keep Kq909 (ninS (Nat.ne_of_lt lt_b902_b905) nin0)).keep Kq916 (ninS (Nat.ne_of_lt lt_b902_b905) nin0)).ext E922).keep Kq938 (ninS (Nat.ne_of_lt lt_b902_b905) (ninS (Nat.ne_of_lt lt_b902_t3_916) nin0))).keep Kq945 (ninS (Nat.ne_of_lt lt_b902_b905) (ninS (Nat.ne_of_lt lt_b902_t3_916) nin0))).ext E950).keep Kq967 (ninS (Nat.ne_of_lt lt_b902_b905) (ninS (Nat.ne_of_lt lt_b902_t3_916) nin0))).keep Kq974 nin0)
   have f987 : Fld Z T974.heap b902 "java/lang/Throwable" "backtrace" "Ljava/lang/Object;" .null := ((((((((((D902 (Or.inl (ww hw 204 rfl)) (ty := (.object "java/lang/Object")) (by decide)).ext E905).keep Kq909 (ninS (Nat.ne_of_lt lt_b902_b905) nin0)).keep Kq916 (ninS (Nat.ne_of_lt lt_b902_b905) nin0)).ext E922).keep Kq938 (ninS (Nat.ne_of_lt lt_b902_b905) (ninS (Nat.ne_of_lt lt_b902_t3_916) nin0))).keep Kq945 (ninS (Nat.ne_of_lt lt_b902_b905) (ninS (Nat.ne_of_lt lt_b902_t3_916) nin0))).ext E950).keep Kq967 (ninS (Nat.ne_of_lt lt_b902_b905) (ninS (Nat.ne_of_lt lt_b902_t3_916) nin0))).keep Kq974 nin0)
   have f988 : Fld Z T974.heap b902 "java/lang/Throwable" "detailMessage" "Ljava/lang/String;" .null := ((((((((((D902 (Or.inl (ww hw 203 rfl)) (ty := (.object "java/lang/String")) (by decide)).ext E905).keep Kq909 (ninS (Nat.ne_of_lt lt_b902_b905) nin0)).keep Kq916 (ninS (Nat.ne_of_lt lt_b902_b905) nin0)).ext E922).keep Kq938 (ninS (Nat.ne_of_lt lt_b902_b905) (ninS (Nat.ne_of_lt lt_b902_t3_916) nin0))).keep Kq945 (ninS (Nat.ne_of_lt lt_b902_b905) (ninS (Nat.ne_of_lt lt_b902_t3_916) nin0))).ext E950).keep Kq967 (ninS (Nat.ne_of_lt lt_b902_b905) (ninS (Nat.ne_of_lt lt_b902_t3_916) nin0))).keep Kq974 nin0)
   have f989 : Fld Z T974.heap b902 "com/example/neti/neti/cli/Failure" "status" "I" (.int 0) := ((((((((((D902 (Or.inr (ww hw 209 rfl)) (ty := .int) (by decide)).ext E905).keep Kq909 (ninS (Nat.ne_of_lt lt_b902_b905) nin0)).keep Kq916 (ninS (Nat.ne_of_lt lt_b902_b905) nin0)).ext E922).keep Kq938 (ninS (Nat.ne_of_lt lt_b902_b905) (ninS (Nat.ne_of_lt lt_b902_t3_916) nin0))).keep Kq945 (ninS (Nat.ne_of_lt lt_b902_b905) (ninS (Nat.ne_of_lt lt_b902_t3_916) nin0))).ext E950).keep Kq967 (ninS (Nat.ne_of_lt lt_b902_b905) (ninS (Nat.ne_of_lt lt_b902_t3_916) nin0))).keep Kq974 nin0)
   have f990 : Unx Z T974.heap b902 := (((((((((Ux902.ext E905).keep Kq909 (ninS (Nat.ne_of_lt lt_b902_b905) nin0)).keep Kq916 (ninS (Nat.ne_of_lt lt_b902_b905) nin0)).ext E922).keep Kq938 (ninS (Nat.ne_of_lt lt_b902_b905) (ninS (Nat.ne_of_lt lt_b902_t3_916) nin0))).keep Kq945 (ninS (Nat.ne_of_lt lt_b902_b905) (ninS (Nat.ne_of_lt lt_b902_t3_916) nin0))).ext E950).keep Kq967 (ninS (Nat.ne_of_lt lt_b902_b905) (ninS (Nat.ne_of_lt lt_b902_t3_916) nin0))).keep Kq974 nin0)
   have O991 : Old Z n0 T974.heap := O0.keep K982 all0
   obtain ⟨v992, T992, L992, X992, hQ992, st992⟩ := callSp X974 hx hZ (y := y_53) rfl hown (ww hw 157 rfl) (ww hw 158 rfl) (ww hw 159 rfl) (by decide) (backOfKL (W := 1) (rmFi l Z a0 hw [] b902 x_974 us sn T974.heap n0 (Nat.le_trans Z0 K982.1) f983 f984 f985 f986 f987 f988 f989 f990 ge_b902 hlt hp5 hp6 hus hsn hun O991) hZ (ww hw 159 rfl) (ww hw 41 rfl) (by decide) (by decide) (Vm.MethodsKnown.alikeC hS.1.alike hKn.1) (Vm.FramesKnown.alikeC hS.1.alike hKn.2)) (g := (mkF m 33 #[sr x1, sr x2] [(.ref x_974), (.int 2), (.ref b902), (.ref b902)])) rfl (by rw [hml]; rfl) (a := b902) (kc := 1) (ks := 2752) (argsL := [(.int 2), (.ref x_974)]) (rest := [(.ref b902)]) (lenOf pd_23 rfl) rfl (mr0 rfl) (hb hby d8_33) rfl (by decide) (by decide)
   obtain ⟨rfl, N992q, Kq992, q992_0, q992_1, q992_2⟩ := hQ992
   have N992 := Fr.app N974 N992q
   have hkS := Nat.le_trans hkS Kq992.1
   have C993 := C979.trans (CHr.keep Kq992 (allS (Safe.exa hZ.alike f983 (by decide) (by decide)) all0) C979.1)
   have sf994 := Safe.keep Kq992 (allS (Safe.exa hZ.alike f983 (by decide) (by decide)) all0) C979.1 sf980
   have sf995 := Safe.keep Kq992 (allS (Safe.exa hZ.alike f983 (by decide) (by decide)) all0) C979.1 sf981
   have K996 : Keep h0 T992.heap [] := K982.trans Kq992 (allS (P := fun x => x ∈ [] ∨ h0.size ≤ x) (Or.inr sz_b902) all0)
   refine go (S' := T992.setTop (mkF m 36 #[sr x1, sr x2] [(.ref b902)])) st992 ?_
   refine finRW X992 hx hk hret rfl rfl hS hkS hZ (own_EW hw) C993 rfl (hb hby d8_36) (by decide) (by decide) ?_
   have f997 : Str Z T992.heap x_974 t3_974 (1 : Int32) ((((([] : List Int32) ++ cs1) ++ ([32, 40, 117, 115, 97, 103, 101, 58, 32] : List Int32)) ++ cs2) ++ ([41] : List Int32)) := (q974_1.keep Kq992 (ninS (Nat.ne_of_gt lt_b902_x_974) nin0) (ninS ne_t3_974_b902 nin0))
   exact ⟨b902, x_974, t3_974, (1 : Int32), rfl, N992, K996, sz_b902, q992_0, q992_1, q992_2, f997⟩
theorem d35_0 : dd prog_4_method_4_code 0 (.aload_n 0) 1 := by decide +kernel
theorem d35_1 : dd prog_4_method_4_code 1 (.getfield 7) 3 := by decide +kernel
theorem d35_4 : dd prog_4_method_4_code 4 .ireturn 1 := by decide +kernel
abbrev y_55 : MethodName := ⟨"com/example/neti/neti/cli/Failure", "status", "()I"⟩
theorem pn_54 : plainFor y_55 = true := by first | exact plainFor_of_name (by first | (simp [plainName, overriddenIn]; done) | decide +kernel) | decide +kernel
theorem ef_rmSta (m : MethodId) (x1 : Addr) : entryFrame m #[(.ref x1)] 1 = mkF m 0 #[sr x1] [] := by first | (simp [entryFrame, mkF, argsToLocals, Value.category]; done) | rfl
def Q_rmSta (Z : State) (x1 : Addr) (n : Int32) (h0 : Heap) (n0 : Nat) (v : Option Value) (h : Heap) (L : List Loc) : Prop := v = some (.int n) ∧ Fr n0 L ∧ h = h0
set_option maxRecDepth 65536 in
set_option maxHeartbeats 40000000 in
theorem rmSta (l : Launch) (Z : State) (a0 : Array Value) (hw : ∀ d ∈ tables_1, d.before a0 Z = true) (ws : List Jvm.Cond) (x1 : Addr) (n : Int32) (h0 : Heap) (n0 : Nat) (Z0 : n0 ≤ h0.size) (hp0 : Fld Z h0 x1 "com/example/neti/neti/cli/Failure" "status" "I" (.int n)) :
    MetFree l y_55 (head1 (Jvm.Cond.code y_55 prog_4_method_4_code 1 (some .int) :: ws) ({ frames := 0, cells := 0, slots := 0, locals := 0 } : Room)) (fun a U => a = #[(.ref x1)] ∧ Z.Warmed39 U.vm ∧ U.heap = h0) (fun _ _ _ _ _ => True) (fun _ U o U' => ∃ v L, o = .returned v ∧ Q_rmSta Z x1 n h0 n0 v U'.heap L ∧ FrameEnd U o U' L ({ frames := 0, cells := 0, slots := 0, locals := 0 } : Room).cells ({ frames := 0, cells := 0, slots := 0, locals := 0 } : Room).slots) := by
 refine bodyOf pn_54 (fun m => ef_rmSta m x1) ?_
 intro p e s m below meth c T0 X0 hx hby hml hown hnm hret hk hZ e0
 have N0 := Fr.nil n0
 have K0 : Keep h0 h0 [] := Keep.refl _ _
 refine go (S' := T0.setTop (mkF m 1 #[sr x1] [(.ref x1)])) (fun t k => XS.aloadN X0.here hx rfl (hb hby d35_0) rfl rfl k) ?_
 obtain ⟨T998, X998, e998, st998⟩ := getF X0 hx hZ hown (host := "") (Or.inl (ww hw 208 rfl)) Via.refl e0 hp0 (g := (mkF m 1 #[sr x1] [(.ref x1)])) rfl rfl (hb hby d35_1)
 refine go (S' := T998.setTop (mkF m 4 #[sr x1] [(.int n)])) st998 ?_
 refine finI X998 hx hk hret (hb hby d35_4) (by decide) (by decide) ?_
 rw [e998]
 exact ⟨rfl, N0, rfl⟩
theorem d36_0 : dd jdk_78_method_6_code 0 (.aload_n 0) 1 := by decide +kernel
theorem d36_1 : dd jdk_78_method_6_code 1 (.getfield 31) 3 := by decide +kernel
theorem d36_4 : dd jdk_78_method_6_code 4 .areturn 1 := by decide +kernel
abbrev y_56 : MethodName := ⟨"java/lang/Throwable", "getMessage", "()Ljava/lang/String;"⟩
theorem pn_55 : plainFor y_56 = true := by first | exact plainFor_of_name (by first | (simp [plainName, overriddenIn]; done) | decide +kernel) | decide +kernel
theorem ef_rmGm (m : MethodId) (x1 : Addr) : entryFrame m #[(.ref x1)] 1 = mkF m 0 #[sr x1] [] := by first | (simp [entryFrame, mkF, argsToLocals, Value.category]; done) | rfl
def Q_rmGm (Z : State) (x1 : Addr) (y1 : Addr) (h0 : Heap) (n0 : Nat) (v : Option Value) (h : Heap) (L : List Loc) : Prop := v = some (.ref y1) ∧ Fr n0 L ∧ h = h0
set_option maxRecDepth 65536 in
set_option maxHeartbeats 40000000 in
theorem rmGm (l : Launch) (Z : State) (a0 : Array Value) (hw : ∀ d ∈ tables_1, d.before a0 Z = true) (ws : List Jvm.Cond) (x1 : Addr) (y1 : Addr) (h0 : Heap) (n0 : Nat) (Z0 : n0 ≤ h0.size) (hp0 : Fld Z h0 x1 "java/lang/Throwable" "detailMessage" "Ljava/lang/String;" (.ref y1)) :
    MetFree l y_56 (head1 (Jvm.Cond.code y_56 jdk_78_method_6_code 1 (some (.object "java/lang/String")) :: ws) ({ frames := 0, cells := 0, slots := 0, locals := 0 } : Room)) (fun a U => a = #[(.ref x1)] ∧ Z.Warmed39 U.vm ∧ U.heap = h0) (fun _ _ _ _ _ => True) (fun _ U o U' => ∃ v L, o = .returned v ∧ Q_rmGm Z x1 y1 h0 n0 v U'.heap L ∧ FrameEnd U o U' L ({ frames := 0, cells := 0, slots := 0, locals := 0 } : Room).cells ({ frames := 0, cells := 0, slots := 0, locals := 0 } : Room).slots) := by
 refine bodyOf pn_55 (fun m => ef_rmGm m x1) ?_
 intro p e s m below meth c T0 X0 hx hby hml hown hnm hret hk hZ e0
 have N0 := Fr.nil n0
 have K0 : Keep h0 h0 [] := Keep.refl _ _
 refine go (S' := T0.setTop (mkF m 1 #[sr x1] [(.ref x1)])) (fun t k => XS.aloadN X0.here hx rfl (hb hby d36_0) rfl rfl k) ?_
 obtain ⟨T999, X999, e999, st999⟩ := getF X0 hx hZ hown (host := "") (Or.inl (ww hw 207 rfl)) Via.refl e0 hp0 (g := (mkF m 1 #[sr x1] [(.ref x1)])) rfl rfl (hb hby d36_1)
 refine go (S' := T999.setTop (mkF m 4 #[sr x1] [(.ref y1)])) st999 ?_
 refine finR X999 hx hk hret rfl rfl (hb hby d36_4) (by decide) (by decide) ?_
 rw [e999]
 exact ⟨rfl, N0, rfl⟩
theorem d37_0 : dd method_3_code 0 (.iload_n 1) 1 := by decide +kernel
theorem d37_1 : dd method_3_code 1 (.ifCond .lt 24) 3 := by decide +kernel
theorem d37_4 : dd method_3_code 4 (.iload_n 1) 1 := by decide +kernel
theorem d37_5 : dd method_3_code 5 (.aload_n 0) 1 := by decide +kernel
theorem d37_6 : dd method_3_code 6 (.invokevirtual 16) 3 := by decide +kernel
theorem d37_9 : dd method_3_code 9 (.if_icmp .ge 16) 3 := by decide +kernel
theorem d37_12 : dd method_3_code 12 (.aload_n 0) 1 := by decide +kernel
theorem d37_13 : dd method_3_code 13 (.iload_n 1) 1 := by decide +kernel
theorem d37_14 : dd method_3_code 14 (.invokevirtual 20) 3 := by decide +kernel
theorem pd_37 : parseMethodDescriptor "(I)C" = some ⟨[.int], some .char⟩ := by decide +kernel
theorem d37_17 : dd method_3_code 17 (.iload_n 2) 1 := by decide +kernel
theorem d37_18 : dd method_3_code 18 (.if_icmp .ne 7) 3 := by decide +kernel
theorem d37_21 : dd method_3_code 21 (.iconst 1) 1 := by decide +kernel
theorem d37_22 : dd method_3_code 22 (.goto 4) 3 := by decide +kernel
theorem d37_26 : dd method_3_code 26 .ireturn 1 := by decide +kernel
abbrev y_57 : MethodName := ⟨"com/example/neti/neti/cli/FailureBadCommandLinePinLaw", "at", "(Ljava/lang/String;IC)Z"⟩
theorem pn_56 : plainFor y_57 = true := by first | exact plainFor_of_name (by first | (simp [plainName, overriddenIn]; done) | decide +kernel) | decide +kernel
theorem ef_rmAt (m : MethodId) (x1 : Addr) (pi : Int32) (pv : Int32) : entryFrame m #[(.ref x1), (.int pi), (.int pv)] 3 = mkF m 0 #[sr x1, si pi, si pv] [] := by first | (simp [entryFrame, mkF, argsToLocals, Value.category]; done) | rfl
def Q_rmAt (Z : State) (x1 : Addr) (pi : Int32) (pv : Int32) (t1 : Addr) (cd : Int32) (cs : List Int32) (i : Nat) (G1 : Int32) (fm : Value) (h0 : Heap) (n0 : Nat) (v : Option Value) (h : Heap) (L : List Loc) : Prop := v = some (.int 1) ∧ Fr n0 L ∧ h = h0
set_option maxRecDepth 65536 in
set_option maxHeartbeats 40000000 in
theorem rmAt (l : Launch) (Z : State) (a0 : Array Value) (hw : ∀ d ∈ tables_1, d.before a0 Z = true) (ws : List Jvm.Cond) (x1 : Addr) (pi : Int32) (pv : Int32) (t1 : Addr) (cd : Int32) (cs : List Int32) (i : Nat) (G1 : Int32) (fm : Value) (h0 : Heap) (n0 : Nat) (Z0 : n0 ≤ h0.size) (hp0 : Str Z h0 x1 t1 cd cs) (hix : pi = Int32.ofNat i) (hi : i < cs.length) (hlc : cs.length ≤ 16) (hch : (cs.getD i 0) = pv) (hfm : fm.isRef = true) (hp6 : Sta Z Z.heap "jdk/internal/util/Preconditions" "SIOOBE_FORMATTER" "Ljava/util/function/BiFunction;" fm) (hp7 : Sta Z Z.heap "java/lang/String" "COMPACT_STRINGS" "Z" (.int G1)) (hG1 : ¬ (G1 = (0 : Int32))) (hp9 : Sta Z Z.heap "java/lang/StringUTF16" "$assertionsDisabled" "Z" (.int 1)) (hp10 : Sta Z Z.heap "java/lang/StringUTF16" "HI_BYTE_SHIFT" "I" (.int 0)) (hp11 : Sta Z Z.heap "java/lang/StringUTF16" "LO_BYTE_SHIFT" "I" (.int 8)) (hp12 : Old Z n0 h0) :
    MetFree l y_57 (head1 (Jvm.Cond.code y_57 method_3_code 3 (some .boolean) :: ws) ({ frames := 5, cells := 0, slots := 0, locals := 66 } : Room)) (fun a U => a = #[(.ref x1), (.int pi), (.int pv)] ∧ Z.Warmed39 U.vm ∧ U.heap = h0) (fun _ _ _ _ _ => True) (fun _ U o U' => ∃ v L, o = .returned v ∧ Q_rmAt Z x1 pi pv t1 cd cs i G1 fm h0 n0 v U'.heap L ∧ FrameEnd U o U' L ({ frames := 5, cells := 0, slots := 0, locals := 66 } : Room).cells ({ frames := 5, cells := 0, slots := 0, locals := 66 } : Room).slots) := by
 refine bodyOf pn_56 (fun m => ef_rmAt m x1 pi pv) ?_
 intro p e s m below meth c T0 X0 hx hby hml hown hnm hret hk hZ e0
 have N0 := Fr.nil n0
 have K0 : Keep h0 h0 [] := Keep.refl _ _
 have O0 := hp12
 have hz0 : ¬ (pi < (0 : Int32)) := by rw [hix]; exact oj_nn (by omega)
 have hz1 : pi < (Int32.ofNat cs.length) := by rw [hix]; exact oj_lt hi (by omega)
 refine go (S' := T0.setTop (mkF m 6 #[sr x1, si pi, si pv] [(.ref x1), (.int pi)])) (fun t k => XS.iloadN X0.here hx rfl (hb hby d37_0) rfl (XS.ifNo X0.here hx rfl (hb hby d37_1) rfl ((if0 _ _).trans (flt hz0).1) (XS.iloadN X0.here hx rfl (hb hby d37_4) rfl (XS.aloadN X0.here hx rfl (hb hby d37_5) rfl rfl k)))) ?_
 have O1000 : Old Z n0 h0 := O0.keep K0 all0
 obtain ⟨kb1001, N21001, vs1001, qE1001, qV1001, qC1001, qA1001, qcd1001, qbd1001, ql1001⟩ := id hp0
 obtain ⟨v1002, T1002, L1002, X1002, hQ1002, st1002⟩ := callV X0 hx hZ (y := y_30) (z := y_30) hown (ww hw 221 rfl) (ww hw 74 rfl) (notFace_of_selects (args := #[]) (mvT hZ (ww hw 76 rfl))) (ww hw 76 rfl) (ww hw 75 rfl) (by decide) (StrChars.Road.lenW (W := 1) hZ (own_sub StrChars_wordsLen hw) (kI := 4) (ww hw 7 rfl) qE1001 qV1001 qC1001 qA1001 qcd1001 qbd1001 (hp7.ext O1000.2) hG1 ql1001 (by decide) (by decide)) hp0.exa (g := (mkF m 6 #[sr x1, si pi, si pv] [(.ref x1), (.int pi)])) rfl (by rw [hml]; rfl) (Q := (fun v h' L => v = some (.int (Int32.ofNat cs.length)) ∧ L = [] ∧ h' = h0)) (kc := 0) (ks := 0) (argsL := []) (rest := [(.int pi)]) (lenOf pd_21 rfl) rfl (mr0 rfl) (hb hby d37_6) e0 (by decide) (by decide)
 obtain ⟨rfl, rfl, e1002⟩ := hQ1002
 have N1002 := Fr.app N0 (Fr.nil n0)
 refine go (S' := T1002.setTop (mkF m 14 #[sr x1, si pi, si pv] [(.int pi), (.ref x1)])) (fun t k => st1002 _ (XS.icmpNo X1002.here hx rfl (hb hby d37_9) rfl (tlt hz1).2.1 (XS.aloadN X1002.here hx rfl (hb hby d37_12) rfl rfl (XS.iloadN X1002.here hx rfl (hb hby d37_13) rfl k)))) ?_
 obtain ⟨v1003, T1003, L1003, X1003, hQ1003, st1003⟩ := callV X1002 hx hZ (y := y_17) (z := y_17) hown (ww hw 225 rfl) (ww hw 226 rfl) (notFace_of_selects (args := #[]) (mvT hZ (ww hw 228 rfl))) (ww hw 228 rfl) (ww hw 227 rfl) (by decide) (backOf (W := 0) (rmChr l Z a0 hw [] x1 pi t1 cd cs i G1 fm h0 n0 (Nat.le_trans Z0 K0.1) hp0 hix hi hlc hfm hp6 hp7 hG1 hp9 hp10 hp11 O1000) hZ (ww hw 229 rfl) (ww hw 8 rfl) (by decide) (by decide)) hp0.exa (g := (mkF m 14 #[sr x1, si pi, si pv] [(.int pi), (.ref x1)])) rfl (by rw [hml]; rfl) (kc := 0) (ks := 0) (argsL := [(.int pi)]) (rest := []) (lenOf pd_37 rfl) rfl (mr0 rfl) (hb hby d37_14) e1002 (by decide) (by decide)
 obtain ⟨rfl, N1003q, e1003⟩ := hQ1003
 have N1003 := Fr.app N1002 N1003q
 refine go (S' := T1003.setTop (mkF m 26 #[sr x1, si pi, si pv] [(.int 1)])) (fun t k => st1003 _ (XS.iloadN X1003.here hx rfl (hb hby d37_17) rfl (XS.icmpNo X1003.here hx rfl (hb hby d37_18) rfl (teq hch).2 (XS.iconst X1003.here hx rfl (hb hby d37_21) (XS.goto X1003.here hx rfl (pc0 := 22) (pc' := 26) rfl (hb hby d37_22) (by decide) (by decide) k))))) ?_
 refine finN X1003 hx hk (t := .boolean) hret (by simp) (hb hby d37_26) (by decide) (by decide) ?_
 rw [e1003]
 exact ⟨rfl, N1003, rfl⟩
theorem own_TA0 {lp lu ca cb cu cv : Int32} {c1 c2 : List Int32} (R1 : own_Rel lp ca cb c1) (R2 : own_Rel lu cu cv c2) (hc : ¬ (lp < (1 : Int32))) : (0 : Int32) = Int32.ofNat 0 ∧ 0 < (c1 ++ (([32, 40, 117, 115, 97, 103, 101, 58, 32] : List Int32) ++ (c2 ++ ([41] : List Int32)))).length ∧ (c1 ++ (([32, 40, 117, 115, 97, 103, 101, 58, 32] : List Int32) ++ (c2 ++ ([41] : List Int32)))).getD 0 0 = ca := by
  rcases R1 with ⟨rfl, rfl⟩ | ⟨rfl, rfl⟩ | ⟨rfl, rfl⟩ <;> rcases R2 with ⟨rfl, rfl⟩ | ⟨rfl, rfl⟩ | ⟨rfl, rfl⟩ <;> first | exact ⟨rfl, Nat.le_of_ble_eq_true rfl, rfl⟩ | exact absurd (by decide) hc
theorem own_TA1 {lp lu ca cb cu cv : Int32} {c1 c2 : List Int32} (R1 : own_Rel lp ca cb c1) (R2 : own_Rel lu cu cv c2) (hc : ¬ (lp < (2 : Int32))) : (1 : Int32) = Int32.ofNat 1 ∧ 1 < (c1 ++ (([32, 40, 117, 115, 97, 103, 101, 58, 32] : List Int32) ++ (c2 ++ ([41] : List Int32)))).length ∧ (c1 ++ (([32, 40, 117, 115, 97, 103, 101, 58, 32] : List Int32) ++ (c2 ++ ([41] : List Int32)))).getD 1 0 = cb := by
  rcases R1 with ⟨rfl, rfl⟩ | ⟨rfl, rfl⟩ | ⟨rfl, rfl⟩ <;> rcases R2 with ⟨rfl, rfl⟩ | ⟨rfl, rfl⟩ | ⟨rfl, rfl⟩ <;> first | exact ⟨rfl, Nat.le_of_ble_eq_true rfl, rfl⟩ | exact absurd (by decide) hc
theorem own_TU0 {lp lu ca cb cu cv : Int32} {c1 c2 : List Int32} (R1 : own_Rel lp ca cb c1) (R2 : own_Rel lu cu cv c2) : lp = Int32.ofNat (c1.length + 0) ∧ (c1.length + 0) < (c1 ++ (([32, 40, 117, 115, 97, 103, 101, 58, 32] : List Int32) ++ (c2 ++ ([41] : List Int32)))).length ∧ (c1 ++ (([32, 40, 117, 115, 97, 103, 101, 58, 32] : List Int32) ++ (c2 ++ ([41] : List Int32)))).getD (c1.length + 0) 0 = (32 : Int32) := by
  rcases R1 with ⟨rfl, rfl⟩ | ⟨rfl, rfl⟩ | ⟨rfl, rfl⟩ <;> rcases R2 with ⟨rfl, rfl⟩ | ⟨rfl, rfl⟩ | ⟨rfl, rfl⟩ <;> first | exact ⟨rfl, Nat.le_of_ble_eq_true rfl, rfl⟩
theorem own_TU1 {lp lu ca cb cu cv : Int32} {c1 c2 : List Int32} (R1 : own_Rel lp ca cb c1) (R2 : own_Rel lu cu cv c2) : (lp + (1 : Int32)) = Int32.ofNat (c1.length + 1) ∧ (c1.length + 1) < (c1 ++ (([32, 40, 117, 115, 97, 103, 101, 58, 32] : List Int32) ++ (c2 ++ ([41] : List Int32)))).length ∧ (c1 ++ (([32, 40, 117, 115, 97, 103, 101, 58, 32] : List Int32) ++ (c2 ++ ([41] : List Int32)))).getD (c1.length + 1) 0 = (40 : Int32) := by
  rcases R1 with ⟨rfl, rfl⟩ | ⟨rfl, rfl⟩ | ⟨rfl, rfl⟩ <;> rcases R2 with ⟨rfl, rfl⟩ | ⟨rfl, rfl⟩ | ⟨rfl, rfl⟩ <;> first | exact ⟨rfl, Nat.le_of_ble_eq_true rfl, rfl⟩
theorem own_TU2 {lp lu ca cb cu cv : Int32} {c1 c2 : List Int32} (R1 : own_Rel lp ca cb c1) (R2 : own_Rel lu cu cv c2) : (lp + (2 : Int32)) = Int32.ofNat (c1.length + 2) ∧ (c1.length + 2) < (c1 ++ (([32, 40, 117, 115, 97, 103, 101, 58, 32] : List Int32) ++ (c2 ++ ([41] : List Int32)))).length ∧ (c1 ++ (([32, 40, 117, 115, 97, 103, 101, 58, 32] : List Int32) ++ (c2 ++ ([41] : List Int32)))).getD (c1.length + 2) 0 = (117 : Int32) := by
  rcases R1 with ⟨rfl, rfl⟩ | ⟨rfl, rfl⟩ | ⟨rfl, rfl⟩ <;> rcases R2 with ⟨rfl, rfl⟩ | ⟨rfl, rfl⟩ | ⟨rfl, rfl⟩ <;> first | exact ⟨rfl, Nat.le_of_ble_eq_true rfl, rfl⟩
theorem own_TU3 {lp lu ca cb cu cv : Int32} {c1 c2 : List Int32} (R1 : own_Rel lp ca cb c1) (R2 : own_Rel lu cu cv c2) : (lp + (3 : Int32)) = Int32.ofNat (c1.length + 3) ∧ (c1.length + 3) < (c1 ++ (([32, 40, 117, 115, 97, 103, 101, 58, 32] : List Int32) ++ (c2 ++ ([41] : List Int32)))).length ∧ (c1 ++ (([32, 40, 117, 115, 97, 103, 101, 58, 32] : List Int32) ++ (c2 ++ ([41] : List Int32)))).getD (c1.length + 3) 0 = (115 : Int32) := by
  rcases R1 with ⟨rfl, rfl⟩ | ⟨rfl, rfl⟩ | ⟨rfl, rfl⟩ <;> rcases R2 with ⟨rfl, rfl⟩ | ⟨rfl, rfl⟩ | ⟨rfl, rfl⟩ <;> first | exact ⟨rfl, Nat.le_of_ble_eq_true rfl, rfl⟩
theorem own_TU4 {lp lu ca cb cu cv : Int32} {c1 c2 : List Int32} (R1 : own_Rel lp ca cb c1) (R2 : own_Rel lu cu cv c2) : (lp + (4 : Int32)) = Int32.ofNat (c1.length + 4) ∧ (c1.length + 4) < (c1 ++ (([32, 40, 117, 115, 97, 103, 101, 58, 32] : List Int32) ++ (c2 ++ ([41] : List Int32)))).length ∧ (c1 ++ (([32, 40, 117, 115, 97, 103, 101, 58, 32] : List Int32) ++ (c2 ++ ([41] : List Int32)))).getD (c1.length + 4) 0 = (97 : Int32) := by
  rcases R1 with ⟨rfl, rfl⟩ | ⟨rfl, rfl⟩ | ⟨rfl, rfl⟩ <;> rcases R2 with ⟨rfl, rfl⟩ | ⟨rfl, rfl⟩ | ⟨rfl, rfl⟩ <;> first | exact ⟨rfl, Nat.le_of_ble_eq_true rfl, rfl⟩
theorem own_TU5 {lp lu ca cb cu cv : Int32} {c1 c2 : List Int32} (R1 : own_Rel lp ca cb c1) (R2 : own_Rel lu cu cv c2) : (lp + (5 : Int32)) = Int32.ofNat (c1.length + 5) ∧ (c1.length + 5) < (c1 ++ (([32, 40, 117, 115, 97, 103, 101, 58, 32] : List Int32) ++ (c2 ++ ([41] : List Int32)))).length ∧ (c1 ++ (([32, 40, 117, 115, 97, 103, 101, 58, 32] : List Int32) ++ (c2 ++ ([41] : List Int32)))).getD (c1.length + 5) 0 = (103 : Int32) := by
  rcases R1 with ⟨rfl, rfl⟩ | ⟨rfl, rfl⟩ | ⟨rfl, rfl⟩ <;> rcases R2 with ⟨rfl, rfl⟩ | ⟨rfl, rfl⟩ | ⟨rfl, rfl⟩ <;> first | exact ⟨rfl, Nat.le_of_ble_eq_true rfl, rfl⟩
theorem own_TU6 {lp lu ca cb cu cv : Int32} {c1 c2 : List Int32} (R1 : own_Rel lp ca cb c1) (R2 : own_Rel lu cu cv c2) : (lp + (6 : Int32)) = Int32.ofNat (c1.length + 6) ∧ (c1.length + 6) < (c1 ++ (([32, 40, 117, 115, 97, 103, 101, 58, 32] : List Int32) ++ (c2 ++ ([41] : List Int32)))).length ∧ (c1 ++ (([32, 40, 117, 115, 97, 103, 101, 58, 32] : List Int32) ++ (c2 ++ ([41] : List Int32)))).getD (c1.length + 6) 0 = (101 : Int32) := by
  rcases R1 with ⟨rfl, rfl⟩ | ⟨rfl, rfl⟩ | ⟨rfl, rfl⟩ <;> rcases R2 with ⟨rfl, rfl⟩ | ⟨rfl, rfl⟩ | ⟨rfl, rfl⟩ <;> first | exact ⟨rfl, Nat.le_of_ble_eq_true rfl, rfl⟩
theorem own_TU7 {lp lu ca cb cu cv : Int32} {c1 c2 : List Int32} (R1 : own_Rel lp ca cb c1) (R2 : own_Rel lu cu cv c2) : (lp + (7 : Int32)) = Int32.ofNat (c1.length + 7) ∧ (c1.length + 7) < (c1 ++ (([32, 40, 117, 115, 97, 103, 101, 58, 32] : List Int32) ++ (c2 ++ ([41] : List Int32)))).length ∧ (c1 ++ (([32, 40, 117, 115, 97, 103, 101, 58, 32] : List Int32) ++ (c2 ++ ([41] : List Int32)))).getD (c1.length + 7) 0 = (58 : Int32) := by
  rcases R1 with ⟨rfl, rfl⟩ | ⟨rfl, rfl⟩ | ⟨rfl, rfl⟩ <;> rcases R2 with ⟨rfl, rfl⟩ | ⟨rfl, rfl⟩ | ⟨rfl, rfl⟩ <;> first | exact ⟨rfl, Nat.le_of_ble_eq_true rfl, rfl⟩
theorem own_TU8 {lp lu ca cb cu cv : Int32} {c1 c2 : List Int32} (R1 : own_Rel lp ca cb c1) (R2 : own_Rel lu cu cv c2) : (lp + (8 : Int32)) = Int32.ofNat (c1.length + 8) ∧ (c1.length + 8) < (c1 ++ (([32, 40, 117, 115, 97, 103, 101, 58, 32] : List Int32) ++ (c2 ++ ([41] : List Int32)))).length ∧ (c1 ++ (([32, 40, 117, 115, 97, 103, 101, 58, 32] : List Int32) ++ (c2 ++ ([41] : List Int32)))).getD (c1.length + 8) 0 = (32 : Int32) := by
  rcases R1 with ⟨rfl, rfl⟩ | ⟨rfl, rfl⟩ | ⟨rfl, rfl⟩ <;> rcases R2 with ⟨rfl, rfl⟩ | ⟨rfl, rfl⟩ | ⟨rfl, rfl⟩ <;> first | exact ⟨rfl, Nat.le_of_ble_eq_true rfl, rfl⟩
theorem own_TQ0 {lp lu ca cb cu cv : Int32} {c1 c2 : List Int32} (R1 : own_Rel lp ca cb c1) (R2 : own_Rel lu cu cv c2) (hc : ¬ (lu < (1 : Int32))) : (lp + (9 : Int32)) = Int32.ofNat (c1.length + 9) ∧ (c1.length + 9) < (c1 ++ (([32, 40, 117, 115, 97, 103, 101, 58, 32] : List Int32) ++ (c2 ++ ([41] : List Int32)))).length ∧ (c1 ++ (([32, 40, 117, 115, 97, 103, 101, 58, 32] : List Int32) ++ (c2 ++ ([41] : List Int32)))).getD (c1.length + 9) 0 = cu := by
  rcases R1 with ⟨rfl, rfl⟩ | ⟨rfl, rfl⟩ | ⟨rfl, rfl⟩ <;> rcases R2 with ⟨rfl, rfl⟩ | ⟨rfl, rfl⟩ | ⟨rfl, rfl⟩ <;> first | exact ⟨rfl, Nat.le_of_ble_eq_true rfl, rfl⟩ | exact absurd (by decide) hc
theorem own_TQ1 {lp lu ca cb cu cv : Int32} {c1 c2 : List Int32} (R1 : own_Rel lp ca cb c1) (R2 : own_Rel lu cu cv c2) (hc : ¬ (lu < (2 : Int32))) : ((lp + (9 : Int32)) + (1 : Int32)) = Int32.ofNat (c1.length + 10) ∧ (c1.length + 10) < (c1 ++ (([32, 40, 117, 115, 97, 103, 101, 58, 32] : List Int32) ++ (c2 ++ ([41] : List Int32)))).length ∧ (c1 ++ (([32, 40, 117, 115, 97, 103, 101, 58, 32] : List Int32) ++ (c2 ++ ([41] : List Int32)))).getD (c1.length + 10) 0 = cv := by
  rcases R1 with ⟨rfl, rfl⟩ | ⟨rfl, rfl⟩ | ⟨rfl, rfl⟩ <;> rcases R2 with ⟨rfl, rfl⟩ | ⟨rfl, rfl⟩ | ⟨rfl, rfl⟩ <;> first | exact ⟨rfl, Nat.le_of_ble_eq_true rfl, rfl⟩ | exact absurd (by decide) hc
theorem own_TE {lp lu ca cb cu cv : Int32} {c1 c2 : List Int32} (R1 : own_Rel lp ca cb c1) (R2 : own_Rel lu cu cv c2) : ((lp + (9 : Int32)) + lu) = Int32.ofNat (c1.length + (9 + c2.length)) ∧ (c1.length + (9 + c2.length)) < (c1 ++ (([32, 40, 117, 115, 97, 103, 101, 58, 32] : List Int32) ++ (c2 ++ ([41] : List Int32)))).length ∧ (c1 ++ (([32, 40, 117, 115, 97, 103, 101, 58, 32] : List Int32) ++ (c2 ++ ([41] : List Int32)))).getD (c1.length + (9 + c2.length)) 0 = (41 : Int32) := by
  rcases R1 with ⟨rfl, rfl⟩ | ⟨rfl, rfl⟩ | ⟨rfl, rfl⟩ <;> rcases R2 with ⟨rfl, rfl⟩ | ⟨rfl, rfl⟩ | ⟨rfl, rfl⟩ <;> first | exact ⟨rfl, Nat.le_of_ble_eq_true rfl, rfl⟩
theorem own_Tlen {lp lu ca cb cu cv : Int32} {c1 c2 : List Int32} (R1 : own_Rel lp ca cb c1) (R2 : own_Rel lu cu cv c2) : Int32.ofNat (c1 ++ (([32, 40, 117, 115, 97, 103, 101, 58, 32] : List Int32) ++ (c2 ++ ([41] : List Int32)))).length = ((lp + lu) + (10 : Int32)) ∧ (c1 ++ (([32, 40, 117, 115, 97, 103, 101, 58, 32] : List Int32) ++ (c2 ++ ([41] : List Int32)))).length ≤ 16 := by
  rcases R1 with ⟨rfl, rfl⟩ | ⟨rfl, rfl⟩ | ⟨rfl, rfl⟩ <;> rcases R2 with ⟨rfl, rfl⟩ | ⟨rfl, rfl⟩ | ⟨rfl, rfl⟩ <;> exact ⟨rfl, Nat.le_of_ble_eq_true rfl⟩
theorem pd_38 : parseMethodDescriptor "(ICC)Ljava/lang/String;" = some ⟨[.int, .char, .char], some (.object "java/lang/String")⟩ := by decide +kernel
theorem pd_39 : parseMethodDescriptor "(Ljava/lang/String;Ljava/lang/String;)Lcom/example/neti/neti/cli/Failure;" = some ⟨[(.object "java/lang/String"), (.object "java/lang/String")], some (.object "com/example/neti/neti/cli/Failure")⟩ := by decide +kernel
abbrev y_58 : MethodName := ⟨"com/example/neti/neti/cli/Failure", "getMessage", "()Ljava/lang/String;"⟩
theorem pd_40 : parseMethodDescriptor "(Ljava/lang/String;IC)Z" = some ⟨[(.object "java/lang/String"), .int, .char], some .boolean⟩ := by decide +kernel
abbrev y_59 : MethodName := ⟨"com/example/neti/neti/cli/FailureBadCommandLinePinLaw", "law", "(III)Z"⟩
theorem pn_57 : plainFor y_59 = true := by first | exact plainFor_of_name (by first | (simp [plainName, overriddenIn]; done) | decide +kernel) | decide +kernel
theorem ef_rmLaw (m : MethodId) (p1 : Int32) (p2 : Int32) (p3 : Int32) : entryFrame m #[(.int p1), (.int p2), (.int p3)] maxLocals = mkF m 0 #[si p1, si p2, si p3, un, un, un, un, un, un, un, un, un, un, un, un, un] [] := by first | (simp [entryFrame, mkF, argsToLocals, Value.category, maxLocals]; done) | rfl
def Q_rmLaw (Z : State) (p1 : Int32) (p2 : Int32) (p3 : Int32) (G1 : Int32) (fm : Value) (us : Value) (sn : Value) (h0 : Heap) (n0 : Nat) (v : Option Value) (h : Heap) (L : List Loc) : Prop := v = some (.int 1) ∧ Fr n0 L ∧ Keep h0 h []
set_option maxRecDepth 65536 in
set_option maxHeartbeats 40000000 in
theorem rmLaw (l : Launch) (Z : State) (a0 : Array Value) (hw : ∀ d ∈ tables_1, d.before a0 Z = true) (ws : List Jvm.Cond) (p1 : Int32) (p2 : Int32) (p3 : Int32) (G1 : Int32) (fm : Value) (us : Value) (sn : Value) (h0 : Heap) (n0 : Nat) (Z0 : n0 ≤ h0.size) (hp0 : Sta Z Z.heap "java/lang/String" "COMPACT_STRINGS" "Z" (.int G1)) (hG1 : ¬ (G1 = (0 : Int32))) (hp2 : Sta Z Z.heap "jdk/internal/util/Preconditions" "SIOOBE_FORMATTER" "Ljava/util/function/BiFunction;" fm) (hfm : fm.isRef = true) (hp4 : Sta Z Z.heap "java/lang/StringUTF16" "$assertionsDisabled" "Z" (.int 1)) (hp5 : Sta Z Z.heap "java/lang/StringUTF16" "HI_BYTE_SHIFT" "I" (.int 0)) (hp6 : Sta Z Z.heap "java/lang/StringUTF16" "LO_BYTE_SHIFT" "I" (.int 8)) (hlt : l.stackTraces = true) (hp8 : Sta Z Z.heap "java/lang/Throwable" "UNASSIGNED_STACK" "[Ljava/lang/StackTraceElement;" us) (hp9 : Sta Z Z.heap "java/lang/Throwable" "SUPPRESSED_SENTINEL" "Ljava/util/List;" sn) (hus : us.isRef = true) (hsn : sn.isRef = true) (hun : us ≠ .null) (hp13 : Old Z n0 h0) :
    MetFree l x (head1 (Jvm.Cond.code x code maxLocals ret :: ws) room_1) (fun a U => a = #[(.int p1), (.int p2), (.int p3)] ∧ Z.Warmed39 U.vm ∧ U.heap = h0 ∧ CHv Z consts_1 U.vm h0 ∧ ∀ x ∈ ([] : List Addr), Safe Z consts_1 U.vm h0 x) (fun _ _ bl s _ => s.vm.MethodsKnown ∧ s.vm.FramesKnown bl) (fun _ U o U' => ∃ v L, o = .returned v ∧ Q_rmLaw Z p1 p2 p3 G1 fm us sn h0 n0 v U'.heap L ∧ CHr Z consts_1 U.vm U.heap U'.vm U'.heap ∧ ReturnedEndW U o U' L room_1.cells room_1.slots) := by
 refine bodyOfWK pn_57 (fun m => ef_rmLaw m p1 p2 p3) ?_
 intro p e s m below meth c T0 X0 hx hby hml hown hnm hret hk hZ e0 hS C0 hsf hKn
 have hkS := Nat.le_refl h0.size
 have N0 := Fr.nil n0
 have K0 : Keep h0 h0 [] := Keep.refl _ _
 have O0 := hp13
 refine go (S' := T0.setTop (mkF m 6 #[si p1, si p2, si p3, si ((p1 &&& (65535 : Int32)).toUInt32.toUInt16.toUInt32.toInt32), un, un, un, un, un, un, un, un, un, un, un, un] [])) (fun t k => XS.iloadN X0.here hx rfl (hb hby at_0) rfl (X0.ldcInt hx hown (mvT hZ (ww hw 0 rfl)) (g := (mkF m 1 #[si p1, si p2, si p3, un, un, un, un, un, un, un, un, un, un, un, un, un] [(.int p1)])) rfl (hb hby at_1) _ (XS.iand X0.here hx rfl (hb hby at_3) rfl (XS.i2c X0.here hx rfl (hb hby at_4) rfl (XS.istoreN X0.here hx rfl (hb hby at_5) rfl (l' := #[si p1, si p2, si p3, si ((p1 &&& (65535 : Int32)).toUInt32.toUInt16.toUInt32.toInt32), un, un, un, un, un, un, un, un, un, un, un, un]) rfl k))))) ?_
 obtain ⟨ca, hca⟩ : ∃ z : Int32, z = ((p1 &&& (65535 : Int32)).toUInt32.toUInt16.toUInt32.toInt32) := ⟨_, rfl⟩
 rw [← hca]
 have hcab : ¬ ca < 0 ∧ ¬ (65535 : Int32) < ca := by rw [hca]; exact own_c16 _
 refine go (S' := T0.setTop (mkF m 16 #[si p1, si p2, si p3, si ca, si ((((p1.toUInt32 >>> ((16 : Int32) &&& 31).toUInt32).toInt32) &&& (65535 : Int32)).toUInt32.toUInt16.toUInt32.toInt32), un, un, un, un, un, un, un, un, un, un, un] [])) (fun t k => XS.iloadN X0.here hx rfl (hb hby at_6) rfl (XS.bipush X0.here hx rfl (hb hby at_7) (XS.iushr X0.here hx rfl (hb hby at_9) rfl (X0.ldcInt hx hown (mvT hZ (ww hw 0 rfl)) (g := (mkF m 10 #[si p1, si p2, si p3, si ca, un, un, un, un, un, un, un, un, un, un, un, un] [(.int ((p1.toUInt32 >>> ((16 : Int32) &&& 31).toUInt32).toInt32))])) rfl (hb hby at_10) _ (XS.iand X0.here hx rfl (hb hby at_12) rfl (XS.i2c X0.here hx rfl (hb hby at_13) rfl (XS.istore X0.here hx rfl (hb hby at_14) rfl (l' := #[si p1, si p2, si p3, si ca, si ((((p1.toUInt32 >>> ((16 : Int32) &&& 31).toUInt32).toInt32) &&& (65535 : Int32)).toUInt32.toUInt16.toUInt32.toInt32), un, un, un, un, un, un, un, un, un, un, un]) rfl k))))))) ?_
 obtain ⟨cb, hcb⟩ : ∃ z : Int32, z = ((((p1.toUInt32 >>> ((16 : Int32) &&& 31).toUInt32).toInt32) &&& (65535 : Int32)).toUInt32.toUInt16.toUInt32.toInt32) := ⟨_, rfl⟩
 rw [← hcb]
 have hcbb : ¬ cb < 0 ∧ ¬ (65535 : Int32) < cb := by rw [hcb]; exact own_c16 _
 refine go (S' := T0.setTop (mkF m 23 #[si p1, si p2, si p3, si ca, si cb, si ((p2 &&& (65535 : Int32)).toUInt32.toUInt16.toUInt32.toInt32), un, un, un, un, un, un, un, un, un, un] [])) (fun t k => XS.iloadN X0.here hx rfl (hb hby at_16) rfl (X0.ldcInt hx hown (mvT hZ (ww hw 0 rfl)) (g := (mkF m 17 #[si p1, si p2, si p3, si ca, si cb, un, un, un, un, un, un, un, un, un, un, un] [(.int p2)])) rfl (hb hby at_17) _ (XS.iand X0.here hx rfl (hb hby at_19) rfl (XS.i2c X0.here hx rfl (hb hby at_20) rfl (XS.istore X0.here hx rfl (hb hby at_21) rfl (l' := #[si p1, si p2, si p3, si ca, si cb, si ((p2 &&& (65535 : Int32)).toUInt32.toUInt16.toUInt32.toInt32), un, un, un, un, un, un, un, un, un, un]) rfl k))))) ?_
 obtain ⟨cu, hcu⟩ : ∃ z : Int32, z = ((p2 &&& (65535 : Int32)).toUInt32.toUInt16.toUInt32.toInt32) := ⟨_, rfl⟩
 rw [← hcu]
 have hcub : ¬ cu < 0 ∧ ¬ (65535 : Int32) < cu := by rw [hcu]; exact own_c16 _
 refine go (S' := T0.setTop (mkF m 33 #[si p1, si p2, si p3, si ca, si cb, si cu, si ((((p2.toUInt32 >>> ((16 : Int32) &&& 31).toUInt32).toInt32) &&& (65535 : Int32)).toUInt32.toUInt16.toUInt32.toInt32), un, un, un, un, un, un, un, un, un] [])) (fun t k => XS.iloadN X0.here hx rfl (hb hby at_23) rfl (XS.bipush X0.here hx rfl (hb hby at_24) (XS.iushr X0.here hx rfl (hb hby at_26) rfl (X0.ldcInt hx hown (mvT hZ (ww hw 0 rfl)) (g := (mkF m 27 #[si p1, si p2, si p3, si ca, si cb, si cu, un, un, un, un, un, un, un, un, un, un] [(.int ((p2.toUInt32 >>> ((16 : Int32) &&& 31).toUInt32).toInt32))])) rfl (hb hby at_27) _ (XS.iand X0.here hx rfl (hb hby at_29) rfl (XS.i2c X0.here hx rfl (hb hby at_30) rfl (XS.istore X0.here hx rfl (hb hby at_31) rfl (l' := #[si p1, si p2, si p3, si ca, si cb, si cu, si ((((p2.toUInt32 >>> ((16 : Int32) &&& 31).toUInt32).toInt32) &&& (65535 : Int32)).toUInt32.toUInt16.toUInt32.toInt32), un, un, un, un, un, un, un, un, un]) rfl k))))))) ?_
 obtain ⟨cv, hcv⟩ : ∃ z : Int32, z = ((((p2.toUInt32 >>> ((16 : Int32) &&& 31).toUInt32).toInt32) &&& (65535 : Int32)).toUInt32.toUInt16.toUInt32.toInt32) := ⟨_, rfl⟩
 rw [← hcv]
 have hcvb : ¬ cv < 0 ∧ ¬ (65535 : Int32) < cv := by rw [hcv]; exact own_c16 _
 refine go (S' := T0.setTop (mkF m 41 #[si p1, si p2, si p3, si ca, si cb, si cu, si cv, si ((p3 &&& (2147483647 : Int32)) % (3 : Int32)), un, un, un, un, un, un, un, un] [])) (fun t k => XS.iloadN X0.here hx rfl (hb hby at_33) rfl (X0.ldcInt hx hown (mvT hZ (ww hw 1 rfl)) (g := (mkF m 34 #[si p1, si p2, si p3, si ca, si cb, si cu, si cv, un, un, un, un, un, un, un, un, un] [(.int p3)])) rfl (hb hby at_34) _ (XS.iand X0.here hx rfl (hb hby at_36) rfl (XS.iconst X0.here hx rfl (hb hby at_37) (iremM X0 hx rfl (hb hby at_38) rfl (by decide) (XS.istore X0.here hx rfl (hb hby at_39) rfl (l' := #[si p1, si p2, si p3, si ca, si cb, si cu, si cv, si ((p3 &&& (2147483647 : Int32)) % (3 : Int32)), un, un, un, un, un, un, un, un]) rfl k)))))) ?_
 obtain ⟨lp, hlp⟩ : ∃ z : Int32, z = ((p3 &&& (2147483647 : Int32)) % (3 : Int32)) := ⟨_, rfl⟩
 rw [← hlp]
 have hlp3 : lp = 0 ∨ lp = 1 ∨ lp = 2 := by rw [hlp]; exact own_three _
 refine go (S' := T0.setTop (mkF m 52 #[si p1, si p2, si p3, si ca, si cb, si cu, si cv, si lp, si ((((p3.toUInt32 >>> ((8 : Int32) &&& 31).toUInt32).toInt32) &&& (2147483647 : Int32)) % (3 : Int32)), un, un, un, un, un, un, un] [])) (fun t k => XS.iloadN X0.here hx rfl (hb hby at_41) rfl (XS.bipush X0.here hx rfl (hb hby at_42) (XS.iushr X0.here hx rfl (hb hby at_44) rfl (X0.ldcInt hx hown (mvT hZ (ww hw 1 rfl)) (g := (mkF m 45 #[si p1, si p2, si p3, si ca, si cb, si cu, si cv, si lp, un, un, un, un, un, un, un, un] [(.int ((p3.toUInt32 >>> ((8 : Int32) &&& 31).toUInt32).toInt32))])) rfl (hb hby at_45) _ (XS.iand X0.here hx rfl (hb hby at_47) rfl (XS.iconst X0.here hx rfl (hb hby at_48) (iremM X0 hx rfl (hb hby at_49) rfl (by decide) (XS.istore X0.here hx rfl (hb hby at_50) rfl (l' := #[si p1, si p2, si p3, si ca, si cb, si cu, si cv, si lp, si ((((p3.toUInt32 >>> ((8 : Int32) &&& 31).toUInt32).toInt32) &&& (2147483647 : Int32)) % (3 : Int32)), un, un, un, un, un, un, un]) rfl k)))))))) ?_
 obtain ⟨lu, hlu⟩ : ∃ z : Int32, z = ((((p3.toUInt32 >>> ((8 : Int32) &&& 31).toUInt32).toInt32) &&& (2147483647 : Int32)) % (3 : Int32)) := ⟨_, rfl⟩
 rw [← hlu]
 have hlu3 : lu = 0 ∨ lu = 1 ∨ lu = 2 := by rw [hlu]; exact own_three _
 refine go (S' := T0.setTop (mkF m 57 #[si p1, si p2, si p3, si ca, si cb, si cu, si cv, si lp, si lu, un, un, un, un, un, un, un] [(.int cb), (.int ca), (.int lp)])) (fun t k => XS.iload X0.here hx rfl (hb hby at_52) rfl (XS.iloadN X0.here hx rfl (hb hby at_54) rfl (XS.iload X0.here hx rfl (hb hby at_55) rfl k))) ?_
 have O1004 : Old Z n0 h0 := O0.keep K0 all0
 obtain ⟨v1005, T1005, L1005, X1005, hQ1005, hS, hZ, hown, Cq1005, st1005⟩ := callStW X0 hx hZ (y := y_50) hown (ww hw 2 rfl) (ww hw 3 rfl) (ww hw 4 rfl) (ww hw 5 rfl) (by decide) (backW (W := 0) (rmStr l Z a0 hw [] lp ca cb G1 h0 n0 (Nat.le_trans Z0 K0.1) hlp3 hcab hcbb hp0 hG1 hp4 hp5 hp6 O1004) hZ (ww hw 5 rfl) (ww hw 4 rfl) (by decide) (by decide) (own_EW hw) C0.1 all0) (g := (mkF m 57 #[si p1, si p2, si p3, si ca, si cb, si cu, si cv, si lp, si lu, un, un, un, un, un, un, un] [(.int cb), (.int ca), (.int lp)])) rfl (by rw [hml]; rfl) (kc := 6) (ks := 54) (argsL := [(.int lp), (.int ca), (.int cb)]) (rest := []) (lenOf pd_38 rfl) rfl (mr0 rfl) (hb hby at_57) e0 (by decide) (by decide) hS hkS
 obtain ⟨x_1005, tv_1005, cd_1005, cs_1005, rfl, N1005q, Kq1005, q1005_0, q1005_1, q1005_2⟩ := hQ1005
 have N1005 := Fr.app N0 N1005q
 have hkS := Nat.le_refl T1005.heap.size
 have C1006 := C0.trans Cq1005
 have K1007 : Keep h0 T1005.heap [] := K0.trans Kq1005 all0
 have sz_x_1005 : h0.size ≤ x_1005 := Nat.le_trans K0.1 q1005_0
 have ge_x_1005 : n0 ≤ x_1005 := Nat.le_trans Z0 sz_x_1005
 refine go (S' := T1005.setTop (mkF m 68 #[si p1, si p2, si p3, si ca, si cb, si cu, si cv, si lp, si lu, sr x_1005, un, un, un, un, un, un] [(.int cv), (.int cu), (.int lu)])) (fun t k => st1005 _ (XS.astore X1005.here hx rfl (hb hby at_60) rfl rfl (l' := #[si p1, si p2, si p3, si ca, si cb, si cu, si cv, si lp, si lu, sr x_1005, un, un, un, un, un, un]) rfl (XS.iload X1005.here hx rfl (hb hby at_62) rfl (XS.iload X1005.here hx rfl (hb hby at_64) rfl (XS.iload X1005.here hx rfl (hb hby at_66) rfl k))))) ?_
 have O1008 : Old Z n0 T1005.heap := O0.keep K1007 all0
 obtain ⟨v1009, T1009, L1009, X1009, hQ1009, hS, hZ, hown, Cq1009, st1009⟩ := callStW X1005 hx hZ (y := y_50) hown (ww hw 2 rfl) (ww hw 3 rfl) (ww hw 4 rfl) (ww hw 5 rfl) (by decide) (backW (W := 0) (rmStr l Z a0 hw [] lu cu cv G1 T1005.heap n0 (Nat.le_trans Z0 K1007.1) hlu3 hcub hcvb hp0 hG1 hp4 hp5 hp6 O1008) hZ (ww hw 5 rfl) (ww hw 4 rfl) (by decide) (by decide) (own_EW hw) C1006.1 all0) (g := (mkF m 68 #[si p1, si p2, si p3, si ca, si cb, si cu, si cv, si lp, si lu, sr x_1005, un, un, un, un, un, un] [(.int cv), (.int cu), (.int lu)])) rfl (by rw [hml]; rfl) (kc := 6) (ks := 54) (argsL := [(.int lu), (.int cu), (.int cv)]) (rest := []) (lenOf pd_38 rfl) rfl (mr0 rfl) (hb hby at_68) rfl (by decide) (by decide) hS hkS
 obtain ⟨x_1009, tv_1009, cd_1009, cs_1009, rfl, N1009q, Kq1009, q1009_0, q1009_1, q1009_2⟩ := hQ1009
 have N1009 := Fr.app N1005 N1009q
 have hkS := Nat.le_refl T1009.heap.size
 have C1010 := C1006.trans Cq1009
 have K1011 : Keep h0 T1009.heap [] := K1007.trans Kq1009 all0
 have lt_x_1005_x_1009 : x_1005 < x_1009 := Nat.lt_of_lt_of_le q1005_1.lt1 q1009_0
 have lt_tv_1005_x_1009 : tv_1005 < x_1009 := Nat.lt_of_lt_of_le q1005_1.lt2 q1009_0
 have sz_x_1009 : h0.size ≤ x_1009 := Nat.le_trans K1007.1 q1009_0
 have ge_x_1009 : n0 ≤ x_1009 := Nat.le_trans Z0 sz_x_1009
 refine go (S' := T1009.setTop (mkF m 77 #[si p1, si p2, si p3, si ca, si cb, si cu, si cv, si lp, si lu, sr x_1005, sr x_1009, un, un, un, un, un] [(.ref x_1009), (.ref x_1005)])) (fun t k => st1009 _ (XS.astore X1009.here hx rfl (hb hby at_71) rfl rfl (l' := #[si p1, si p2, si p3, si ca, si cb, si cu, si cv, si lp, si lu, sr x_1005, sr x_1009, un, un, un, un, un]) rfl (XS.aload X1009.here hx rfl (hb hby at_73) rfl rfl (XS.aload X1009.here hx rfl (hb hby at_75) rfl rfl k)))) ?_
 have f1012 : Str Z T1009.heap x_1005 tv_1005 cd_1005 cs_1005 := (q1005_1.keep Kq1009 nin0 nin0)
 have O1013 : Old Z n0 T1009.heap := O0.keep K1011 all0
 obtain ⟨v1014, T1014, L1014, X1014, hQ1014, hS, hZ, hown, Cq1014, st1014⟩ := callStW X1009 hx hZ (y := y_54) hown (ww hw 39 rfl) (ww hw 40 rfl) (ww hw 41 rfl) (ww hw 42 rfl) (by decide) (backWK (W := 0) (rmBad l Z a0 hw [] x_1005 x_1009 tv_1005 cd_1005 cs_1005 tv_1009 cd_1009 cs_1009 G1 fm us sn T1009.heap n0 (Nat.le_trans Z0 K1011.1) f1012 q1009_1 (own_Rlen q1005_2) (own_Rlen q1009_2) hlt hp8 hp9 hus hsn hun hfm hp2 hp0 hG1 hp4 hp5 hp6 O1013) hZ (ww hw 42 rfl) (ww hw 41 rfl) (by decide) (by decide) (own_EW hw) C1010.1 all0 ⟨(Vm.MethodsKnown.alikeC hS.1.alike hKn.1), (Vm.FramesKnown.alikeC hS.1.alike hKn.2)⟩) (g := (mkF m 77 #[si p1, si p2, si p3, si ca, si cb, si cu, si cv, si lp, si lu, sr x_1005, sr x_1009, un, un, un, un, un] [(.ref x_1009), (.ref x_1005)])) rfl (by rw [hml]; rfl) (kc := 11) (ks := 2891) (argsL := [(.ref x_1005), (.ref x_1009)]) (rest := []) (lenOf pd_39 rfl) rfl (mr0 rfl) (hb hby at_77) rfl (by decide) (by decide) hS hkS
 obtain ⟨f_1014, m__1014, tm_1014, cdm_1014, rfl, N1014q, Kq1014, q1014_0, q1014_1, q1014_2, q1014_3, q1014_4⟩ := hQ1014
 have N1014 := Fr.app N1009 N1014q
 have hkS := Nat.le_refl T1014.heap.size
 have C1015 := C1010.trans Cq1014
 have K1016 : Keep h0 T1014.heap [] := K1011.trans Kq1014 all0
 have lt_x_1005_f_1014 : x_1005 < f_1014 := Nat.lt_of_lt_of_le f1012.lt1 q1014_0
 have lt_tv_1005_f_1014 : tv_1005 < f_1014 := Nat.lt_of_lt_of_le f1012.lt2 q1014_0
 have lt_x_1009_f_1014 : x_1009 < f_1014 := Nat.lt_of_lt_of_le q1009_1.lt1 q1014_0
 have lt_tv_1009_f_1014 : tv_1009 < f_1014 := Nat.lt_of_lt_of_le q1009_1.lt2 q1014_0
 have sz_f_1014 : h0.size ≤ f_1014 := Nat.le_trans K1011.1 q1014_0
 have ge_f_1014 : n0 ≤ f_1014 := Nat.le_trans Z0 sz_f_1014
 have ne_m__1014_f_1014 : m__1014 ≠ f_1014 := q1014_4.ne1 q1014_1 (by decide)
 have ne_tm_1014_f_1014 : tm_1014 ≠ f_1014 := q1014_4.ne2 q1014_1 (ww hw 44 rfl)
 refine go (S' := T1014.setTop (mkF m 80 #[si p1, si p2, si p3, si ca, si cb, si cu, si cv, si lp, si lu, sr x_1005, sr x_1009, un, un, un, un, un] [(.ref f_1014)])) st1014 ?_
 obtain ⟨TT, hTT⟩ : ∃ z : List Int32, z = (cs_1005 ++ (([32, 40, 117, 115, 97, 103, 101, 58, 32] : List Int32) ++ (cs_1009 ++ ([41] : List Int32)))) := ⟨_, rfl⟩
 have hms : Str Z T1014.heap m__1014 tm_1014 cdm_1014 TT := by rw [hTT]; have q := q1014_4; rw [List.nil_append, List.append_assoc, List.append_assoc] at q; exact q
 have hTL : Int32.ofNat TT.length = ((lp + lu) + (10 : Int32)) := by rw [hTT]; exact (own_Tlen q1005_2 q1009_2).1
 have hTl : TT.length ≤ 16 := by rw [hTT]; exact (own_Tlen q1005_2 q1009_2).2
 refine go (S' := T1014.setTop (mkF m 91 #[si p1, si p2, si p3, si ca, si cb, si cu, si cv, si lp, si lu, sr x_1005, sr x_1009, sr f_1014, un, un, un, un] [(.ref f_1014)])) (fun t k => XS.astore X1014.here hx rfl (hb hby at_80) rfl rfl (l' := #[si p1, si p2, si p3, si ca, si cb, si cu, si cv, si lp, si lu, sr x_1005, sr x_1009, sr f_1014, un, un, un, un]) rfl (XS.aload X1014.here hx rfl (hb hby at_82) rfl rfl (XS.ifnonnullYes X1014.here hx rfl (pc0 := 84) (pc' := 89) rfl (hb hby at_84) rfl (by decide) (by decide) (XS.aload X1014.here hx rfl (hb hby at_89) rfl rfl k)))) ?_
 obtain ⟨v1017, T1017, L1017, X1017, hQ1017, st1017⟩ := callV X1014 hx hZ (y := y_55) (z := y_55) hown (ww hw 210 rfl) (ww hw 211 rfl) (notFace_of_selects (args := #[]) (mvT hZ (ww hw 213 rfl))) (ww hw 213 rfl) (ww hw 212 rfl) (by decide) (backOf (W := 0) (rmSta l Z a0 hw [] f_1014 (2 : Int32) T1014.heap n0 (Nat.le_trans Z0 K1016.1) q1014_2) hZ (ww hw 214 rfl) (ww hw 41 rfl) (by decide) (by decide)) q1014_1 (g := (mkF m 91 #[si p1, si p2, si p3, si ca, si cb, si cu, si cv, si lp, si lu, sr x_1005, sr x_1009, sr f_1014, un, un, un, un] [(.ref f_1014)])) rfl (by rw [hml]; rfl) (kc := 0) (ks := 0) (argsL := []) (rest := []) (lenOf pd_21 rfl) rfl (mr0 rfl) (hb hby at_91) rfl (by decide) (by decide)
 obtain ⟨rfl, N1017q, e1017⟩ := hQ1017
 have N1017 := Fr.app N1014 N1017q
 refine go (S' := T1017.setTop (mkF m 95 #[si p1, si p2, si p3, si ca, si cb, si cu, si cv, si lp, si lu, sr x_1005, sr x_1009, sr f_1014, un, un, un, un] [(.int 2), (.int 2)])) (fun t k => st1017 _ (XS.iconst X1017.here hx rfl (hb hby at_94) k)) ?_
 have hc1018 : (2 : Int32) = (2 : Int32) := by decide
 refine go (S' := T1017.setTop (mkF m 100 #[si p1, si p2, si p3, si ca, si cb, si cu, si cv, si lp, si lu, sr x_1005, sr x_1009, sr f_1014, un, un, un, un] [(.ref f_1014)])) (fun t k => XS.icmpNo X1017.here hx rfl (hb hby at_95) rfl (teq hc1018).2 (XS.aload X1017.here hx rfl (hb hby at_98) rfl rfl k)) ?_
 obtain ⟨v1019, T1019, L1019, X1019, hQ1019, st1019⟩ := callV X1017 hx hZ (y := y_55) (z := y_55) hown (ww hw 210 rfl) (ww hw 211 rfl) (notFace_of_selects (args := #[]) (mvT hZ (ww hw 213 rfl))) (ww hw 213 rfl) (ww hw 212 rfl) (by decide) (backOf (W := 0) (rmSta l Z a0 hw [] f_1014 (2 : Int32) T1014.heap n0 (Nat.le_trans Z0 K1016.1) q1014_2) hZ (ww hw 214 rfl) (ww hw 41 rfl) (by decide) (by decide)) q1014_1 (g := (mkF m 100 #[si p1, si p2, si p3, si ca, si cb, si cu, si cv, si lp, si lu, sr x_1005, sr x_1009, sr f_1014, un, un, un, un] [(.ref f_1014)])) rfl (by rw [hml]; rfl) (kc := 0) (ks := 0) (argsL := []) (rest := []) (lenOf pd_21 rfl) rfl (mr0 rfl) (hb hby at_100) e1017 (by decide) (by decide)
 obtain ⟨rfl, N1019q, e1019⟩ := hQ1019
 have N1019 := Fr.app N1017 N1019q
 refine go (S' := T1019.setTop (mkF m 104 #[si p1, si p2, si p3, si ca, si cb, si cu, si cv, si lp, si lu, sr x_1005, sr x_1009, sr f_1014, un, un, un, un] [(.int 2), (.int 2)])) (fun t k => st1019 _ (XS.iconst X1019.here hx rfl (hb hby at_103) k)) ?_
 have hc1020 : (2 : Int32) = (2 : Int32) := by decide
 refine go (S' := T1019.setTop (mkF m 111 #[si p1, si p2, si p3, si ca, si cb, si cu, si cv, si lp, si lu, sr x_1005, sr x_1009, sr f_1014, un, un, un, un] [(.ref f_1014)])) (fun t k => XS.icmpYes X1019.here hx rfl (pc0 := 104) (pc' := 109) rfl (hb hby at_104) rfl (teq hc1020).1 (by decide) (by decide) (XS.aload X1019.here hx rfl (hb hby at_109) rfl rfl k)) ?_
 obtain ⟨v1021, T1021, L1021, X1021, hQ1021, st1021⟩ := callVU X1019 hx hZ (y := y_58) (z := y_56) (owner := "java/lang/Throwable") hown (ww hw 215 rfl) (ww hw 216 rfl) (ww hw 217 rfl) (ww hw 219 rfl) (ww hw 218 rfl) (by decide) (backOf (W := 0) (rmGm l Z a0 hw [] f_1014 m__1014 T1014.heap n0 (Nat.le_trans Z0 K1016.1) q1014_3) hZ (ww hw 220 rfl) (ww hw 169 rfl) (by decide) (by decide)) q1014_1 (g := (mkF m 111 #[si p1, si p2, si p3, si ca, si cb, si cu, si cv, si lp, si lu, sr x_1005, sr x_1009, sr f_1014, un, un, un, un] [(.ref f_1014)])) rfl (by rw [hml]; rfl) (kc := 0) (ks := 0) (argsL := []) (rest := []) (lenOf pd_36 rfl) rfl (mr0 rfl) (hb hby at_111) e1019 (by decide) (by decide)
 obtain ⟨rfl, N1021q, e1021⟩ := hQ1021
 have N1021 := Fr.app N1019 N1021q
 refine go (S' := T1021.setTop (mkF m 125 #[si p1, si p2, si p3, si ca, si cb, si cu, si cv, si lp, si lu, sr x_1005, sr x_1009, sr f_1014, sr m__1014, un, un, un] [(.ref m__1014)])) (fun t k => st1021 _ (XS.astore X1021.here hx rfl (hb hby at_114) rfl rfl (l' := #[si p1, si p2, si p3, si ca, si cb, si cu, si cv, si lp, si lu, sr x_1005, sr x_1009, sr f_1014, sr m__1014, un, un, un]) rfl (XS.aload X1021.here hx rfl (hb hby at_116) rfl rfl (XS.ifnonnullYes X1021.here hx rfl (pc0 := 118) (pc' := 123) rfl (hb hby at_118) rfl (by decide) (by decide) (XS.aload X1021.here hx rfl (hb hby at_123) rfl rfl k))))) ?_
 have O1022 : Old Z n0 T1014.heap := O0.keep K1016 all0
 obtain ⟨kb1023, N21023, vs1023, qE1023, qV1023, qC1023, qA1023, qcd1023, qbd1023, ql1023⟩ := id hms
 obtain ⟨v1024, T1024, L1024, X1024, hQ1024, st1024⟩ := callV X1021 hx hZ (y := y_30) (z := y_30) hown (ww hw 221 rfl) (ww hw 74 rfl) (notFace_of_selects (args := #[]) (mvT hZ (ww hw 76 rfl))) (ww hw 76 rfl) (ww hw 75 rfl) (by decide) (StrChars.Road.lenW (s := s.setVm T1014.vm) (W := 0) hZ (own_sub StrChars_wordsLen hw) (kI := 4) (ww hw 7 rfl) qE1023 qV1023 qC1023 qA1023 qcd1023 qbd1023 (hp0.ext O1022.2) hG1 ql1023 (by decide) (by decide)) hms.exa (g := (mkF m 125 #[si p1, si p2, si p3, si ca, si cb, si cu, si cv, si lp, si lu, sr x_1005, sr x_1009, sr f_1014, sr m__1014, un, un, un] [(.ref m__1014)])) rfl (by rw [hml]; rfl) (Q := (fun v h' L => v = some (.int (Int32.ofNat TT.length)) ∧ L = [] ∧ h' = T1014.heap)) (kc := 0) (ks := 0) (argsL := []) (rest := []) (lenOf pd_21 rfl) rfl (mr0 rfl) (hb hby at_125) e1021 (by decide) (by decide)
 obtain ⟨rfl, rfl, e1024⟩ := hQ1024
 have N1024 := Fr.app N1021 (Fr.nil n0)
 refine go (S' := T1024.setTop (mkF m 142 #[si p1, si p2, si p3, si ca, si cb, si cu, si cv, si lp, si lu, sr x_1005, sr x_1009, sr f_1014, sr m__1014, un, un, un] [(.int 1)])) (fun t k => st1024 _ (XS.iload X1024.here hx rfl (hb hby at_128) rfl (XS.iload X1024.here hx rfl (hb hby at_130) rfl (XS.iadd X1024.here hx rfl (hb hby at_132) rfl (XS.bipush X1024.here hx rfl (hb hby at_133) (XS.iadd X1024.here hx rfl (hb hby at_135) rfl (XS.icmpYes X1024.here hx rfl (pc0 := 136) (pc' := 141) rfl (hb hby at_136) rfl (teq hTL).1 (by decide) (by decide) (XS.iconst X1024.here hx rfl (hb hby at_141) k)))))))) ?_
 refine go (S' := T1024.setTop (mkF m 144 #[si p1, si p2, si p3, si ca, si cb, si cu, si cv, si lp, si lu, sr x_1005, sr x_1009, sr f_1014, sr m__1014, si 1, un, un] [])) (fun t k => XS.istore X1024.here hx rfl (hb hby at_142) rfl (l' := #[si p1, si p2, si p3, si ca, si cb, si cu, si cv, si lp, si lu, sr x_1005, sr x_1009, sr f_1014, sr m__1014, si 1, un, un]) rfl k) ?_
 have t1 : ∀ (T : State) (locs : List Loc), Stand p l e room_1 (s.setVm T1014.vm) m #[(.int p1), (.int p2), (.int p3)] below meth c T locs 23 2999 → T.heap = T1014.heap → Fr n0 locs → Goes p.tables e below (EndW Z consts_1 s below (Q_rmLaw Z p1 p2 p3 G1 fm us sn h0 n0) room_1.cells room_1.slots) (T.setTop (mkF m 172 #[si p1, si p2, si p3, si ca, si cb, si cu, si cv, si lp, si lu, sr x_1005, sr x_1009, sr f_1014, sr m__1014, si 1, un, un] [])) := by
  intro T locs X eT N
  have t2 : ∀ (T : State) (locs : List Loc), Stand p l e room_1 (s.setVm T1014.vm) m #[(.int p1), (.int p2), (.int p3)] below meth c T locs 23 2999 → T.heap = T1014.heap → Fr n0 locs → Goes p.tables e below (EndW Z consts_1 s below (Q_rmLaw Z p1 p2 p3 G1 fm us sn h0 n0) room_1.cells room_1.slots) (T.setTop (mkF m 201 #[si p1, si p2, si p3, si ca, si cb, si cu, si cv, si lp, si lu, sr x_1005, sr x_1009, sr f_1014, sr m__1014, si 1, un, un] [])) := by
   intro T locs X eT N
   refine go (S' := T.setTop (mkF m 207 #[si p1, si p2, si p3, si ca, si cb, si cu, si cv, si lp, si lu, sr x_1005, sr x_1009, sr f_1014, sr m__1014, si 1, si lp, un] [(.int 1)])) (fun t k => XS.iload X.here hx rfl (hb hby at_201) rfl (XS.istore X.here hx rfl (hb hby at_203) rfl (l' := #[si p1, si p2, si p3, si ca, si cb, si cu, si cv, si lp, si lu, sr x_1005, sr x_1009, sr f_1014, sr m__1014, si 1, si lp, un]) rfl (XS.iload X.here hx rfl (hb hby at_205) rfl k))) ?_
   have hc1025 : ¬ ((1 : Int32) = (0 : Int32)) := by decide
   refine go (S' := T.setTop (mkF m 216 #[si p1, si p2, si p3, si ca, si cb, si cu, si cv, si lp, si lu, sr x_1005, sr x_1009, sr f_1014, sr m__1014, si 1, si lp, un] [(.int 32), (.int lp), (.ref m__1014)])) (fun t k => XS.ifNo X.here hx rfl (hb hby at_207) rfl ((if0 _ _).trans (feq hc1025).1) (XS.aload X.here hx rfl (hb hby at_210) rfl rfl (XS.iload X.here hx rfl (hb hby at_212) rfl (XS.bipush X.here hx rfl (hb hby at_214) k)))) ?_
   obtain ⟨v1026, T1026, L1026, X1026, hQ1026, st1026⟩ := callSt X hx hZ (y := y_57) hown (ww hw 222 rfl) (ww hw 223 rfl) (ww hw 4 rfl) (ww hw 224 rfl) (by decide) (backOf (W := 0) (rmAt l Z a0 hw [] m__1014 lp (32 : Int32) tm_1014 cdm_1014 TT (cs_1005.length + 0) G1 fm T1014.heap n0 (Nat.le_trans Z0 K1016.1) hms (own_TU0 q1005_2 q1009_2).1 (by rw [hTT]; exact (own_TU0 q1005_2 q1009_2).2.1) hTl (by rw [hTT]; exact (own_TU0 q1005_2 q1009_2).2.2) hfm hp2 hp0 hG1 hp4 hp5 hp6 O1022) hZ (ww hw 224 rfl) (ww hw 4 rfl) (by decide) (by decide)) (g := (mkF m 216 #[si p1, si p2, si p3, si ca, si cb, si cu, si cv, si lp, si lu, sr x_1005, sr x_1009, sr f_1014, sr m__1014, si 1, si lp, un] [(.int 32), (.int lp), (.ref m__1014)])) rfl (by rw [hml]; rfl) (kc := 0) (ks := 0) (argsL := [(.ref m__1014), (.int lp), (.int 32)]) (rest := []) (lenOf pd_40 rfl) rfl (mr0 rfl) (hb hby at_216) eT (by decide) (by decide)
   obtain ⟨rfl, N1026q, e1026⟩ := hQ1026
   have N1026 := Fr.app N N1026q
   refine go (S' := T1026.setTop (mkF m 219 #[si p1, si p2, si p3, si ca, si cb, si cu, si cv, si lp, si lu, sr x_1005, sr x_1009, sr f_1014, sr m__1014, si 1, si lp, un] [(.int 1)])) st1026 ?_
   have hc1027 : ¬ ((1 : Int32) = (0 : Int32)) := by decide
   refine go (S' := T1026.setTop (mkF m 230 #[si p1, si p2, si p3, si ca, si cb, si cu, si cv, si lp, si lu, sr x_1005, sr x_1009, sr f_1014, sr m__1014, si 1, si lp, un] [(.int 40), (.int (lp + (1 : Int32))), (.ref m__1014)])) (fun t k => XS.ifNo X1026.here hx rfl (hb hby at_219) rfl ((if0 _ _).trans (feq hc1027).1) (XS.aload X1026.here hx rfl (hb hby at_222) rfl rfl (XS.iload X1026.here hx rfl (hb hby at_224) rfl (XS.iconst X1026.here hx rfl (hb hby at_226) (XS.iadd X1026.here hx rfl (hb hby at_227) rfl (XS.bipush X1026.here hx rfl (hb hby at_228) k)))))) ?_
   obtain ⟨v1028, T1028, L1028, X1028, hQ1028, st1028⟩ := callSt X1026 hx hZ (y := y_57) hown (ww hw 222 rfl) (ww hw 223 rfl) (ww hw 4 rfl) (ww hw 224 rfl) (by decide) (backOf (W := 0) (rmAt l Z a0 hw [] m__1014 (lp + (1 : Int32)) (40 : Int32) tm_1014 cdm_1014 TT (cs_1005.length + 1) G1 fm T1014.heap n0 (Nat.le_trans Z0 K1016.1) hms (own_TU1 q1005_2 q1009_2).1 (by rw [hTT]; exact (own_TU1 q1005_2 q1009_2).2.1) hTl (by rw [hTT]; exact (own_TU1 q1005_2 q1009_2).2.2) hfm hp2 hp0 hG1 hp4 hp5 hp6 O1022) hZ (ww hw 224 rfl) (ww hw 4 rfl) (by decide) (by decide)) (g := (mkF m 230 #[si p1, si p2, si p3, si ca, si cb, si cu, si cv, si lp, si lu, sr x_1005, sr x_1009, sr f_1014, sr m__1014, si 1, si lp, un] [(.int 40), (.int (lp + (1 : Int32))), (.ref m__1014)])) rfl (by rw [hml]; rfl) (kc := 0) (ks := 0) (argsL := [(.ref m__1014), (.int (lp + (1 : Int32))), (.int 40)]) (rest := []) (lenOf pd_40 rfl) rfl (mr0 rfl) (hb hby at_230) e1026 (by decide) (by decide)
   obtain ⟨rfl, N1028q, e1028⟩ := hQ1028
   have N1028 := Fr.app N1026 N1028q
   refine go (S' := T1028.setTop (mkF m 233 #[si p1, si p2, si p3, si ca, si cb, si cu, si cv, si lp, si lu, sr x_1005, sr x_1009, sr f_1014, sr m__1014, si 1, si lp, un] [(.int 1)])) st1028 ?_
   have hc1029 : ¬ ((1 : Int32) = (0 : Int32)) := by decide
   refine go (S' := T1028.setTop (mkF m 244 #[si p1, si p2, si p3, si ca, si cb, si cu, si cv, si lp, si lu, sr x_1005, sr x_1009, sr f_1014, sr m__1014, si 1, si lp, un] [(.int 117), (.int (lp + (2 : Int32))), (.ref m__1014)])) (fun t k => XS.ifNo X1028.here hx rfl (hb hby at_233) rfl ((if0 _ _).trans (feq hc1029).1) (XS.aload X1028.here hx rfl (hb hby at_236) rfl rfl (XS.iload X1028.here hx rfl (hb hby at_238) rfl (XS.iconst X1028.here hx rfl (hb hby at_240) (XS.iadd X1028.here hx rfl (hb hby at_241) rfl (XS.bipush X1028.here hx rfl (hb hby at_242) k)))))) ?_
   obtain ⟨v1030, T1030, L1030, X1030, hQ1030, st1030⟩ := callSt X1028 hx hZ (y := y_57) hown (ww hw 222 rfl) (ww hw 223 rfl) (ww hw 4 rfl) (ww hw 224 rfl) (by decide) (backOf (W := 0) (rmAt l Z a0 hw [] m__1014 (lp + (2 : Int32)) (117 : Int32) tm_1014 cdm_1014 TT (cs_1005.length + 2) G1 fm T1014.heap n0 (Nat.le_trans Z0 K1016.1) hms (own_TU2 q1005_2 q1009_2).1 (by rw [hTT]; exact (own_TU2 q1005_2 q1009_2).2.1) hTl (by rw [hTT]; exact (own_TU2 q1005_2 q1009_2).2.2) hfm hp2 hp0 hG1 hp4 hp5 hp6 O1022) hZ (ww hw 224 rfl) (ww hw 4 rfl) (by decide) (by decide)) (g := (mkF m 244 #[si p1, si p2, si p3, si ca, si cb, si cu, si cv, si lp, si lu, sr x_1005, sr x_1009, sr f_1014, sr m__1014, si 1, si lp, un] [(.int 117), (.int (lp + (2 : Int32))), (.ref m__1014)])) rfl (by rw [hml]; rfl) (kc := 0) (ks := 0) (argsL := [(.ref m__1014), (.int (lp + (2 : Int32))), (.int 117)]) (rest := []) (lenOf pd_40 rfl) rfl (mr0 rfl) (hb hby at_244) e1028 (by decide) (by decide)
   obtain ⟨rfl, N1030q, e1030⟩ := hQ1030
   have N1030 := Fr.app N1028 N1030q
   refine go (S' := T1030.setTop (mkF m 247 #[si p1, si p2, si p3, si ca, si cb, si cu, si cv, si lp, si lu, sr x_1005, sr x_1009, sr f_1014, sr m__1014, si 1, si lp, un] [(.int 1)])) st1030 ?_
   have hc1031 : ¬ ((1 : Int32) = (0 : Int32)) := by decide
   refine go (S' := T1030.setTop (mkF m 258 #[si p1, si p2, si p3, si ca, si cb, si cu, si cv, si lp, si lu, sr x_1005, sr x_1009, sr f_1014, sr m__1014, si 1, si lp, un] [(.int 115), (.int (lp + (3 : Int32))), (.ref m__1014)])) (fun t k => XS.ifNo X1030.here hx rfl (hb hby at_247) rfl ((if0 _ _).trans (feq hc1031).1) (XS.aload X1030.here hx rfl (hb hby at_250) rfl rfl (XS.iload X1030.here hx rfl (hb hby at_252) rfl (XS.iconst X1030.here hx rfl (hb hby at_254) (XS.iadd X1030.here hx rfl (hb hby at_255) rfl (XS.bipush X1030.here hx rfl (hb hby at_256) k)))))) ?_
   obtain ⟨v1032, T1032, L1032, X1032, hQ1032, st1032⟩ := callSt X1030 hx hZ (y := y_57) hown (ww hw 222 rfl) (ww hw 223 rfl) (ww hw 4 rfl) (ww hw 224 rfl) (by decide) (backOf (W := 0) (rmAt l Z a0 hw [] m__1014 (lp + (3 : Int32)) (115 : Int32) tm_1014 cdm_1014 TT (cs_1005.length + 3) G1 fm T1014.heap n0 (Nat.le_trans Z0 K1016.1) hms (own_TU3 q1005_2 q1009_2).1 (by rw [hTT]; exact (own_TU3 q1005_2 q1009_2).2.1) hTl (by rw [hTT]; exact (own_TU3 q1005_2 q1009_2).2.2) hfm hp2 hp0 hG1 hp4 hp5 hp6 O1022) hZ (ww hw 224 rfl) (ww hw 4 rfl) (by decide) (by decide)) (g := (mkF m 258 #[si p1, si p2, si p3, si ca, si cb, si cu, si cv, si lp, si lu, sr x_1005, sr x_1009, sr f_1014, sr m__1014, si 1, si lp, un] [(.int 115), (.int (lp + (3 : Int32))), (.ref m__1014)])) rfl (by rw [hml]; rfl) (kc := 0) (ks := 0) (argsL := [(.ref m__1014), (.int (lp + (3 : Int32))), (.int 115)]) (rest := []) (lenOf pd_40 rfl) rfl (mr0 rfl) (hb hby at_258) e1030 (by decide) (by decide)
   obtain ⟨rfl, N1032q, e1032⟩ := hQ1032
   have N1032 := Fr.app N1030 N1032q
   refine go (S' := T1032.setTop (mkF m 261 #[si p1, si p2, si p3, si ca, si cb, si cu, si cv, si lp, si lu, sr x_1005, sr x_1009, sr f_1014, sr m__1014, si 1, si lp, un] [(.int 1)])) st1032 ?_
   have hc1033 : ¬ ((1 : Int32) = (0 : Int32)) := by decide
   refine go (S' := T1032.setTop (mkF m 272 #[si p1, si p2, si p3, si ca, si cb, si cu, si cv, si lp, si lu, sr x_1005, sr x_1009, sr f_1014, sr m__1014, si 1, si lp, un] [(.int 97), (.int (lp + (4 : Int32))), (.ref m__1014)])) (fun t k => XS.ifNo X1032.here hx rfl (hb hby at_261) rfl ((if0 _ _).trans (feq hc1033).1) (XS.aload X1032.here hx rfl (hb hby at_264) rfl rfl (XS.iload X1032.here hx rfl (hb hby at_266) rfl (XS.iconst X1032.here hx rfl (hb hby at_268) (XS.iadd X1032.here hx rfl (hb hby at_269) rfl (XS.bipush X1032.here hx rfl (hb hby at_270) k)))))) ?_
   obtain ⟨v1034, T1034, L1034, X1034, hQ1034, st1034⟩ := callSt X1032 hx hZ (y := y_57) hown (ww hw 222 rfl) (ww hw 223 rfl) (ww hw 4 rfl) (ww hw 224 rfl) (by decide) (backOf (W := 0) (rmAt l Z a0 hw [] m__1014 (lp + (4 : Int32)) (97 : Int32) tm_1014 cdm_1014 TT (cs_1005.length + 4) G1 fm T1014.heap n0 (Nat.le_trans Z0 K1016.1) hms (own_TU4 q1005_2 q1009_2).1 (by rw [hTT]; exact (own_TU4 q1005_2 q1009_2).2.1) hTl (by rw [hTT]; exact (own_TU4 q1005_2 q1009_2).2.2) hfm hp2 hp0 hG1 hp4 hp5 hp6 O1022) hZ (ww hw 224 rfl) (ww hw 4 rfl) (by decide) (by decide)) (g := (mkF m 272 #[si p1, si p2, si p3, si ca, si cb, si cu, si cv, si lp, si lu, sr x_1005, sr x_1009, sr f_1014, sr m__1014, si 1, si lp, un] [(.int 97), (.int (lp + (4 : Int32))), (.ref m__1014)])) rfl (by rw [hml]; rfl) (kc := 0) (ks := 0) (argsL := [(.ref m__1014), (.int (lp + (4 : Int32))), (.int 97)]) (rest := []) (lenOf pd_40 rfl) rfl (mr0 rfl) (hb hby at_272) e1032 (by decide) (by decide)
   obtain ⟨rfl, N1034q, e1034⟩ := hQ1034
   have N1034 := Fr.app N1032 N1034q
   refine go (S' := T1034.setTop (mkF m 275 #[si p1, si p2, si p3, si ca, si cb, si cu, si cv, si lp, si lu, sr x_1005, sr x_1009, sr f_1014, sr m__1014, si 1, si lp, un] [(.int 1)])) st1034 ?_
   have hc1035 : ¬ ((1 : Int32) = (0 : Int32)) := by decide
   refine go (S' := T1034.setTop (mkF m 286 #[si p1, si p2, si p3, si ca, si cb, si cu, si cv, si lp, si lu, sr x_1005, sr x_1009, sr f_1014, sr m__1014, si 1, si lp, un] [(.int 103), (.int (lp + (5 : Int32))), (.ref m__1014)])) (fun t k => XS.ifNo X1034.here hx rfl (hb hby at_275) rfl ((if0 _ _).trans (feq hc1035).1) (XS.aload X1034.here hx rfl (hb hby at_278) rfl rfl (XS.iload X1034.here hx rfl (hb hby at_280) rfl (XS.iconst X1034.here hx rfl (hb hby at_282) (XS.iadd X1034.here hx rfl (hb hby at_283) rfl (XS.bipush X1034.here hx rfl (hb hby at_284) k)))))) ?_
   obtain ⟨v1036, T1036, L1036, X1036, hQ1036, st1036⟩ := callSt X1034 hx hZ (y := y_57) hown (ww hw 222 rfl) (ww hw 223 rfl) (ww hw 4 rfl) (ww hw 224 rfl) (by decide) (backOf (W := 0) (rmAt l Z a0 hw [] m__1014 (lp + (5 : Int32)) (103 : Int32) tm_1014 cdm_1014 TT (cs_1005.length + 5) G1 fm T1014.heap n0 (Nat.le_trans Z0 K1016.1) hms (own_TU5 q1005_2 q1009_2).1 (by rw [hTT]; exact (own_TU5 q1005_2 q1009_2).2.1) hTl (by rw [hTT]; exact (own_TU5 q1005_2 q1009_2).2.2) hfm hp2 hp0 hG1 hp4 hp5 hp6 O1022) hZ (ww hw 224 rfl) (ww hw 4 rfl) (by decide) (by decide)) (g := (mkF m 286 #[si p1, si p2, si p3, si ca, si cb, si cu, si cv, si lp, si lu, sr x_1005, sr x_1009, sr f_1014, sr m__1014, si 1, si lp, un] [(.int 103), (.int (lp + (5 : Int32))), (.ref m__1014)])) rfl (by rw [hml]; rfl) (kc := 0) (ks := 0) (argsL := [(.ref m__1014), (.int (lp + (5 : Int32))), (.int 103)]) (rest := []) (lenOf pd_40 rfl) rfl (mr0 rfl) (hb hby at_286) e1034 (by decide) (by decide)
   obtain ⟨rfl, N1036q, e1036⟩ := hQ1036
   have N1036 := Fr.app N1034 N1036q
   refine go (S' := T1036.setTop (mkF m 289 #[si p1, si p2, si p3, si ca, si cb, si cu, si cv, si lp, si lu, sr x_1005, sr x_1009, sr f_1014, sr m__1014, si 1, si lp, un] [(.int 1)])) st1036 ?_
   have hc1037 : ¬ ((1 : Int32) = (0 : Int32)) := by decide
   refine go (S' := T1036.setTop (mkF m 301 #[si p1, si p2, si p3, si ca, si cb, si cu, si cv, si lp, si lu, sr x_1005, sr x_1009, sr f_1014, sr m__1014, si 1, si lp, un] [(.int 101), (.int (lp + (6 : Int32))), (.ref m__1014)])) (fun t k => XS.ifNo X1036.here hx rfl (hb hby at_289) rfl ((if0 _ _).trans (feq hc1037).1) (XS.aload X1036.here hx rfl (hb hby at_292) rfl rfl (XS.iload X1036.here hx rfl (hb hby at_294) rfl (XS.bipush X1036.here hx rfl (hb hby at_296) (XS.iadd X1036.here hx rfl (hb hby at_298) rfl (XS.bipush X1036.here hx rfl (hb hby at_299) k)))))) ?_
   obtain ⟨v1038, T1038, L1038, X1038, hQ1038, st1038⟩ := callSt X1036 hx hZ (y := y_57) hown (ww hw 222 rfl) (ww hw 223 rfl) (ww hw 4 rfl) (ww hw 224 rfl) (by decide) (backOf (W := 0) (rmAt l Z a0 hw [] m__1014 (lp + (6 : Int32)) (101 : Int32) tm_1014 cdm_1014 TT (cs_1005.length + 6) G1 fm T1014.heap n0 (Nat.le_trans Z0 K1016.1) hms (own_TU6 q1005_2 q1009_2).1 (by rw [hTT]; exact (own_TU6 q1005_2 q1009_2).2.1) hTl (by rw [hTT]; exact (own_TU6 q1005_2 q1009_2).2.2) hfm hp2 hp0 hG1 hp4 hp5 hp6 O1022) hZ (ww hw 224 rfl) (ww hw 4 rfl) (by decide) (by decide)) (g := (mkF m 301 #[si p1, si p2, si p3, si ca, si cb, si cu, si cv, si lp, si lu, sr x_1005, sr x_1009, sr f_1014, sr m__1014, si 1, si lp, un] [(.int 101), (.int (lp + (6 : Int32))), (.ref m__1014)])) rfl (by rw [hml]; rfl) (kc := 0) (ks := 0) (argsL := [(.ref m__1014), (.int (lp + (6 : Int32))), (.int 101)]) (rest := []) (lenOf pd_40 rfl) rfl (mr0 rfl) (hb hby at_301) e1036 (by decide) (by decide)
   obtain ⟨rfl, N1038q, e1038⟩ := hQ1038
   have N1038 := Fr.app N1036 N1038q
   refine go (S' := T1038.setTop (mkF m 304 #[si p1, si p2, si p3, si ca, si cb, si cu, si cv, si lp, si lu, sr x_1005, sr x_1009, sr f_1014, sr m__1014, si 1, si lp, un] [(.int 1)])) st1038 ?_
   have hc1039 : ¬ ((1 : Int32) = (0 : Int32)) := by decide
   refine go (S' := T1038.setTop (mkF m 316 #[si p1, si p2, si p3, si ca, si cb, si cu, si cv, si lp, si lu, sr x_1005, sr x_1009, sr f_1014, sr m__1014, si 1, si lp, un] [(.int 58), (.int (lp + (7 : Int32))), (.ref m__1014)])) (fun t k => XS.ifNo X1038.here hx rfl (hb hby at_304) rfl ((if0 _ _).trans (feq hc1039).1) (XS.aload X1038.here hx rfl (hb hby at_307) rfl rfl (XS.iload X1038.here hx rfl (hb hby at_309) rfl (XS.bipush X1038.here hx rfl (hb hby at_311) (XS.iadd X1038.here hx rfl (hb hby at_313) rfl (XS.bipush X1038.here hx rfl (hb hby at_314) k)))))) ?_
   obtain ⟨v1040, T1040, L1040, X1040, hQ1040, st1040⟩ := callSt X1038 hx hZ (y := y_57) hown (ww hw 222 rfl) (ww hw 223 rfl) (ww hw 4 rfl) (ww hw 224 rfl) (by decide) (backOf (W := 0) (rmAt l Z a0 hw [] m__1014 (lp + (7 : Int32)) (58 : Int32) tm_1014 cdm_1014 TT (cs_1005.length + 7) G1 fm T1014.heap n0 (Nat.le_trans Z0 K1016.1) hms (own_TU7 q1005_2 q1009_2).1 (by rw [hTT]; exact (own_TU7 q1005_2 q1009_2).2.1) hTl (by rw [hTT]; exact (own_TU7 q1005_2 q1009_2).2.2) hfm hp2 hp0 hG1 hp4 hp5 hp6 O1022) hZ (ww hw 224 rfl) (ww hw 4 rfl) (by decide) (by decide)) (g := (mkF m 316 #[si p1, si p2, si p3, si ca, si cb, si cu, si cv, si lp, si lu, sr x_1005, sr x_1009, sr f_1014, sr m__1014, si 1, si lp, un] [(.int 58), (.int (lp + (7 : Int32))), (.ref m__1014)])) rfl (by rw [hml]; rfl) (kc := 0) (ks := 0) (argsL := [(.ref m__1014), (.int (lp + (7 : Int32))), (.int 58)]) (rest := []) (lenOf pd_40 rfl) rfl (mr0 rfl) (hb hby at_316) e1038 (by decide) (by decide)
   obtain ⟨rfl, N1040q, e1040⟩ := hQ1040
   have N1040 := Fr.app N1038 N1040q
   refine go (S' := T1040.setTop (mkF m 319 #[si p1, si p2, si p3, si ca, si cb, si cu, si cv, si lp, si lu, sr x_1005, sr x_1009, sr f_1014, sr m__1014, si 1, si lp, un] [(.int 1)])) st1040 ?_
   have hc1041 : ¬ ((1 : Int32) = (0 : Int32)) := by decide
   refine go (S' := T1040.setTop (mkF m 331 #[si p1, si p2, si p3, si ca, si cb, si cu, si cv, si lp, si lu, sr x_1005, sr x_1009, sr f_1014, sr m__1014, si 1, si lp, un] [(.int 32), (.int (lp + (8 : Int32))), (.ref m__1014)])) (fun t k => XS.ifNo X1040.here hx rfl (hb hby at_319) rfl ((if0 _ _).trans (feq hc1041).1) (XS.aload X1040.here hx rfl (hb hby at_322) rfl rfl (XS.iload X1040.here hx rfl (hb hby at_324) rfl (XS.bipush X1040.here hx rfl (hb hby at_326) (XS.iadd X1040.here hx rfl (hb hby at_328) rfl (XS.bipush X1040.here hx rfl (hb hby at_329) k)))))) ?_
   obtain ⟨v1042, T1042, L1042, X1042, hQ1042, st1042⟩ := callSt X1040 hx hZ (y := y_57) hown (ww hw 222 rfl) (ww hw 223 rfl) (ww hw 4 rfl) (ww hw 224 rfl) (by decide) (backOf (W := 0) (rmAt l Z a0 hw [] m__1014 (lp + (8 : Int32)) (32 : Int32) tm_1014 cdm_1014 TT (cs_1005.length + 8) G1 fm T1014.heap n0 (Nat.le_trans Z0 K1016.1) hms (own_TU8 q1005_2 q1009_2).1 (by rw [hTT]; exact (own_TU8 q1005_2 q1009_2).2.1) hTl (by rw [hTT]; exact (own_TU8 q1005_2 q1009_2).2.2) hfm hp2 hp0 hG1 hp4 hp5 hp6 O1022) hZ (ww hw 224 rfl) (ww hw 4 rfl) (by decide) (by decide)) (g := (mkF m 331 #[si p1, si p2, si p3, si ca, si cb, si cu, si cv, si lp, si lu, sr x_1005, sr x_1009, sr f_1014, sr m__1014, si 1, si lp, un] [(.int 32), (.int (lp + (8 : Int32))), (.ref m__1014)])) rfl (by rw [hml]; rfl) (kc := 0) (ks := 0) (argsL := [(.ref m__1014), (.int (lp + (8 : Int32))), (.int 32)]) (rest := []) (lenOf pd_40 rfl) rfl (mr0 rfl) (hb hby at_331) e1040 (by decide) (by decide)
   obtain ⟨rfl, N1042q, e1042⟩ := hQ1042
   have N1042 := Fr.app N1040 N1042q
   refine go (S' := T1042.setTop (mkF m 334 #[si p1, si p2, si p3, si ca, si cb, si cu, si cv, si lp, si lu, sr x_1005, sr x_1009, sr f_1014, sr m__1014, si 1, si lp, un] [(.int 1)])) st1042 ?_
   have hc1043 : ¬ ((1 : Int32) = (0 : Int32)) := by decide
   refine go (S' := T1042.setTop (mkF m 351 #[si p1, si p2, si p3, si ca, si cb, si cu, si cv, si lp, si lu, sr x_1005, sr x_1009, sr f_1014, sr m__1014, si 1, si lp, si (lp + (9 : Int32))] [])) (fun t k => XS.ifNo X1042.here hx rfl (hb hby at_334) rfl ((if0 _ _).trans (feq hc1043).1) (XS.iconst X1042.here hx rfl (hb hby at_337) (XS.goto X1042.here hx rfl (pc0 := 338) (pc' := 342) rfl (hb hby at_338) (by decide) (by decide) (XS.istore X1042.here hx rfl (hb hby at_342) rfl (l' := #[si p1, si p2, si p3, si ca, si cb, si cu, si cv, si lp, si lu, sr x_1005, sr x_1009, sr f_1014, sr m__1014, si 1, si lp, un]) rfl (XS.iload X1042.here hx rfl (hb hby at_344) rfl (XS.bipush X1042.here hx rfl (hb hby at_346) (XS.iadd X1042.here hx rfl (hb hby at_348) rfl (XS.istore X1042.here hx rfl (hb hby at_349) rfl (l' := #[si p1, si p2, si p3, si ca, si cb, si cu, si cv, si lp, si lu, sr x_1005, sr x_1009, sr f_1014, sr m__1014, si 1, si lp, si (lp + (9 : Int32))]) rfl k)))))))) ?_
   have t3 : ∀ (T : State) (locs : List Loc), Stand p l e room_1 (s.setVm T1014.vm) m #[(.int p1), (.int p2), (.int p3)] below meth c T locs 23 2999 → T.heap = T1014.heap → Fr n0 locs → Goes p.tables e below (EndW Z consts_1 s below (Q_rmLaw Z p1 p2 p3 G1 fm us sn h0 n0) room_1.cells room_1.slots) (T.setTop (mkF m 381 #[si p1, si p2, si p3, si ca, si cb, si cu, si cv, si lp, si lu, sr x_1005, sr x_1009, sr f_1014, sr m__1014, si 1, si lp, si (lp + (9 : Int32))] [])) := by
    intro T locs X eT N
    have t4 : ∀ (T : State) (locs : List Loc), Stand p l e room_1 (s.setVm T1014.vm) m #[(.int p1), (.int p2), (.int p3)] below meth c T locs 23 2999 → T.heap = T1014.heap → Fr n0 locs → Goes p.tables e below (EndW Z consts_1 s below (Q_rmLaw Z p1 p2 p3 G1 fm us sn h0 n0) room_1.cells room_1.slots) (T.setTop (mkF m 413 #[si p1, si p2, si p3, si ca, si cb, si cu, si cv, si lp, si lu, sr x_1005, sr x_1009, sr f_1014, sr m__1014, si 1, si lp, si (lp + (9 : Int32))] [])) := by
     intro T locs X eT N
     refine go (S' := T.setTop (mkF m 415 #[si p1, si p2, si p3, si ca, si cb, si cu, si cv, si lp, si lu, sr x_1005, sr x_1009, sr f_1014, sr m__1014, si 1, si lp, si (lp + (9 : Int32))] [(.int 1)])) (fun t k => XS.iload X.here hx rfl (hb hby at_413) rfl k) ?_
     have hc1044 : ¬ ((1 : Int32) = (0 : Int32)) := by decide
     refine go (S' := T.setTop (mkF m 427 #[si p1, si p2, si p3, si ca, si cb, si cu, si cv, si lp, si lu, sr x_1005, sr x_1009, sr f_1014, sr m__1014, si 1, si lp, si (lp + (9 : Int32))] [(.int 41), (.int ((lp + (9 : Int32)) + lu)), (.ref m__1014)])) (fun t k => XS.ifNo X.here hx rfl (hb hby at_415) rfl ((if0 _ _).trans (feq hc1044).1) (XS.aload X.here hx rfl (hb hby at_418) rfl rfl (XS.iload X.here hx rfl (hb hby at_420) rfl (XS.iload X.here hx rfl (hb hby at_422) rfl (XS.iadd X.here hx rfl (hb hby at_424) rfl (XS.bipush X.here hx rfl (hb hby at_425) k)))))) ?_
     obtain ⟨v1045, T1045, L1045, X1045, hQ1045, st1045⟩ := callSt X hx hZ (y := y_57) hown (ww hw 222 rfl) (ww hw 223 rfl) (ww hw 4 rfl) (ww hw 224 rfl) (by decide) (backOf (W := 0) (rmAt l Z a0 hw [] m__1014 ((lp + (9 : Int32)) + lu) (41 : Int32) tm_1014 cdm_1014 TT (cs_1005.length + (9 + cs_1009.length)) G1 fm T1014.heap n0 (Nat.le_trans Z0 K1016.1) hms (own_TE q1005_2 q1009_2).1 (by rw [hTT]; exact (own_TE q1005_2 q1009_2).2.1) hTl (by rw [hTT]; exact (own_TE q1005_2 q1009_2).2.2) hfm hp2 hp0 hG1 hp4 hp5 hp6 O1022) hZ (ww hw 224 rfl) (ww hw 4 rfl) (by decide) (by decide)) (g := (mkF m 427 #[si p1, si p2, si p3, si ca, si cb, si cu, si cv, si lp, si lu, sr x_1005, sr x_1009, sr f_1014, sr m__1014, si 1, si lp, si (lp + (9 : Int32))] [(.int 41), (.int ((lp + (9 : Int32)) + lu)), (.ref m__1014)])) rfl (by rw [hml]; rfl) (kc := 0) (ks := 0) (argsL := [(.ref m__1014), (.int ((lp + (9 : Int32)) + lu)), (.int 41)]) (rest := []) (lenOf pd_40 rfl) rfl (mr0 rfl) (hb hby at_427) eT (by decide) (by decide)
     obtain ⟨rfl, N1045q, e1045⟩ := hQ1045
     have N1045 := Fr.app N N1045q
     refine go (S' := T1045.setTop (mkF m 430 #[si p1, si p2, si p3, si ca, si cb, si cu, si cv, si lp, si lu, sr x_1005, sr x_1009, sr f_1014, sr m__1014, si 1, si lp, si (lp + (9 : Int32))] [(.int 1)])) st1045 ?_
     have hc1046 : ¬ ((1 : Int32) = (0 : Int32)) := by decide
     refine go (S' := T1045.setTop (mkF m 442 #[si p1, si p2, si p3, si ca, si cb, si cu, si cv, si lp, si lu, sr x_1005, sr x_1009, sr f_1014, sr m__1014, si 1, si lp, si (lp + (9 : Int32))] [(.int 1)])) (fun t k => XS.ifNo X1045.here hx rfl (hb hby at_430) rfl ((if0 _ _).trans (feq hc1046).1) (XS.iconst X1045.here hx rfl (hb hby at_433) (XS.goto X1045.here hx rfl (pc0 := 434) (pc' := 438) rfl (hb hby at_434) (by decide) (by decide) (XS.istore X1045.here hx rfl (hb hby at_438) rfl (l' := #[si p1, si p2, si p3, si ca, si cb, si cu, si cv, si lp, si lu, sr x_1005, sr x_1009, sr f_1014, sr m__1014, si 1, si lp, si (lp + (9 : Int32))]) rfl (XS.iload X1045.here hx rfl (hb hby at_440) rfl k))))) ?_
     refine finNW X1045 hx hk (t := .boolean) hret (by simp) hS hkS hZ (own_EW hw) C1015 e1045 (hb hby at_442) (by decide) (by decide) ?_
     exact ⟨rfl, N1045, K1016⟩
    refine go (S' := T.setTop (mkF m 384 #[si p1, si p2, si p3, si ca, si cb, si cu, si cv, si lp, si lu, sr x_1005, sr x_1009, sr f_1014, sr m__1014, si 1, si lp, si (lp + (9 : Int32))] [(.int 2), (.int lu)])) (fun t k => XS.iload X.here hx rfl (hb hby at_381) rfl (XS.iconst X.here hx rfl (hb hby at_383) k)) ?_
    by_cases hc1047 : lu < (2 : Int32)
    ·
     refine go (S' := T.setTop (mkF m 413 #[si p1, si p2, si p3, si ca, si cb, si cu, si cv, si lp, si lu, sr x_1005, sr x_1009, sr f_1014, sr m__1014, si 1, si lp, si (lp + (9 : Int32))] [])) (fun t k => XS.icmpYes X.here hx rfl (pc0 := 384) (pc' := 413) rfl (hb hby at_384) rfl (tlt hc1047).1 (by decide) (by decide) k) ?_
     exact t4 _ _ X eT N
    ·
     refine go (S' := T.setTop (mkF m 389 #[si p1, si p2, si p3, si ca, si cb, si cu, si cv, si lp, si lu, sr x_1005, sr x_1009, sr f_1014, sr m__1014, si 1, si lp, si (lp + (9 : Int32))] [(.int 1)])) (fun t k => XS.icmpNo X.here hx rfl (hb hby at_384) rfl (flt hc1047).1 (XS.iload X.here hx rfl (hb hby at_387) rfl k)) ?_
     have hc1048 : ¬ ((1 : Int32) = (0 : Int32)) := by decide
     refine go (S' := T.setTop (mkF m 400 #[si p1, si p2, si p3, si ca, si cb, si cu, si cv, si lp, si lu, sr x_1005, sr x_1009, sr f_1014, sr m__1014, si 1, si lp, si (lp + (9 : Int32))] [(.int cv), (.int ((lp + (9 : Int32)) + (1 : Int32))), (.ref m__1014)])) (fun t k => XS.ifNo X.here hx rfl (hb hby at_389) rfl ((if0 _ _).trans (feq hc1048).1) (XS.aload X.here hx rfl (hb hby at_392) rfl rfl (XS.iload X.here hx rfl (hb hby at_394) rfl (XS.iconst X.here hx rfl (hb hby at_396) (XS.iadd X.here hx rfl (hb hby at_397) rfl (XS.iload X.here hx rfl (hb hby at_398) rfl k)))))) ?_
     obtain ⟨v1049, T1049, L1049, X1049, hQ1049, st1049⟩ := callSt X hx hZ (y := y_57) hown (ww hw 222 rfl) (ww hw 223 rfl) (ww hw 4 rfl) (ww hw 224 rfl) (by decide) (backOf (W := 0) (rmAt l Z a0 hw [] m__1014 ((lp + (9 : Int32)) + (1 : Int32)) cv tm_1014 cdm_1014 TT (cs_1005.length + 10) G1 fm T1014.heap n0 (Nat.le_trans Z0 K1016.1) hms (own_TQ1 q1005_2 q1009_2 hc1047).1 (by rw [hTT]; exact (own_TQ1 q1005_2 q1009_2 hc1047).2.1) hTl (by rw [hTT]; exact (own_TQ1 q1005_2 q1009_2 hc1047).2.2) hfm hp2 hp0 hG1 hp4 hp5 hp6 O1022) hZ (ww hw 224 rfl) (ww hw 4 rfl) (by decide) (by decide)) (g := (mkF m 400 #[si p1, si p2, si p3, si ca, si cb, si cu, si cv, si lp, si lu, sr x_1005, sr x_1009, sr f_1014, sr m__1014, si 1, si lp, si (lp + (9 : Int32))] [(.int cv), (.int ((lp + (9 : Int32)) + (1 : Int32))), (.ref m__1014)])) rfl (by rw [hml]; rfl) (kc := 0) (ks := 0) (argsL := [(.ref m__1014), (.int ((lp + (9 : Int32)) + (1 : Int32))), (.int cv)]) (rest := []) (lenOf pd_40 rfl) rfl (mr0 rfl) (hb hby at_400) eT (by decide) (by decide)
     obtain ⟨rfl, N1049q, e1049⟩ := hQ1049
     have N1049 := Fr.app N N1049q
     refine go (S' := T1049.setTop (mkF m 403 #[si p1, si p2, si p3, si ca, si cb, si cu, si cv, si lp, si lu, sr x_1005, sr x_1009, sr f_1014, sr m__1014, si 1, si lp, si (lp + (9 : Int32))] [(.int 1)])) st1049 ?_
     have hc1050 : ¬ ((1 : Int32) = (0 : Int32)) := by decide
     refine go (S' := T1049.setTop (mkF m 413 #[si p1, si p2, si p3, si ca, si cb, si cu, si cv, si lp, si lu, sr x_1005, sr x_1009, sr f_1014, sr m__1014, si 1, si lp, si (lp + (9 : Int32))] [])) (fun t k => XS.ifNo X1049.here hx rfl (hb hby at_403) rfl ((if0 _ _).trans (feq hc1050).1) (XS.iconst X1049.here hx rfl (hb hby at_406) (XS.goto X1049.here hx rfl (pc0 := 407) (pc' := 411) rfl (hb hby at_407) (by decide) (by decide) (XS.istore X1049.here hx rfl (hb hby at_411) rfl (l' := #[si p1, si p2, si p3, si ca, si cb, si cu, si cv, si lp, si lu, sr x_1005, sr x_1009, sr f_1014, sr m__1014, si 1, si lp, si (lp + (9 : Int32))]) rfl k)))) ?_
     exact t4 _ _ X1049 e1049 N1049
   refine go (S' := T1042.setTop (mkF m 354 #[si p1, si p2, si p3, si ca, si cb, si cu, si cv, si lp, si lu, sr x_1005, sr x_1009, sr f_1014, sr m__1014, si 1, si lp, si (lp + (9 : Int32))] [(.int 1), (.int lu)])) (fun t k => XS.iload X1042.here hx rfl (hb hby at_351) rfl (XS.iconst X1042.here hx rfl (hb hby at_353) k)) ?_
   by_cases hc1051 : lu < (1 : Int32)
   ·
    refine go (S' := T1042.setTop (mkF m 381 #[si p1, si p2, si p3, si ca, si cb, si cu, si cv, si lp, si lu, sr x_1005, sr x_1009, sr f_1014, sr m__1014, si 1, si lp, si (lp + (9 : Int32))] [])) (fun t k => XS.icmpYes X1042.here hx rfl (pc0 := 354) (pc' := 381) rfl (hb hby at_354) rfl (tlt hc1051).1 (by decide) (by decide) k) ?_
    exact t3 _ _ X1042 e1042 N1042
   ·
    refine go (S' := T1042.setTop (mkF m 359 #[si p1, si p2, si p3, si ca, si cb, si cu, si cv, si lp, si lu, sr x_1005, sr x_1009, sr f_1014, sr m__1014, si 1, si lp, si (lp + (9 : Int32))] [(.int 1)])) (fun t k => XS.icmpNo X1042.here hx rfl (hb hby at_354) rfl (flt hc1051).1 (XS.iload X1042.here hx rfl (hb hby at_357) rfl k)) ?_
    have hc1052 : ¬ ((1 : Int32) = (0 : Int32)) := by decide
    refine go (S' := T1042.setTop (mkF m 368 #[si p1, si p2, si p3, si ca, si cb, si cu, si cv, si lp, si lu, sr x_1005, sr x_1009, sr f_1014, sr m__1014, si 1, si lp, si (lp + (9 : Int32))] [(.int cu), (.int (lp + (9 : Int32))), (.ref m__1014)])) (fun t k => XS.ifNo X1042.here hx rfl (hb hby at_359) rfl ((if0 _ _).trans (feq hc1052).1) (XS.aload X1042.here hx rfl (hb hby at_362) rfl rfl (XS.iload X1042.here hx rfl (hb hby at_364) rfl (XS.iload X1042.here hx rfl (hb hby at_366) rfl k)))) ?_
    obtain ⟨v1053, T1053, L1053, X1053, hQ1053, st1053⟩ := callSt X1042 hx hZ (y := y_57) hown (ww hw 222 rfl) (ww hw 223 rfl) (ww hw 4 rfl) (ww hw 224 rfl) (by decide) (backOf (W := 0) (rmAt l Z a0 hw [] m__1014 (lp + (9 : Int32)) cu tm_1014 cdm_1014 TT (cs_1005.length + 9) G1 fm T1014.heap n0 (Nat.le_trans Z0 K1016.1) hms (own_TQ0 q1005_2 q1009_2 hc1051).1 (by rw [hTT]; exact (own_TQ0 q1005_2 q1009_2 hc1051).2.1) hTl (by rw [hTT]; exact (own_TQ0 q1005_2 q1009_2 hc1051).2.2) hfm hp2 hp0 hG1 hp4 hp5 hp6 O1022) hZ (ww hw 224 rfl) (ww hw 4 rfl) (by decide) (by decide)) (g := (mkF m 368 #[si p1, si p2, si p3, si ca, si cb, si cu, si cv, si lp, si lu, sr x_1005, sr x_1009, sr f_1014, sr m__1014, si 1, si lp, si (lp + (9 : Int32))] [(.int cu), (.int (lp + (9 : Int32))), (.ref m__1014)])) rfl (by rw [hml]; rfl) (kc := 0) (ks := 0) (argsL := [(.ref m__1014), (.int (lp + (9 : Int32))), (.int cu)]) (rest := []) (lenOf pd_40 rfl) rfl (mr0 rfl) (hb hby at_368) e1042 (by decide) (by decide)
    obtain ⟨rfl, N1053q, e1053⟩ := hQ1053
    have N1053 := Fr.app N1042 N1053q
    refine go (S' := T1053.setTop (mkF m 371 #[si p1, si p2, si p3, si ca, si cb, si cu, si cv, si lp, si lu, sr x_1005, sr x_1009, sr f_1014, sr m__1014, si 1, si lp, si (lp + (9 : Int32))] [(.int 1)])) st1053 ?_
    have hc1054 : ¬ ((1 : Int32) = (0 : Int32)) := by decide
    refine go (S' := T1053.setTop (mkF m 381 #[si p1, si p2, si p3, si ca, si cb, si cu, si cv, si lp, si lu, sr x_1005, sr x_1009, sr f_1014, sr m__1014, si 1, si lp, si (lp + (9 : Int32))] [])) (fun t k => XS.ifNo X1053.here hx rfl (hb hby at_371) rfl ((if0 _ _).trans (feq hc1054).1) (XS.iconst X1053.here hx rfl (hb hby at_374) (XS.goto X1053.here hx rfl (pc0 := 375) (pc' := 379) rfl (hb hby at_375) (by decide) (by decide) (XS.istore X1053.here hx rfl (hb hby at_379) rfl (l' := #[si p1, si p2, si p3, si ca, si cb, si cu, si cv, si lp, si lu, sr x_1005, sr x_1009, sr f_1014, sr m__1014, si 1, si lp, si (lp + (9 : Int32))]) rfl k)))) ?_
    exact t3 _ _ X1053 e1053 N1053
  refine go (S' := T.setTop (mkF m 175 #[si p1, si p2, si p3, si ca, si cb, si cu, si cv, si lp, si lu, sr x_1005, sr x_1009, sr f_1014, sr m__1014, si 1, un, un] [(.int 2), (.int lp)])) (fun t k => XS.iload X.here hx rfl (hb hby at_172) rfl (XS.iconst X.here hx rfl (hb hby at_174) k)) ?_
  by_cases hc1055 : lp < (2 : Int32)
  ·
   refine go (S' := T.setTop (mkF m 201 #[si p1, si p2, si p3, si ca, si cb, si cu, si cv, si lp, si lu, sr x_1005, sr x_1009, sr f_1014, sr m__1014, si 1, un, un] [])) (fun t k => XS.icmpYes X.here hx rfl (pc0 := 175) (pc' := 201) rfl (hb hby at_175) rfl (tlt hc1055).1 (by decide) (by decide) k) ?_
   exact t2 _ _ X eT N
  ·
   refine go (S' := T.setTop (mkF m 180 #[si p1, si p2, si p3, si ca, si cb, si cu, si cv, si lp, si lu, sr x_1005, sr x_1009, sr f_1014, sr m__1014, si 1, un, un] [(.int 1)])) (fun t k => XS.icmpNo X.here hx rfl (hb hby at_175) rfl (flt hc1055).1 (XS.iload X.here hx rfl (hb hby at_178) rfl k)) ?_
   have hc1056 : ¬ ((1 : Int32) = (0 : Int32)) := by decide
   refine go (S' := T.setTop (mkF m 188 #[si p1, si p2, si p3, si ca, si cb, si cu, si cv, si lp, si lu, sr x_1005, sr x_1009, sr f_1014, sr m__1014, si 1, un, un] [(.int cb), (.int 1), (.ref m__1014)])) (fun t k => XS.ifNo X.here hx rfl (hb hby at_180) rfl ((if0 _ _).trans (feq hc1056).1) (XS.aload X.here hx rfl (hb hby at_183) rfl rfl (XS.iconst X.here hx rfl (hb hby at_185) (XS.iload X.here hx rfl (hb hby at_186) rfl k)))) ?_
   obtain ⟨v1057, T1057, L1057, X1057, hQ1057, st1057⟩ := callSt X hx hZ (y := y_57) hown (ww hw 222 rfl) (ww hw 223 rfl) (ww hw 4 rfl) (ww hw 224 rfl) (by decide) (backOf (W := 0) (rmAt l Z a0 hw [] m__1014 (1 : Int32) cb tm_1014 cdm_1014 TT 1 G1 fm T1014.heap n0 (Nat.le_trans Z0 K1016.1) hms (own_TA1 q1005_2 q1009_2 hc1055).1 (by rw [hTT]; exact (own_TA1 q1005_2 q1009_2 hc1055).2.1) hTl (by rw [hTT]; exact (own_TA1 q1005_2 q1009_2 hc1055).2.2) hfm hp2 hp0 hG1 hp4 hp5 hp6 O1022) hZ (ww hw 224 rfl) (ww hw 4 rfl) (by decide) (by decide)) (g := (mkF m 188 #[si p1, si p2, si p3, si ca, si cb, si cu, si cv, si lp, si lu, sr x_1005, sr x_1009, sr f_1014, sr m__1014, si 1, un, un] [(.int cb), (.int 1), (.ref m__1014)])) rfl (by rw [hml]; rfl) (kc := 0) (ks := 0) (argsL := [(.ref m__1014), (.int 1), (.int cb)]) (rest := []) (lenOf pd_40 rfl) rfl (mr0 rfl) (hb hby at_188) eT (by decide) (by decide)
   obtain ⟨rfl, N1057q, e1057⟩ := hQ1057
   have N1057 := Fr.app N N1057q
   refine go (S' := T1057.setTop (mkF m 191 #[si p1, si p2, si p3, si ca, si cb, si cu, si cv, si lp, si lu, sr x_1005, sr x_1009, sr f_1014, sr m__1014, si 1, un, un] [(.int 1)])) st1057 ?_
   have hc1058 : ¬ ((1 : Int32) = (0 : Int32)) := by decide
   refine go (S' := T1057.setTop (mkF m 201 #[si p1, si p2, si p3, si ca, si cb, si cu, si cv, si lp, si lu, sr x_1005, sr x_1009, sr f_1014, sr m__1014, si 1, un, un] [])) (fun t k => XS.ifNo X1057.here hx rfl (hb hby at_191) rfl ((if0 _ _).trans (feq hc1058).1) (XS.iconst X1057.here hx rfl (hb hby at_194) (XS.goto X1057.here hx rfl (pc0 := 195) (pc' := 199) rfl (hb hby at_195) (by decide) (by decide) (XS.istore X1057.here hx rfl (hb hby at_199) rfl (l' := #[si p1, si p2, si p3, si ca, si cb, si cu, si cv, si lp, si lu, sr x_1005, sr x_1009, sr f_1014, sr m__1014, si 1, un, un]) rfl k)))) ?_
   exact t2 _ _ X1057 e1057 N1057
 refine go (S' := T1024.setTop (mkF m 147 #[si p1, si p2, si p3, si ca, si cb, si cu, si cv, si lp, si lu, sr x_1005, sr x_1009, sr f_1014, sr m__1014, si 1, un, un] [(.int 1), (.int lp)])) (fun t k => XS.iload X1024.here hx rfl (hb hby at_144) rfl (XS.iconst X1024.here hx rfl (hb hby at_146) k)) ?_
 by_cases hc1059 : lp < (1 : Int32)
 ·
  refine go (S' := T1024.setTop (mkF m 172 #[si p1, si p2, si p3, si ca, si cb, si cu, si cv, si lp, si lu, sr x_1005, sr x_1009, sr f_1014, sr m__1014, si 1, un, un] [])) (fun t k => XS.icmpYes X1024.here hx rfl (pc0 := 147) (pc' := 172) rfl (hb hby at_147) rfl (tlt hc1059).1 (by decide) (by decide) k) ?_
  exact t1 _ _ X1024 e1024 N1024
 ·
  refine go (S' := T1024.setTop (mkF m 152 #[si p1, si p2, si p3, si ca, si cb, si cu, si cv, si lp, si lu, sr x_1005, sr x_1009, sr f_1014, sr m__1014, si 1, un, un] [(.int 1)])) (fun t k => XS.icmpNo X1024.here hx rfl (hb hby at_147) rfl (flt hc1059).1 (XS.iload X1024.here hx rfl (hb hby at_150) rfl k)) ?_
  have hc1060 : ¬ ((1 : Int32) = (0 : Int32)) := by decide
  refine go (S' := T1024.setTop (mkF m 159 #[si p1, si p2, si p3, si ca, si cb, si cu, si cv, si lp, si lu, sr x_1005, sr x_1009, sr f_1014, sr m__1014, si 1, un, un] [(.int ca), (.int 0), (.ref m__1014)])) (fun t k => XS.ifNo X1024.here hx rfl (hb hby at_152) rfl ((if0 _ _).trans (feq hc1060).1) (XS.aload X1024.here hx rfl (hb hby at_155) rfl rfl (XS.iconst X1024.here hx rfl (hb hby at_157) (XS.iloadN X1024.here hx rfl (hb hby at_158) rfl k)))) ?_
  obtain ⟨v1061, T1061, L1061, X1061, hQ1061, st1061⟩ := callSt X1024 hx hZ (y := y_57) hown (ww hw 222 rfl) (ww hw 223 rfl) (ww hw 4 rfl) (ww hw 224 rfl) (by decide) (backOf (W := 0) (rmAt l Z a0 hw [] m__1014 (0 : Int32) ca tm_1014 cdm_1014 TT 0 G1 fm T1014.heap n0 (Nat.le_trans Z0 K1016.1) hms (own_TA0 q1005_2 q1009_2 hc1059).1 (by rw [hTT]; exact (own_TA0 q1005_2 q1009_2 hc1059).2.1) hTl (by rw [hTT]; exact (own_TA0 q1005_2 q1009_2 hc1059).2.2) hfm hp2 hp0 hG1 hp4 hp5 hp6 O1022) hZ (ww hw 224 rfl) (ww hw 4 rfl) (by decide) (by decide)) (g := (mkF m 159 #[si p1, si p2, si p3, si ca, si cb, si cu, si cv, si lp, si lu, sr x_1005, sr x_1009, sr f_1014, sr m__1014, si 1, un, un] [(.int ca), (.int 0), (.ref m__1014)])) rfl (by rw [hml]; rfl) (kc := 0) (ks := 0) (argsL := [(.ref m__1014), (.int 0), (.int ca)]) (rest := []) (lenOf pd_40 rfl) rfl (mr0 rfl) (hb hby at_159) e1024 (by decide) (by decide)
  obtain ⟨rfl, N1061q, e1061⟩ := hQ1061
  have N1061 := Fr.app N1024 N1061q
  refine go (S' := T1061.setTop (mkF m 162 #[si p1, si p2, si p3, si ca, si cb, si cu, si cv, si lp, si lu, sr x_1005, sr x_1009, sr f_1014, sr m__1014, si 1, un, un] [(.int 1)])) st1061 ?_
  have hc1062 : ¬ ((1 : Int32) = (0 : Int32)) := by decide
  refine go (S' := T1061.setTop (mkF m 172 #[si p1, si p2, si p3, si ca, si cb, si cu, si cv, si lp, si lu, sr x_1005, sr x_1009, sr f_1014, sr m__1014, si 1, un, un] [])) (fun t k => XS.ifNo X1061.here hx rfl (hb hby at_162) rfl ((if0 _ _).trans (feq hc1062).1) (XS.iconst X1061.here hx rfl (hb hby at_165) (XS.goto X1061.here hx rfl (pc0 := 166) (pc' := 170) rfl (hb hby at_166) (by decide) (by decide) (XS.istore X1061.here hx rfl (hb hby at_170) rfl (l' := #[si p1, si p2, si p3, si ca, si cb, si cu, si cv, si lp, si lu, sr x_1005, sr x_1009, sr f_1014, sr m__1014, si 1, un, un]) rfl k)))) ?_
  exact t1 _ _ X1061 e1061 N1061
set_option maxRecDepth 65536 in
set_option maxHeartbeats 40000000 in
theorem comes_1 {Post : Tables → Env → Array Value → State → Outcome → State → Prop} (hpost : ∀ tb e args s v u, (limb_1_1.after args s (.returned v) u = true ∧ limb_1_2.after args s (.returned v) u = true ∧ True) → ReturnedEndW s (.returned v) u (Jvm.fieldLocs frame_1_writes args s ++ Jvm.arrayLocs frame_1_arrays args s ++ Jvm.staticLocs frame_1_statics s) 48 8896 → Post tb e args s (.returned v) u) :
    ArmFor flags0 classFile x code maxLocals ret World_1 tables_1 room_1 Calls_1 rest_1 Pre_1 Post := by
  intro l hfl _ _ p e ha hc hk s m args below hf hA hF happ hP
  obtain ⟨hcalls, hrest, hpre⟩ := hP
  obtain ⟨-, -, -, hnamed, -, -, -, hat⟩ := (Spec.applies_iff hf).mp happ
  obtain ⟨hg, hn⟩ := and_e (Cond.before_iff.mp (show (Jvm.Cond.and given_1 narrow_1).before args s = true from hpre))
  obtain ⟨hcount, hg0⟩ := and_e hg
  obtain ⟨ha0, hg1⟩ := and_e hg0
  obtain ⟨ha1, hg2⟩ := and_e hg1
  have ha2 := hg2
  obtain ⟨w0, w1, w2, rfl⟩ : ∃ w0 w1 w2 : Value, args = #[w0, w1, w2] := by
    have hs : args.size = 3 := by simpa [Cond.value, given_1] using hcount
    obtain ⟨L⟩ := args
    match L, hs with
    | [w0, w1, w2], _ => exact ⟨w0, w1, w2, rfl⟩
  have hw := fun d (hd : d ∈ tables_1) => atoms_spec (ws := Jvm.Cond.code x code maxLocals ret :: tables_1) hat d (List.mem_cons_of_mem _ hd)
  obtain ⟨hsets, hown0⟩ := atoms_of _ (rest_1_c_eq ▸ (show rest_1_c.before _ s = true from hrest))
  obtain ⟨i0, ei0⟩ := is_v ha0
  obtain rfl : w0 = (.int i0) := Option.some.inj ei0
  obtain ⟨i1, ei1⟩ := is_v ha1
  obtain rfl : w1 = (.int i1) := Option.some.inj ei1
  obtain ⟨i2, ei2⟩ := is_v ha2
  obtain rfl : w2 = (.int i2) := Option.some.inj ei2
  have hn_0 := hn
  obtain ⟨g1063, eg1063⟩ := is_v (Cond.before_iff.mp (hsets _ (List.mem_of_getElem? (i := 1) rfl)))
  have sg1063 : Sta s s.heap "java/lang/String" "COMPACT_STRINGS" "Z" (.int g1063) := Sta.start eg1063 (Or.inl (hsets _ (List.mem_of_getElem? (i := 0) rfl)))
  obtain ⟨g1064, eg1064, rg1064⟩ := isR_v (Cond.before_iff.mp (hsets _ (List.mem_of_getElem? (i := 8) rfl)))
  have sg1064 : Sta s s.heap "jdk/internal/util/Preconditions" "SIOOBE_FORMATTER" "Ljava/util/function/BiFunction;" g1064 := Sta.start eg1064 (Or.inl (hsets _ (List.mem_of_getElem? (i := 7) rfl)))
  have eg1065 := eqInt_v (Cond.before_iff.mp (hsets _ (List.mem_of_getElem? (i := 32) rfl)))
  have sg1065 : Sta s s.heap "java/lang/StringUTF16" "$assertionsDisabled" "Z" (.int 1) := Sta.start eg1065 (Or.inl (hsets _ (List.mem_of_getElem? (i := 31) rfl)))
  have eg1066 := eqInt_v (Cond.before_iff.mp (hsets _ (List.mem_of_getElem? (i := 35) rfl)))
  have sg1066 : Sta s s.heap "java/lang/StringUTF16" "HI_BYTE_SHIFT" "I" (.int 0) := Sta.start eg1066 (Or.inl (hsets _ (List.mem_of_getElem? (i := 34) rfl)))
  have eg1067 := eqInt_v (Cond.before_iff.mp (hsets _ (List.mem_of_getElem? (i := 38) rfl)))
  have sg1067 : Sta s s.heap "java/lang/StringUTF16" "LO_BYTE_SHIFT" "I" (.int 8) := Sta.start eg1067 (Or.inl (hsets _ (List.mem_of_getElem? (i := 37) rfl)))
  obtain ⟨g1068, eg1068, rg1068⟩ := isR_v (Cond.before_iff.mp (hsets _ (List.mem_of_getElem? (i := 16) rfl)))
  have sg1068 : Sta s s.heap "java/lang/Throwable" "UNASSIGNED_STACK" "[Ljava/lang/StackTraceElement;" g1068 := Sta.start eg1068 (Or.inl (hsets _ (List.mem_of_getElem? (i := 15) rfl)))
  obtain ⟨g1069, eg1069, rg1069⟩ := isR_v (Cond.before_iff.mp (hsets _ (List.mem_of_getElem? (i := 21) rfl)))
  have sg1069 : Sta s s.heap "java/lang/Throwable" "SUPPRESSED_SENTINEL" "Ljava/util/List;" g1069 := Sta.start eg1069 (Or.inl (hsets _ (List.mem_of_getElem? (i := 20) rfl)))
  have c1070 : ¬ (g1063 = (0 : Int32)) := gotF (Cond.eq_ints eg1063 (Term.int_eval (0))) (not_v (Cond.before_iff.mp (hsets _ (List.mem_of_getElem? (i := 2) rfl))))
  obtain ⟨uua, euua⟩ := arr_v (Cond.before_iff.mp (hsets _ (List.mem_of_getElem? (i := 17) rfl)))
  have hCH : CHv s consts_1 s.vm s.heap := CHv.start (own_EW hw) (fun p hp => hcalls.2.2.1 p hp) (show Jvm.Lit.compactW.before _ s = true from hsets _ (List.mem_of_getElem? (i := 2) rfl)) (ww hw 25 rfl) (ww hw 7 rfl)
  obtain ⟨n, o, h1, h2, h3, _, L, rfl, ⟨rfl, N, -⟩, -, hq⟩ := rmLaw l s _ hw tables_1 i0 i1 i2 g1063 g1064 g1068 g1069 s.heap s.heap.size (Nat.le_refl _) sg1063 c1070 sg1064 rg1064 sg1065 sg1066 sg1067 (show (!l.flags.contains Jvm.noTraceFlag) = true by rw [hfl]; decide) sg1068 sg1069 rg1068 rg1069 (by rw [Option.some.inj (eg1068.symm.trans euua)]; exact nofun) (Old.start s) p e ha hc hk s m _ below hf ((Spec.applies_iff_loose hf).mp happ).1 ⟨rfl, State.Warmed39.refl s, rfl, hCH, all0⟩ ⟨MethodsKnown_of_tablesKnown hcalls.2.1, FramesKnown_of_framesKnown hcalls.1 hf⟩
  refine ⟨n, _, h1, h2, h3, hpost _ _ _ _ _ _ ⟨Cond.after_iff.mpr rfl, Cond.after_iff.mpr (eq_i res_at (Term.int_eval (1)) rfl), trivial⟩ ⟨hq.1, hq.2.1, hq.2.2.1, (hq.2.2.2.sift fun y hy => Or.inr (N y hy)).mono (by decide) (by decide)⟩⟩
theorem main_1_1 : Claimed_1_1 := comes_1 fun _ _ _ _ _ _ h hF => ⟨h.1, hF⟩
theorem main_1_2 : Claimed_1_2 := comes_1 fun _ _ _ _ _ _ h hF => ⟨h.2.1, hF⟩
end Jvm.Pilot.@@N@@
namespace Jvm.Pilot.@@N@@
open Jvm Jvm.ClassFile Sem Op Lib Jvm.Free Jvm.Stand Jvm.Pilot.@@N@@.Jvm.D
/-! MADE BY PROGRAM (witnessworld.py) out of the Statement's table words and the real class files: 41 classes; the members and pool entries that the words name. The judged class is class 1, her method 3. -/
namespace start1
open Jvm.ClassFile
def u (s : String) : CpInfo := .utf8 (stringToUtf16 s)
/-- a pool by its gaps: so many unusable entries, then the entry; so many at the end -/
def gap : Nat → List CpInfo → List CpInfo
  | 0, r => r
  | n + 1, r => .unusable :: gap n r
def poolList (es : List (Nat × CpInfo)) (last : Nat) : List CpInfo := es.foldr (fun e r => gap e.1 (e.2 :: r)) (gap last [])
def pool (es : List (Nat × CpInfo)) (last : Nat) : Array CpInfo := ⟨poolList es last⟩
def fileOf (pool : Array CpInfo) (this : Nat) (attrs : Array Attribute := #[]) (ms : Array MethodInfo := #[]) (fl : Nat := 33) (sup : Nat := 0) (ifs : Array Nat := #[]) (fds : Array FieldInfo := #[]) : ClassFile where
  minorVersion := 0
  majorVersion := 65
  constantPool := pool
  accessFlags := fl
  thisClass := this
  superClass := sup
  interfaces := ifs
  fields := fds
  methods := ms
  attributes := attrs
def plain (name : String) (sup : Option ClassId) : Class where
  name := name
  kind := .ordinary
  loader := none
  accessFlags := 33
  super := sup
  interfaces := #[]
  cf := none
  fields := #[]
  methods := #[]
  instanceTypes := #[]
  staticTypes := #[]
  resolved := #[]
  callSites := []
  init := .initialized
  statics := none
  mirror := none

def pool0 : Array CpInfo := pool [(5, u "<init>"), (0, u "()V"), (1, .class_ 10), (1, u "java/lang/Object")] 113

def k0c0 : Code := { maxStack := 0, maxLocals := 1, code := object_method_1_code, exceptionTable := #[], attributes := #[] }
def k0m0 : Method := { name := "<init>", desc := "()V", sig := { parameters := [], returnType := none }, accessFlags := 1, code := some k0c0 }
/-- java/lang/Object -/
def k0 : Class := { plain "java/lang/Object" none with
  accessFlags := 33
  interfaces := #[]
  cf := some (fileOf pool0 8 #[] #[{ accessFlags := 1, nameIndex := 5, descriptorIndex := 6, attributes := #[] }] 33 0 #[] #[])
  fields := #[]
  methods := #[k0m0]
  instanceTypes := #[]
  staticTypes := #[]
  resolved := Array.replicate 124 none
  statics := none }

def pool1 : Array CpInfo := pool [(2, .class_ 4), (1, u "java/lang/Object"), (0, u "<init>"), (0, u "()V"), (0, .class_ 8), (0, u "java/lang/String"), (0, .methodref 7 10), (0, .nameAndType 5 11), (0, u "([C)V"), (0, .methodref 7 13), (0, .nameAndType 14 15), (0, u "valueOf"), (0, u "(C)Ljava/lang/String;"), (0, .methodref 7 17), (0, .nameAndType 18 19), (0, u "length"), (0, u "()I"), (0, .methodref 7 21), (0, .nameAndType 22 23), (0, u "charAt"), (0, u "(I)C"), (0, .integer 65535), (0, .integer 2147483647), (0, .methodref 27 28), (0, .class_ 29), (0, .nameAndType 30 31), (0, u "com/example/neti/neti/cli/FailureBadCommandLinePinLaw"), (0, u "str"), (0, u "(ICC)Ljava/lang/String;"), (0, .methodref 33 34), (0, .class_ 35), (0, .nameAndType 36 37), (0, u "com/example/neti/neti/cli/Failure"), (0, u "badCommandLine"), (0, u "(Ljava/lang/String;Ljava/lang/String;)Lcom/example/neti/neti/cli/Failure;"), (0, .methodref 33 39), (0, .nameAndType 40 19), (0, u "status"), (2, .methodref 33 44), (0, .nameAndType 45 46), (0, u "getMessage"), (0, u "()Ljava/lang/String;"), (0, .methodref 27 48), (0, .nameAndType 49 50), (0, u "at"), (0, u "(Ljava/lang/String;IC)Z"), (3, u "law"), (0, u "(III)Z")] 2

def k1m0 : Method := { name := "<init>", desc := "()V", sig := { parameters := [], returnType := none }, accessFlags := 1, code := none }
def k1c1 : Code := { maxStack := 6, maxLocals := 3, code := method_2_code, exceptionTable := #[], attributes := #[] }
def k1m1 : Method := { name := "str", desc := "(ICC)Ljava/lang/String;", sig := { parameters := [.int, .char, .char], returnType := some (.object "java/lang/String") }, accessFlags := 10, code := some k1c1 }
def k1c2 : Code := { maxStack := 2, maxLocals := 3, code := method_3_code, exceptionTable := #[], attributes := #[] }
def k1m2 : Method := { name := "at", desc := "(Ljava/lang/String;IC)Z", sig := { parameters := [(.object "java/lang/String"), .int, .char], returnType := some .boolean }, accessFlags := 10, code := some k1c2 }
def k1c3 : Code := { maxStack := 3, maxLocals := 16, code := code, exceptionTable := #[], attributes := #[] }
def k1m3 : Method := { name := "law", desc := "(III)Z", sig := { parameters := [.int, .int, .int], returnType := some .boolean }, accessFlags := 9, code := some k1c3 }
/-- com/example/neti/neti/cli/FailureBadCommandLinePinLaw -/
def k1 : Class := { plain "com/example/neti/neti/cli/FailureBadCommandLinePinLaw" (some 0) with
  accessFlags := 49
  interfaces := #[]
  cf := some (fileOf pool1 27 #[] #[{ accessFlags := 1, nameIndex := 5, descriptorIndex := 6, attributes := #[] }, { accessFlags := 10, nameIndex := 30, descriptorIndex := 31, attributes := #[] }, { accessFlags := 10, nameIndex := 49, descriptorIndex := 50, attributes := #[] }, { accessFlags := 9, nameIndex := 54, descriptorIndex := 55, attributes := #[] }] 49 2 #[] #[])
  fields := #[]
  methods := #[k1m0, k1m1, k1m2, k1m3]
  instanceTypes := #[]
  staticTypes := #[]
  resolved := Array.replicate 58 none
  statics := none }

def pool2 : Array CpInfo := pool [(1, .class_ 2), (0, u "java/io/Serializable"), (0, .class_ 4), (0, u "java/lang/Object")] 2

/-- java/io/Serializable -/
def k2 : Class := { plain "java/io/Serializable" (some 0) with
  accessFlags := 1537
  interfaces := #[]
  cf := some (fileOf pool2 1 #[] #[] 1537 3 #[] #[])
  fields := #[]
  methods := #[]
  instanceTypes := #[]
  staticTypes := #[]
  resolved := Array.replicate 7 none
  statics := none }

def pool3 : Array CpInfo := pool [(1, .class_ 2), (0, u "java/lang/Comparable"), (0, .class_ 4), (0, u "java/lang/Object")] 7

/-- java/lang/Comparable -/
def k3 : Class := { plain "java/lang/Comparable" (some 0) with
  accessFlags := 1537
  interfaces := #[]
  cf := some (fileOf pool3 1 #[] #[] 1537 3 #[] #[])
  fields := #[]
  methods := #[]
  instanceTypes := #[]
  staticTypes := #[]
  resolved := Array.replicate 12 none
  statics := none }

def pool4 : Array CpInfo := pool [(2, .class_ 4), (1, u "java/lang/CharSequence"), (42, .class_ 48), (0, u "java/lang/CharSequence$1CodePointIterator"), (10, .class_ 60), (0, u "java/lang/CharSequence$1CharIterator"), (5, .class_ 67), (0, u "java/lang/Object")] 63

/-- java/lang/CharSequence -/
def k4 : Class := { plain "java/lang/CharSequence" (some 0) with
  accessFlags := 1537
  interfaces := #[]
  cf := some (fileOf pool4 2 #[.nestMembers #[47, 59]] #[] 1537 66 #[] #[])
  fields := #[]
  methods := #[]
  instanceTypes := #[]
  staticTypes := #[]
  resolved := Array.replicate 131 none
  statics := none }

def pool5 : Array CpInfo := pool [(1, .class_ 2), (0, u "java/lang/constant/Constable"), (0, .class_ 4), (0, u "java/lang/Object")] 6

/-- java/lang/constant/Constable -/
def k5 : Class := { plain "java/lang/constant/Constable" (some 0) with
  accessFlags := 1537
  interfaces := #[]
  cf := some (fileOf pool5 1 #[] #[] 1537 3 #[] #[])
  fields := #[]
  methods := #[]
  instanceTypes := #[]
  staticTypes := #[]
  resolved := Array.replicate 11 none
  statics := none }

def pool6 : Array CpInfo := pool [(1, .class_ 2), (0, u "java/lang/constant/ConstantDesc"), (0, .class_ 4), (0, u "java/lang/Object")] 32

/-- java/lang/constant/ConstantDesc -/
def k6 : Class := { plain "java/lang/constant/ConstantDesc" (some 0) with
  accessFlags := 1537
  interfaces := #[]
  cf := some (fileOf pool6 1 #[] #[] 1537 3 #[] #[])
  fields := #[]
  methods := #[]
  instanceTypes := #[]
  staticTypes := #[]
  resolved := Array.replicate 37 none
  statics := none }

def pool7 : Array CpInfo := pool [(1, .methodref 2 3), (0, .class_ 4), (0, .nameAndType 5 6), (0, u "java/lang/Object"), (0, u "<init>"), (0, u "()V"), (0, .string 8), (0, u ""), (0, .fieldref 10 11), (0, .class_ 12), (0, .nameAndType 13 14), (0, u "java/lang/String"), (0, u "value"), (0, u "[B"), (0, .fieldref 10 16), (0, .nameAndType 17 18), (0, u "coder"), (0, u "B"), (2, u "hash"), (0, u "I"), (2, u "hashIsZero"), (0, u "Z"), (0, .methodref 10 28), (0, .nameAndType 5 29), (0, u "([CIILjava/lang/Void;)V"), (6, u "checkBoundsOffCount"), (0, u "(III)I"), (0, .fieldref 10 39), (0, .nameAndType 40 26), (0, u "COMPACT_STRINGS"), (1, .class_ 44), (1, u "java/lang/StringUTF16"), (0, u "compress"), (1, .methodref 42 48), (0, .nameAndType 49 50), (0, u "coderFromArrayLen"), (0, u "([BI)B"), (2, u "toBytes"), (0, .methodref 55 56), (0, .class_ 57), (0, .nameAndType 58 59), (0, u "java/util/Arrays"), (0, u "copyOfRange"), (0, u "([BII)[B"), (46, .methodref 107 108), (0, .class_ 109), (0, .nameAndType 110 111), (0, u "java/lang/StringLatin1"), (0, u "inflate"), (0, u "([BI[BII)V"), (30, u "()Z"), (34, .methodref 42 178), (0, .nameAndType 45 179), (0, u "([CII)[B"), (13, .class_ 195), (1, u "java/lang/System"), (13, .methodref 10 210), (0, .nameAndType 5 211), (0, u "([BB)V"), (0, .methodref 193 213), (0, .nameAndType 214 215), (0, u "arraycopy"), (0, u "(Ljava/lang/Object;ILjava/lang/Object;II)V"), (118, u "()I"), (0, .methodref 10 336), (0, .nameAndType 17 337), (0, u "()B"), (2, u "()[B"), (22, u "([BI)C"), (5, u "(C)Z"), (21, u "(II)V"), (35, u "(I)C"), (61, .methodref 10 490), (0, .nameAndType 5 491), (0, u "(Ljava/lang/AbstractStringBuilder;Ljava/lang/Void;)V"), (0, .methodref 10 493), (0, .nameAndType 494 142), (0, u "isLatin1"), (0, .methodref 107 496), (0, .nameAndType 497 363), (0, u "charAt"), (0, .methodref 42 496), (2, u "checkIndex"), (4, .nameAndType 507 334), (0, u "length"), (24, u "getBytes"), (16, .methodref 550 506), (0, .class_ 551), (0, u "java/lang/AbstractStringBuilder"), (0, .methodref 550 553), (0, .nameAndType 554 340), (0, u "getValue"), (20, .class_ 576), (0, u "java/lang/CharSequence"), (22, u "CASE_INSENSITIVE_ORDER"), (0, u "Ljava/util/Comparator;"), (181, u "valueOf"), (0, u "(C)Ljava/lang/String;"), (37, u "([BIB)V"), (188, u "([C)V"), (4, .methodref 107 1016), (0, .nameAndType 1017 369), (0, u "canEncode"), (0, .methodref 107 1019), (0, .nameAndType 53 1020), (0, u "(C)[B"), (0, .methodref 42 1019), (25, .methodref 550 493), (0, .fieldref 550 1049), (0, .nameAndType 1050 26), (0, u "maybeLatin1"), (2, .fieldref 1054 1055), (0, .class_ 1056), (0, .nameAndType 1057 1058), (0, u "jdk/internal/util/Preconditions"), (0, u "SIOOBE_FORMATTER"), (0, u "Ljava/util/function/BiFunction;"), (0, .methodref 1054 1060), (0, .nameAndType 501 1061), (0, u "(IILjava/util/function/BiFunction;)I"), (2, u "(IIILjava/util/function/BiFunction;)I"), (0, .methodref 1054 1066), (0, .nameAndType 1067 1064), (0, u "checkFromIndexSize"), (33, u "serialPersistentFields"), (0, u "[Ljava/io/ObjectStreamField;"), (0, .class_ 1104), (0, u "java/lang/String$CaseInsensitiveComparator"), (1, .class_ 1107), (0, u "java/io/Serializable"), (0, .class_ 1109), (0, u "java/lang/Comparable"), (0, .class_ 1111), (0, u "java/lang/constant/Constable"), (0, .class_ 1113), (0, u "java/lang/constant/ConstantDesc"), (2, u "serialVersionUID"), (0, u "J"), (3, u "REPL"), (0, u "C"), (2, u "LATIN1"), (1, u "UTF16"), (105, u "(Ljava/lang/StringBuilder;)V")] 217

def k7m0 : Method := { name := "<init>", desc := "()V", sig := { parameters := [], returnType := none }, accessFlags := 1, code := none }
def k7c1 : Code := { maxStack := 5, maxLocals := 2, code := jdk_42_method_3_code, exceptionTable := #[], attributes := #[] }
def k7m1 : Method := { name := "<init>", desc := "([C)V", sig := { parameters := [(.array .char)], returnType := none }, accessFlags := 1, code := some k7c1 }
def k7c2 : Code := { maxStack := 3, maxLocals := 2, code := jdk_42_method_53_code, exceptionTable := #[], attributes := #[] }
def k7m2 : Method := { name := "<init>", desc := "(Ljava/lang/StringBuilder;)V", sig := { parameters := [(.object "java/lang/StringBuilder")], returnType := none }, accessFlags := 1, code := some k7c2 }
def k7c3 : Code := { maxStack := 2, maxLocals := 1, code := jdk_42_method_54_code, exceptionTable := #[], attributes := #[] }
def k7m3 : Method := { name := "length", desc := "()I", sig := { parameters := [], returnType := some .int }, accessFlags := 1, code := some k7c3 }
def k7c4 : Code := { maxStack := 2, maxLocals := 2, code := jdk_42_method_56_code, exceptionTable := #[], attributes := #[] }
def k7m4 : Method := { name := "charAt", desc := "(I)C", sig := { parameters := [.int], returnType := some .char }, accessFlags := 1, code := some k7c4 }
def k7c5 : Code := { maxStack := 4, maxLocals := 1, code := jdk_42_method_139_code, exceptionTable := #[], attributes := #[] }
def k7m5 : Method := { name := "valueOf", desc := "(C)Ljava/lang/String;", sig := { parameters := [.char], returnType := some (.object "java/lang/String") }, accessFlags := 9, code := some k7c5 }
def k7c6 : Code := { maxStack := 5, maxLocals := 4, code := jdk_42_method_147_code, exceptionTable := #[], attributes := #[] }
def k7m6 : Method := { name := "getBytes", desc := "([BIB)V", sig := { parameters := [(.array .byte), .int, .byte], returnType := none }, accessFlags := 0, code := some k7c6 }
def k7c7 : Code := { maxStack := 4, maxLocals := 6, code := jdk_42_method_149_code, exceptionTable := #[], attributes := #[] }
def k7m7 : Method := { name := "<init>", desc := "([CIILjava/lang/Void;)V", sig := { parameters := [(.array .char), .int, .int, (.object "java/lang/Void")], returnType := none }, accessFlags := 2, code := some k7c7 }
def k7c8 : Code := { maxStack := 5, maxLocals := 5, code := jdk_42_method_150_code, exceptionTable := #[], attributes := #[] }
def k7m8 : Method := { name := "<init>", desc := "(Ljava/lang/AbstractStringBuilder;Ljava/lang/Void;)V", sig := { parameters := [(.object "java/lang/AbstractStringBuilder"), (.object "java/lang/Void")], returnType := none }, accessFlags := 0, code := some k7c8 }
def k7c9 : Code := { maxStack := 2, maxLocals := 3, code := jdk_42_method_151_code, exceptionTable := #[], attributes := #[] }
def k7m9 : Method := { name := "<init>", desc := "([BB)V", sig := { parameters := [(.array .byte), .byte], returnType := none }, accessFlags := 0, code := some k7c9 }
def k7c10 : Code := { maxStack := 1, maxLocals := 1, code := jdk_42_method_152_code, exceptionTable := #[], attributes := #[] }
def k7m10 : Method := { name := "coder", desc := "()B", sig := { parameters := [], returnType := some .byte }, accessFlags := 0, code := some k7c10 }
def k7c11 : Code := { maxStack := 1, maxLocals := 1, code := jdk_42_method_154_code, exceptionTable := #[], attributes := #[] }
def k7m11 : Method := { name := "isLatin1", desc := "()Z", sig := { parameters := [], returnType := some .boolean }, accessFlags := 0, code := some k7c11 }
def k7c12 : Code := { maxStack := 3, maxLocals := 2, code := jdk_42_method_155_code, exceptionTable := #[], attributes := #[] }
def k7m12 : Method := { name := "checkIndex", desc := "(II)V", sig := { parameters := [.int, .int], returnType := none }, accessFlags := 8, code := some k7c12 }
def k7c13 : Code := { maxStack := 4, maxLocals := 3, code := jdk_42_method_157_code, exceptionTable := #[], attributes := #[] }
def k7m13 : Method := { name := "checkBoundsOffCount", desc := "(III)I", sig := { parameters := [.int, .int, .int], returnType := some .int }, accessFlags := 8, code := some k7c13 }
/-- java/lang/String -/
def k7 : Class := { plain "java/lang/String" (some 0) with
  accessFlags := 49
  interfaces := #[2, 3, 4, 5, 6]
  cf := some (fileOf pool7 10 #[.nestMembers #[1103]] #[{ accessFlags := 1, nameIndex := 5, descriptorIndex := 6, attributes := #[] }, { accessFlags := 1, nameIndex := 5, descriptorIndex := 1010, attributes := #[] }, { accessFlags := 1, nameIndex := 5, descriptorIndex := 1233, attributes := #[] }, { accessFlags := 1, nameIndex := 507, descriptorIndex := 334, attributes := #[] }, { accessFlags := 1, nameIndex := 497, descriptorIndex := 427, attributes := #[] }, { accessFlags := 9, nameIndex := 782, descriptorIndex := 783, attributes := #[] }, { accessFlags := 0, nameIndex := 532, descriptorIndex := 821, attributes := #[] }, { accessFlags := 2, nameIndex := 5, descriptorIndex := 29, attributes := #[] }, { accessFlags := 0, nameIndex := 5, descriptorIndex := 491, attributes := #[] }, { accessFlags := 0, nameIndex := 5, descriptorIndex := 211, attributes := #[] }, { accessFlags := 0, nameIndex := 17, descriptorIndex := 337, attributes := #[] }, { accessFlags := 0, nameIndex := 494, descriptorIndex := 142, attributes := #[] }, { accessFlags := 8, nameIndex := 501, descriptorIndex := 391, attributes := #[] }, { accessFlags := 8, nameIndex := 36, descriptorIndex := 37, attributes := #[] }] 49 2 #[1106, 1108, 575, 1110, 1112] #[{ accessFlags := 18, nameIndex := 13, descriptorIndex := 14, attributes := #[] }, { accessFlags := 18, nameIndex := 17, descriptorIndex := 18, attributes := #[] }, { accessFlags := 2, nameIndex := 21, descriptorIndex := 22, attributes := #[] }, { accessFlags := 2, nameIndex := 25, descriptorIndex := 26, attributes := #[] }, { accessFlags := 26, nameIndex := 1116, descriptorIndex := 1117, attributes := #[] }, { accessFlags := 24, nameIndex := 40, descriptorIndex := 26, attributes := #[] }, { accessFlags := 26, nameIndex := 1101, descriptorIndex := 1102, attributes := #[] }, { accessFlags := 26, nameIndex := 1121, descriptorIndex := 1122, attributes := #[] }, { accessFlags := 25, nameIndex := 599, descriptorIndex := 600, attributes := #[] }, { accessFlags := 24, nameIndex := 1125, descriptorIndex := 18, attributes := #[] }, { accessFlags := 24, nameIndex := 1127, descriptorIndex := 18, attributes := #[] }])
  fields := #[{ name := "value", type := (.array .byte), accessFlags := 18, slot := 0, constantValue := 0 }, { name := "coder", type := .byte, accessFlags := 18, slot := 1, constantValue := 0 }, { name := "hash", type := .int, accessFlags := 2, slot := 2, constantValue := 0 }, { name := "hashIsZero", type := .boolean, accessFlags := 2, slot := 3, constantValue := 0 }, { name := "serialVersionUID", type := .long, accessFlags := 26, slot := 0, constantValue := 0 }, { name := "COMPACT_STRINGS", type := .boolean, accessFlags := 24, slot := 1, constantValue := 0 }, { name := "serialPersistentFields", type := (.array (.object "java/io/ObjectStreamField")), accessFlags := 26, slot := 2, constantValue := 0 }, { name := "REPL", type := .char, accessFlags := 26, slot := 3, constantValue := 0 }, { name := "CASE_INSENSITIVE_ORDER", type := (.object "java/util/Comparator"), accessFlags := 25, slot := 4, constantValue := 0 }, { name := "LATIN1", type := .byte, accessFlags := 24, slot := 5, constantValue := 0 }, { name := "UTF16", type := .byte, accessFlags := 24, slot := 6, constantValue := 0 }]
  methods := #[k7m0, k7m1, k7m2, k7m3, k7m4, k7m5, k7m6, k7m7, k7m8, k7m9, k7m10, k7m11, k7m12, k7m13]
  instanceTypes := #[(.array .byte), .byte, .int, .boolean]
  staticTypes := #[.long, .boolean, (.array (.object "java/io/ObjectStreamField")), .char, (.object "java/util/Comparator"), .byte, .byte]
  resolved := Array.replicate 1451 none
  statics := some 0 }

def pool8 : Array CpInfo := pool [(3, .class_ 4), (0, u "java/lang/String"), (1, .class_ 8), (1, u "java/lang/Object"), (0, u "<init>"), (0, u "()V"), (0, .methodref 12 13), (0, .class_ 14), (0, .nameAndType 15 16), (0, u "java/lang/StringUTF16"), (0, u "newBytesLength"), (0, u "(I)I"), (3, .integer 1073741823), (23, .fieldref 12 45), (0, .nameAndType 46 47), (0, u "$assertionsDisabled"), (0, u "Z"), (0, .methodref 12 49), (0, .nameAndType 50 51), (0, u "length"), (0, u "([B)I"), (7, .fieldref 12 60), (0, .nameAndType 61 62), (0, u "HI_BYTE_SHIFT"), (0, u "I"), (0, .fieldref 12 64), (0, .nameAndType 65 62), (0, u "LO_BYTE_SHIFT"), (1, .methodref 12 68), (0, .nameAndType 69 70), (0, u "checkIndex"), (0, u "(I[B)V"), (0, .methodref 12 72), (0, .nameAndType 73 74), (0, u "getChar"), (0, u "([BI)C"), (24, u "(II[B)V"), (7, .methodref 12 108), (0, .nameAndType 109 110), (0, u "newBytesFor"), (0, u "(I)[B"), (0, .methodref 12 112), (0, .nameAndType 113 114), (0, u "putChar"), (0, u "([BII)V"), (0, .methodref 12 116), (0, .nameAndType 117 118), (0, u "compress"), (0, u "([CI[BII)I"), (0, .methodref 12 120), (0, .nameAndType 121 122), (0, u "toBytes"), (0, u "([CII)[B"), (17, u "inflate"), (0, u "([BI[BII)V"), (31, .methodref 12 174), (0, .nameAndType 175 99), (0, u "checkBoundsOffCount"), (85, u "coderFromArrayLen"), (0, u "([BI)B"), (18, u "(III)I"), (87, .class_ 371), (1, u "java/lang/StringUTF16$LinesSpliterator"), (20, u "charAt"), (21, .methodref 3 415), (0, .nameAndType 69 416), (0, u "(II)V"), (2, .methodref 3 420), (0, .nameAndType 175 281), (9, u "MAX_LENGTH"), (44, u "(C)[B"), (151, .class_ 628), (0, u "java/lang/StringUTF16$CodePointsSpliterator"), (0, .class_ 630), (0, u "java/lang/StringUTF16$CharsSpliterator")] 4

def k8m0 : Method := { name := "<init>", desc := "()V", sig := { parameters := [], returnType := none }, accessFlags := 0, code := none }
def k8c1 : Code := { maxStack := 1, maxLocals := 1, code := jdk_52_method_2_code, exceptionTable := #[], attributes := #[] }
def k8m1 : Method := { name := "newBytesFor", desc := "(I)[B", sig := { parameters := [.int], returnType := some (.array .byte) }, accessFlags := 9, code := some k8c1 }
def k8c2 : Code := { maxStack := 4, maxLocals := 1, code := jdk_52_method_3_code, exceptionTable := #[], attributes := #[] }
def k8m2 : Method := { name := "newBytesLength", desc := "(I)I", sig := { parameters := [.int], returnType := some .int }, accessFlags := 9, code := some k8c2 }
def k8c3 : Code := { maxStack := 4, maxLocals := 3, code := jdk_52_method_4_code, exceptionTable := #[], attributes := #[] }
def k8m3 : Method := { name := "putChar", desc := "([BII)V", sig := { parameters := [(.array .byte), .int, .int], returnType := none }, accessFlags := 8, code := some k8c3 }
def k8c4 : Code := { maxStack := 3, maxLocals := 2, code := jdk_52_method_5_code, exceptionTable := #[], attributes := #[] }
def k8m4 : Method := { name := "getChar", desc := "([BI)C", sig := { parameters := [(.array .byte), .int], returnType := some .char }, accessFlags := 8, code := some k8c4 }
def k8c5 : Code := { maxStack := 2, maxLocals := 1, code := jdk_52_method_6_code, exceptionTable := #[], attributes := #[] }
def k8m5 : Method := { name := "length", desc := "([B)I", sig := { parameters := [(.array .byte)], returnType := some .int }, accessFlags := 9, code := some k8c5 }
def k8c6 : Code := { maxStack := 4, maxLocals := 5, code := jdk_52_method_14_code, exceptionTable := #[], attributes := #[] }
def k8m6 : Method := { name := "toBytes", desc := "([CII)[B", sig := { parameters := [(.array .char), .int, .int], returnType := some (.array .byte) }, accessFlags := 9, code := some k8c6 }
def k8c7 : Code := { maxStack := 2, maxLocals := 2, code := jdk_52_method_15_code, exceptionTable := #[], attributes := #[] }
def k8m7 : Method := { name := "coderFromArrayLen", desc := "([BI)B", sig := { parameters := [(.array .byte), .int], returnType := some .byte }, accessFlags := 8, code := some k8c7 }
def k8c8 : Code := { maxStack := 5, maxLocals := 6, code := jdk_52_method_16_code, exceptionTable := #[], attributes := #[] }
def k8m8 : Method := { name := "compress", desc := "([CII)[B", sig := { parameters := [(.array .char), .int, .int], returnType := some (.array .byte) }, accessFlags := 9, code := some k8c8 }
def k8c9 : Code := { maxStack := 3, maxLocals := 7, code := jdk_52_method_21_code, exceptionTable := #[], attributes := #[] }
def k8m9 : Method := { name := "compress", desc := "([CI[BII)I", sig := { parameters := [(.array .char), .int, (.array .byte), .int, .int], returnType := some .int }, accessFlags := 9, code := some k8c9 }
def k8c10 : Code := { maxStack := 3, maxLocals := 2, code := jdk_52_method_24_code, exceptionTable := #[], attributes := #[] }
def k8m10 : Method := { name := "toBytes", desc := "(C)[B", sig := { parameters := [.char], returnType := some (.array .byte) }, accessFlags := 9, code := some k8c10 }
def k8c11 : Code := { maxStack := 2, maxLocals := 2, code := jdk_52_method_83_code, exceptionTable := #[], attributes := #[] }
def k8m11 : Method := { name := "charAt", desc := "([BI)C", sig := { parameters := [(.array .byte), .int], returnType := some .char }, accessFlags := 9, code := some k8c11 }
def k8c12 : Code := { maxStack := 4, maxLocals := 6, code := jdk_52_method_86_code, exceptionTable := #[], attributes := #[] }
def k8m12 : Method := { name := "inflate", desc := "([BI[BII)V", sig := { parameters := [(.array .byte), .int, (.array .byte), .int, .int], returnType := none }, accessFlags := 9, code := some k8c12 }
def k8c13 : Code := { maxStack := 2, maxLocals := 2, code := jdk_52_method_91_code, exceptionTable := #[], attributes := #[] }
def k8m13 : Method := { name := "checkIndex", desc := "(I[B)V", sig := { parameters := [.int, (.array .byte)], returnType := none }, accessFlags := 9, code := some k8c13 }
def k8c14 : Code := { maxStack := 3, maxLocals := 3, code := jdk_52_method_94_code, exceptionTable := #[], attributes := #[] }
def k8m14 : Method := { name := "checkBoundsOffCount", desc := "(II[B)V", sig := { parameters := [.int, .int, (.array .byte)], returnType := none }, accessFlags := 9, code := some k8c14 }
/-- java/lang/StringUTF16 -/
def k8 : Class := { plain "java/lang/StringUTF16" (some 0) with
  accessFlags := 48
  interfaces := #[]
  cf := some (fileOf pool8 12 #[.nestMembers #[627, 629, 369]] #[{ accessFlags := 0, nameIndex := 9, descriptorIndex := 10, attributes := #[] }, { accessFlags := 9, nameIndex := 109, descriptorIndex := 110, attributes := #[] }, { accessFlags := 9, nameIndex := 15, descriptorIndex := 16, attributes := #[] }, { accessFlags := 8, nameIndex := 113, descriptorIndex := 114, attributes := #[] }, { accessFlags := 8, nameIndex := 73, descriptorIndex := 74, attributes := #[] }, { accessFlags := 9, nameIndex := 50, descriptorIndex := 51, attributes := #[] }, { accessFlags := 9, nameIndex := 121, descriptorIndex := 122, attributes := #[] }, { accessFlags := 8, nameIndex := 261, descriptorIndex := 262, attributes := #[] }, { accessFlags := 9, nameIndex := 117, descriptorIndex := 122, attributes := #[] }, { accessFlags := 9, nameIndex := 117, descriptorIndex := 118, attributes := #[] }, { accessFlags := 9, nameIndex := 121, descriptorIndex := 475, attributes := #[] }, { accessFlags := 9, nameIndex := 392, descriptorIndex := 74, attributes := #[] }, { accessFlags := 9, nameIndex := 140, descriptorIndex := 141, attributes := #[] }, { accessFlags := 9, nameIndex := 69, descriptorIndex := 70, attributes := #[] }, { accessFlags := 9, nameIndex := 175, descriptorIndex := 99, attributes := #[] }] 48 6 #[] #[{ accessFlags := 26, nameIndex := 61, descriptorIndex := 62, attributes := #[] }, { accessFlags := 26, nameIndex := 65, descriptorIndex := 62, attributes := #[] }, { accessFlags := 24, nameIndex := 430, descriptorIndex := 62, attributes := #[] }, { accessFlags := 4120, nameIndex := 46, descriptorIndex := 47, attributes := #[] }])
  fields := #[{ name := "HI_BYTE_SHIFT", type := .int, accessFlags := 26, slot := 0, constantValue := 0 }, { name := "LO_BYTE_SHIFT", type := .int, accessFlags := 26, slot := 1, constantValue := 0 }, { name := "MAX_LENGTH", type := .int, accessFlags := 24, slot := 2, constantValue := 0 }, { name := "$assertionsDisabled", type := .boolean, accessFlags := 4120, slot := 3, constantValue := 0 }]
  methods := #[k8m0, k8m1, k8m2, k8m3, k8m4, k8m5, k8m6, k8m7, k8m8, k8m9, k8m10, k8m11, k8m12, k8m13, k8m14]
  instanceTypes := #[]
  staticTypes := #[.int, .int, .int, .boolean]
  resolved := Array.replicate 635 none
  statics := some 1 }

def pool9 : Array CpInfo := pool [(1, .methodref 2 3), (0, .class_ 4), (0, .nameAndType 5 6), (0, u "java/lang/Object"), (0, u "<init>"), (0, u "()V"), (0, .fieldref 8 9), (0, .class_ 10), (0, .nameAndType 11 12), (0, u "java/lang/Throwable"), (0, u "cause"), (0, u "Ljava/lang/Throwable;"), (0, .fieldref 8 14), (0, .nameAndType 15 16), (0, u "UNASSIGNED_STACK"), (0, u "[Ljava/lang/StackTraceElement;"), (0, .fieldref 8 18), (0, .nameAndType 19 16), (0, u "stackTrace"), (0, .fieldref 8 21), (0, .nameAndType 22 23), (0, u "SUPPRESSED_SENTINEL"), (0, u "Ljava/util/List;"), (0, .fieldref 8 25), (0, .nameAndType 26 23), (0, u "suppressedExceptions"), (0, .methodref 8 28), (0, .nameAndType 29 30), (0, u "fillInStackTrace"), (0, u "()Ljava/lang/Throwable;"), (0, .fieldref 8 32), (0, .nameAndType 33 34), (0, u "detailMessage"), (0, u "Ljava/lang/String;"), (3, u "()Ljava/lang/String;"), (2, u "getMessage"), (51, .class_ 94), (0, u "java/lang/Throwable$WrappedPrintStream"), (6, .class_ 103), (1, u "java/lang/Throwable$PrintStreamOrWriter"), (61, u "$assertionsDisabled"), (0, u "Z"), (26, .class_ 194), (0, u "java/lang/Throwable$WrappedPrintWriter"), (3, .fieldref 8 199), (0, .nameAndType 200 201), (0, u "backtrace"), (0, u "Ljava/lang/Object;"), (0, .methodref 8 203), (0, .nameAndType 29 204), (0, u "(I)Ljava/lang/Throwable;"), (6, u "depth"), (0, u "I"), (10, u "(Ljava/lang/String;)V"), (45, .class_ 271), (1, u "java/lang/Throwable$SentinelHolder"), (32, u "EMPTY_THROWABLE_ARRAY"), (0, u "[Ljava/lang/Throwable;"), (12, .class_ 319), (0, u "java/io/Serializable"), (0, u "serialVersionUID"), (0, u "J"), (5, u "NULL_CAUSE_MESSAGE"), (0, u "SELF_SUPPRESSION_MESSAGE"), (0, u "CAUSE_CAPTION"), (0, u "SUPPRESSED_CAPTION")] 73

def k9c0 : Code := { maxStack := 2, maxLocals := 1, code := jdk_78_method_1_code, exceptionTable := #[], attributes := #[] }
def k9m0 : Method := { name := "<init>", desc := "()V", sig := { parameters := [], returnType := none }, accessFlags := 1, code := some k9c0 }
def k9c1 : Code := { maxStack := 2, maxLocals := 2, code := jdk_78_method_2_code, exceptionTable := #[], attributes := #[] }
def k9m1 : Method := { name := "<init>", desc := "(Ljava/lang/String;)V", sig := { parameters := [(.object "java/lang/String")], returnType := none }, accessFlags := 1, code := some k9c1 }
def k9c2 : Code := { maxStack := 1, maxLocals := 1, code := jdk_78_method_6_code, exceptionTable := #[], attributes := #[] }
def k9m2 : Method := { name := "getMessage", desc := "()Ljava/lang/String;", sig := { parameters := [], returnType := some (.object "java/lang/String") }, accessFlags := 1, code := some k9c2 }
def k9c3 : Code := { maxStack := 2, maxLocals := 1, code := ⟨#[0x2a, 0xb4, 0x00, 0x11, 0xc7, 0x00, 0x0a, 0x2a, 0xb4, 0x00, 0xc6, 0xc6, 0x00, 0x10, 0x2a, 0x03, 0xb6, 0x00, 0xca, 0x57, 0x2a, 0xb2, 0x00, 0x0d, 0xb5, 0x00, 0x11, 0x2a, 0xb0]⟩, exceptionTable := #[], attributes := #[] }
def k9m3 : Method := { name := "fillInStackTrace", desc := "()Ljava/lang/Throwable;", sig := { parameters := [], returnType := some (.object "java/lang/Throwable") }, accessFlags := 33, code := some k9c3 }
def k9m4 : Method := { name := "fillInStackTrace", desc := "(I)Ljava/lang/Throwable;", sig := { parameters := [.int], returnType := some (.object "java/lang/Throwable") }, accessFlags := 258, code := none }
/-- java/lang/Throwable -/
def k9 : Class := { plain "java/lang/Throwable" (some 0) with
  accessFlags := 33
  interfaces := #[2]
  cf := some (fileOf pool9 8 #[.nestMembers #[193, 93, 101, 269]] #[{ accessFlags := 1, nameIndex := 5, descriptorIndex := 6, attributes := #[] }, { accessFlags := 1, nameIndex := 5, descriptorIndex := 223, attributes := #[] }, { accessFlags := 1, nameIndex := 41, descriptorIndex := 38, attributes := #[] }, { accessFlags := 33, nameIndex := 29, descriptorIndex := 30, attributes := #[] }, { accessFlags := 258, nameIndex := 29, descriptorIndex := 204, attributes := #[] }] 33 2 #[318] #[{ accessFlags := 26, nameIndex := 320, descriptorIndex := 321, attributes := #[] }, { accessFlags := 130, nameIndex := 200, descriptorIndex := 201, attributes := #[] }, { accessFlags := 2, nameIndex := 33, descriptorIndex := 34, attributes := #[] }, { accessFlags := 26, nameIndex := 15, descriptorIndex := 16, attributes := #[] }, { accessFlags := 2, nameIndex := 11, descriptorIndex := 12, attributes := #[] }, { accessFlags := 2, nameIndex := 19, descriptorIndex := 16, attributes := #[] }, { accessFlags := 130, nameIndex := 211, descriptorIndex := 212, attributes := #[] }, { accessFlags := 26, nameIndex := 22, descriptorIndex := 23, attributes := #[] }, { accessFlags := 2, nameIndex := 26, descriptorIndex := 23, attributes := #[] }, { accessFlags := 26, nameIndex := 327, descriptorIndex := 34, attributes := #[] }, { accessFlags := 26, nameIndex := 328, descriptorIndex := 34, attributes := #[] }, { accessFlags := 26, nameIndex := 329, descriptorIndex := 34, attributes := #[] }, { accessFlags := 26, nameIndex := 330, descriptorIndex := 34, attributes := #[] }, { accessFlags := 26, nameIndex := 304, descriptorIndex := 305, attributes := #[] }, { accessFlags := 4120, nameIndex := 165, descriptorIndex := 166, attributes := #[] }])
  fields := #[{ name := "serialVersionUID", type := .long, accessFlags := 26, slot := 0, constantValue := 0 }, { name := "backtrace", type := (.object "java/lang/Object"), accessFlags := 130, slot := 0, constantValue := 0 }, { name := "detailMessage", type := (.object "java/lang/String"), accessFlags := 2, slot := 1, constantValue := 0 }, { name := "UNASSIGNED_STACK", type := (.array (.object "java/lang/StackTraceElement")), accessFlags := 26, slot := 1, constantValue := 0 }, { name := "cause", type := (.object "java/lang/Throwable"), accessFlags := 2, slot := 2, constantValue := 0 }, { name := "stackTrace", type := (.array (.object "java/lang/StackTraceElement")), accessFlags := 2, slot := 3, constantValue := 0 }, { name := "depth", type := .int, accessFlags := 130, slot := 4, constantValue := 0 }, { name := "SUPPRESSED_SENTINEL", type := (.object "java/util/List"), accessFlags := 26, slot := 2, constantValue := 0 }, { name := "suppressedExceptions", type := (.object "java/util/List"), accessFlags := 2, slot := 5, constantValue := 0 }, { name := "NULL_CAUSE_MESSAGE", type := (.object "java/lang/String"), accessFlags := 26, slot := 3, constantValue := 0 }, { name := "SELF_SUPPRESSION_MESSAGE", type := (.object "java/lang/String"), accessFlags := 26, slot := 4, constantValue := 0 }, { name := "CAUSE_CAPTION", type := (.object "java/lang/String"), accessFlags := 26, slot := 5, constantValue := 0 }, { name := "SUPPRESSED_CAPTION", type := (.object "java/lang/String"), accessFlags := 26, slot := 6, constantValue := 0 }, { name := "EMPTY_THROWABLE_ARRAY", type := (.array (.object "java/lang/Throwable")), accessFlags := 26, slot := 7, constantValue := 0 }, { name := "$assertionsDisabled", type := .boolean, accessFlags := 4120, slot := 8, constantValue := 0 }]
  methods := #[k9m0, k9m1, k9m2, k9m3, k9m4]
  instanceTypes := #[(.object "java/lang/Object"), (.object "java/lang/String"), (.object "java/lang/Throwable"), (.array (.object "java/lang/StackTraceElement")), .int, (.object "java/util/List")]
  staticTypes := #[.long, (.array (.object "java/lang/StackTraceElement")), (.object "java/util/List"), (.object "java/lang/String"), (.object "java/lang/String"), (.object "java/lang/String"), (.object "java/lang/String"), (.array (.object "java/lang/Throwable")), .boolean]
  resolved := Array.replicate 404 none
  statics := some 2 }

def pool10 : Array CpInfo := pool [(2, .class_ 4), (1, u "java/lang/Throwable"), (0, u "<init>"), (0, u "()V"), (0, .methodref 2 8), (0, .nameAndType 5 9), (0, u "(Ljava/lang/String;)V"), (9, .class_ 20), (0, u "java/lang/Exception"), (0, u "serialVersionUID"), (0, u "J")] 17

def k10m0 : Method := { name := "<init>", desc := "()V", sig := { parameters := [], returnType := none }, accessFlags := 1, code := none }
def k10c1 : Code := { maxStack := 2, maxLocals := 2, code := jdk_59_method_2_code, exceptionTable := #[], attributes := #[] }
def k10m1 : Method := { name := "<init>", desc := "(Ljava/lang/String;)V", sig := { parameters := [(.object "java/lang/String")], returnType := none }, accessFlags := 1, code := some k10c1 }
/-- java/lang/Exception -/
def k10 : Class := { plain "java/lang/Exception" (some 9) with
  accessFlags := 33
  interfaces := #[]
  cf := some (fileOf pool10 19 #[] #[{ accessFlags := 1, nameIndex := 5, descriptorIndex := 6, attributes := #[] }, { accessFlags := 1, nameIndex := 5, descriptorIndex := 9, attributes := #[] }] 33 2 #[] #[{ accessFlags := 24, nameIndex := 21, descriptorIndex := 22, attributes := #[] }])
  fields := #[{ name := "serialVersionUID", type := .long, accessFlags := 24, slot := 0, constantValue := 0 }]
  methods := #[k10m0, k10m1]
  instanceTypes := #[(.object "java/lang/Object"), (.object "java/lang/String"), (.object "java/lang/Throwable"), (.array (.object "java/lang/StackTraceElement")), .int, (.object "java/util/List")]
  staticTypes := #[.long]
  resolved := Array.replicate 40 none
  statics := none }

def pool11 : Array CpInfo := pool [(1, .methodref 2 3), (0, .class_ 4), (0, .nameAndType 5 6), (0, u "java/lang/Exception"), (0, u "<init>"), (0, u "(Ljava/lang/String;)V"), (0, .fieldref 8 9), (0, .class_ 10), (0, .nameAndType 11 12), (0, u "com/example/neti/neti/cli/Failure"), (0, u "status"), (0, u "I"), (2, .class_ 16), (0, u "java/lang/StringBuilder"), (0, .methodref 15 18), (0, .nameAndType 5 19), (0, u "()V"), (0, .methodref 15 21), (0, .nameAndType 22 23), (0, u "append"), (0, u "(Ljava/lang/String;)Ljava/lang/StringBuilder;"), (0, .string 25), (0, u " (usage: "), (0, .string 27), (0, u ")"), (0, .methodref 15 29), (0, .nameAndType 30 31), (0, u "toString"), (0, u "()Ljava/lang/String;"), (0, .methodref 8 33), (0, .nameAndType 5 34), (0, u "(ILjava/lang/String;)V"), (8, u "serialVersionUID"), (0, u "J"), (5, u "badCommandLine"), (0, u "(Ljava/lang/String;Ljava/lang/String;)Lcom/example/neti/neti/cli/Failure;"), (2, u "()I")] 2

def k11c0 : Code := { maxStack := 2, maxLocals := 3, code := prog_4_method_1_code, exceptionTable := #[], attributes := #[] }
def k11m0 : Method := { name := "<init>", desc := "(ILjava/lang/String;)V", sig := { parameters := [.int, (.object "java/lang/String")], returnType := none }, accessFlags := 1, code := some k11c0 }
def k11c1 : Code := { maxStack := 5, maxLocals := 2, code := prog_4_method_2_code, exceptionTable := #[], attributes := #[] }
def k11m1 : Method := { name := "badCommandLine", desc := "(Ljava/lang/String;Ljava/lang/String;)Lcom/example/neti/neti/cli/Failure;", sig := { parameters := [(.object "java/lang/String"), (.object "java/lang/String")], returnType := some (.object "com/example/neti/neti/cli/Failure") }, accessFlags := 9, code := some k11c1 }
def k11c2 : Code := { maxStack := 1, maxLocals := 1, code := prog_4_method_4_code, exceptionTable := #[], attributes := #[] }
def k11m2 : Method := { name := "status", desc := "()I", sig := { parameters := [], returnType := some .int }, accessFlags := 1, code := some k11c2 }
/-- com/example/neti/neti/cli/Failure -/
def k11 : Class := { plain "com/example/neti/neti/cli/Failure" (some 10) with
  accessFlags := 33
  interfaces := #[]
  cf := some (fileOf pool11 8 #[] #[{ accessFlags := 1, nameIndex := 5, descriptorIndex := 34, attributes := #[] }, { accessFlags := 9, nameIndex := 50, descriptorIndex := 51, attributes := #[] }, { accessFlags := 1, nameIndex := 11, descriptorIndex := 54, attributes := #[] }] 33 2 #[] #[{ accessFlags := 26, nameIndex := 43, descriptorIndex := 44, attributes := #[] }, { accessFlags := 18, nameIndex := 11, descriptorIndex := 12, attributes := #[] }])
  fields := #[{ name := "serialVersionUID", type := .long, accessFlags := 26, slot := 0, constantValue := 0 }, { name := "status", type := .int, accessFlags := 18, slot := 6, constantValue := 0 }]
  methods := #[k11m0, k11m1, k11m2]
  instanceTypes := #[(.object "java/lang/Object"), (.object "java/lang/String"), (.object "java/lang/Throwable"), (.array (.object "java/lang/StackTraceElement")), .int, (.object "java/util/List"), .int]
  staticTypes := #[.long]
  resolved := Array.replicate 57 none
  statics := none }

def pool12 : Array CpInfo := pool [(1, .class_ 2), (0, u "java/lang/Appendable"), (0, .class_ 4), (0, u "java/lang/Object")] 9

/-- java/lang/Appendable -/
def k12 : Class := { plain "java/lang/Appendable" (some 0) with
  accessFlags := 1537
  interfaces := #[]
  cf := some (fileOf pool12 1 #[] #[] 1537 3 #[] #[])
  fields := #[]
  methods := #[]
  instanceTypes := #[]
  staticTypes := #[]
  resolved := Array.replicate 14 none
  statics := none }

def pool13 : Array CpInfo := pool [(1, .class_ 2), (0, u "java/lang/String"), (0, .methodref 4 5), (0, .class_ 6), (0, .nameAndType 7 8), (0, u "java/lang/Object"), (0, u "<init>"), (0, u "()V"), (1, .class_ 12), (1, u "java/lang/AbstractStringBuilder"), (0, u "EMPTYVALUE"), (0, u "[B"), (0, .fieldref 10 16), (0, .nameAndType 17 14), (0, u "value"), (0, .fieldref 1 19), (0, .nameAndType 20 21), (0, u "COMPACT_STRINGS"), (0, u "Z"), (0, .fieldref 10 23), (0, .nameAndType 24 25), (0, u "coder"), (0, u "B"), (0, .methodref 27 28), (0, .class_ 29), (0, .nameAndType 30 31), (0, u "java/lang/StringUTF16"), (0, u "newBytesFor"), (0, u "(I)[B"), (0, .methodref 1 33), (0, .nameAndType 34 35), (0, u "length"), (0, u "()I"), (4, .methodref 1 41), (0, .nameAndType 24 42), (0, u "()B"), (2, u "append"), (0, u "(Ljava/lang/String;)Ljava/lang/AbstractStringBuilder;"), (1, .class_ 49), (0, u "java/lang/CharSequence"), (19, u "(Ljava/lang/String;)V"), (5, u "maybeLatin1"), (3, .fieldref 10 80), (0, .nameAndType 81 82), (0, u "count"), (0, u "I"), (0, .methodref 10 84), (0, .nameAndType 85 86), (0, u "isLatin1"), (0, u "()Z"), (1, .class_ 90), (1, u "java/lang/StringLatin1"), (9, .methodref 10 101), (0, .nameAndType 102 103), (0, u "ensureCapacityInternal"), (0, u "(I)V"), (21, .methodref 88 126), (0, .nameAndType 127 128), (0, u "inflate"), (0, u "([BI[BII)V"), (66, .methodref 10 196), (0, .nameAndType 127 8), (11, .methodref 10 209), (0, .nameAndType 210 211), (0, u "putStringAt"), (0, u "(ILjava/lang/String;)V"), (5, u "inflateIfNeededFor"), (2, .nameAndType 221 222), (0, u "getBytes"), (0, u "([BIB)V"), (174, .methodref 10 398), (0, .nameAndType 217 69), (0, .methodref 1 220), (3, u "()[B"), (40, .class_ 445), (0, u "java/lang/Appendable"), (106, u "getValue")] 56

def k13m0 : Method := { name := "<init>", desc := "()V", sig := { parameters := [], returnType := none }, accessFlags := 0, code := none }
def k13c1 : Code := { maxStack := 2, maxLocals := 2, code := jdk_68_method_2_code, exceptionTable := #[], attributes := #[] }
def k13m1 : Method := { name := "<init>", desc := "(I)V", sig := { parameters := [.int], returnType := none }, accessFlags := 0, code := some k13c1 }
def k13c2 : Code := { maxStack := 1, maxLocals := 1, code := jdk_68_method_6_code, exceptionTable := #[], attributes := #[] }
def k13m2 : Method := { name := "length", desc := "()I", sig := { parameters := [], returnType := some .int }, accessFlags := 1, code := some k13c2 }
def k13c3 : Code := { maxStack := 4, maxLocals := 3, code := jdk_68_method_9_code, exceptionTable := #[], attributes := #[] }
def k13m3 : Method := { name := "ensureCapacityInternal", desc := "(I)V", sig := { parameters := [.int], returnType := none }, accessFlags := 2, code := some k13c3 }
def k13c4 : Code := { maxStack := 5, maxLocals := 2, code := jdk_68_method_11_code, exceptionTable := #[], attributes := #[] }
def k13m4 : Method := { name := "inflate", desc := "()V", sig := { parameters := [], returnType := none }, accessFlags := 2, code := some k13c4 }
def k13c5 : Code := { maxStack := 3, maxLocals := 3, code := jdk_68_method_22_code, exceptionTable := #[], attributes := #[] }
def k13m5 : Method := { name := "append", desc := "(Ljava/lang/String;)Ljava/lang/AbstractStringBuilder;", sig := { parameters := [(.object "java/lang/String")], returnType := some (.object "java/lang/AbstractStringBuilder") }, accessFlags := 1, code := some k13c5 }
def k13c6 : Code := { maxStack := 1, maxLocals := 1, code := jdk_68_method_64_code, exceptionTable := #[], attributes := #[] }
def k13m6 : Method := { name := "getValue", desc := "()[B", sig := { parameters := [], returnType := some (.array .byte) }, accessFlags := 16, code := some k13c6 }
def k13c7 : Code := { maxStack := 1, maxLocals := 1, code := jdk_68_method_68_code, exceptionTable := #[], attributes := #[] }
def k13m7 : Method := { name := "isLatin1", desc := "()Z", sig := { parameters := [], returnType := some .boolean }, accessFlags := 16, code := some k13c7 }
def k13c8 : Code := { maxStack := 2, maxLocals := 2, code := jdk_68_method_71_code, exceptionTable := #[], attributes := #[] }
def k13m8 : Method := { name := "inflateIfNeededFor", desc := "(Ljava/lang/String;)V", sig := { parameters := [(.object "java/lang/String")], returnType := none }, accessFlags := 2, code := some k13c8 }
def k13c9 : Code := { maxStack := 4, maxLocals := 3, code := jdk_68_method_73_code, exceptionTable := #[], attributes := #[] }
def k13m9 : Method := { name := "putStringAt", desc := "(ILjava/lang/String;)V", sig := { parameters := [.int, (.object "java/lang/String")], returnType := none }, accessFlags := 2, code := some k13c9 }
/-- java/lang/AbstractStringBuilder -/
def k13 : Class := { plain "java/lang/AbstractStringBuilder" (some 0) with
  accessFlags := 1056
  interfaces := #[12, 4]
  cf := some (fileOf pool13 10 #[] #[{ accessFlags := 0, nameIndex := 7, descriptorIndex := 8, attributes := #[] }, { accessFlags := 0, nameIndex := 7, descriptorIndex := 103, attributes := #[] }, { accessFlags := 1, nameIndex := 34, descriptorIndex := 35, attributes := #[] }, { accessFlags := 2, nameIndex := 102, descriptorIndex := 103, attributes := #[] }, { accessFlags := 2, nameIndex := 127, descriptorIndex := 8, attributes := #[] }, { accessFlags := 1, nameIndex := 45, descriptorIndex := 46, attributes := #[] }, { accessFlags := 16, nameIndex := 552, descriptorIndex := 403, attributes := #[] }, { accessFlags := 16, nameIndex := 85, descriptorIndex := 86, attributes := #[] }, { accessFlags := 2, nameIndex := 217, descriptorIndex := 69, attributes := #[] }, { accessFlags := 2, nameIndex := 210, descriptorIndex := 211, attributes := #[] }] 1056 4 #[444, 48] #[{ accessFlags := 0, nameIndex := 17, descriptorIndex := 14, attributes := #[] }, { accessFlags := 0, nameIndex := 24, descriptorIndex := 25, attributes := #[] }, { accessFlags := 0, nameIndex := 75, descriptorIndex := 21, attributes := #[] }, { accessFlags := 0, nameIndex := 81, descriptorIndex := 82, attributes := #[] }, { accessFlags := 26, nameIndex := 13, descriptorIndex := 14, attributes := #[] }])
  fields := #[{ name := "value", type := (.array .byte), accessFlags := 0, slot := 0, constantValue := 0 }, { name := "coder", type := .byte, accessFlags := 0, slot := 1, constantValue := 0 }, { name := "maybeLatin1", type := .boolean, accessFlags := 0, slot := 2, constantValue := 0 }, { name := "count", type := .int, accessFlags := 0, slot := 3, constantValue := 0 }, { name := "EMPTYVALUE", type := (.array .byte), accessFlags := 26, slot := 0, constantValue := 0 }]
  methods := #[k13m0, k13m1, k13m2, k13m3, k13m4, k13m5, k13m6, k13m7, k13m8, k13m9]
  instanceTypes := #[(.array .byte), .byte, .boolean, .int]
  staticTypes := #[(.array .byte)]
  resolved := Array.replicate 609 none
  statics := none }

def pool14 : Array CpInfo := pool [(1, .methodref 2 3), (0, .class_ 4), (0, .nameAndType 5 6), (0, u "java/lang/AbstractStringBuilder"), (0, u "<init>"), (0, u "(I)V"), (11, .class_ 20), (1, u "java/lang/String"), (3, .class_ 26), (1, u "java/lang/StringBuilder"), (0, u "append"), (0, u "(Ljava/lang/String;)Ljava/lang/StringBuilder;"), (0, .methodref 2 30), (0, .nameAndType 27 31), (0, u "(Ljava/lang/String;)Ljava/lang/AbstractStringBuilder;"), (105, .methodref 18 138), (0, .nameAndType 5 139), (0, u "(Ljava/lang/StringBuilder;)V"), (5, u "()V"), (10, u "()I"), (186, .methodref 2 344), (0, .nameAndType 345 156), (0, u "length"), (3, .class_ 350), (0, u "java/lang/Appendable"), (0, .class_ 352), (0, u "java/io/Serializable"), (0, .class_ 354), (0, u "java/lang/Comparable"), (0, .class_ 356), (0, u "java/lang/CharSequence"), (0, u "serialVersionUID"), (0, u "J"), (40, u "toString"), (0, u "()Ljava/lang/String;")] 21

def k14c0 : Code := { maxStack := 2, maxLocals := 1, code := jdk_67_method_1_code, exceptionTable := #[], attributes := #[] }
def k14m0 : Method := { name := "<init>", desc := "()V", sig := { parameters := [], returnType := none }, accessFlags := 1, code := some k14c0 }
def k14c1 : Code := { maxStack := 2, maxLocals := 2, code := jdk_67_method_7_code, exceptionTable := #[], attributes := #[] }
def k14m1 : Method := { name := "append", desc := "(Ljava/lang/String;)Ljava/lang/StringBuilder;", sig := { parameters := [(.object "java/lang/String")], returnType := some (.object "java/lang/StringBuilder") }, accessFlags := 1, code := some k14c1 }
def k14c2 : Code := { maxStack := 3, maxLocals := 1, code := jdk_67_method_42_code, exceptionTable := #[], attributes := #[] }
def k14m2 : Method := { name := "toString", desc := "()Ljava/lang/String;", sig := { parameters := [], returnType := some (.object "java/lang/String") }, accessFlags := 1, code := some k14c2 }
def k14c3 : Code := { maxStack := 1, maxLocals := 1, code := jdk_67_method_93_code, exceptionTable := #[], attributes := #[] }
def k14m3 : Method := { name := "length", desc := "()I", sig := { parameters := [], returnType := some .int }, accessFlags := 4161, code := some k14c3 }
/-- java/lang/StringBuilder -/
def k14 : Class := { plain "java/lang/StringBuilder" (some 13) with
  accessFlags := 49
  interfaces := #[12, 2, 3, 4]
  cf := some (fileOf pool14 24 #[] #[{ accessFlags := 1, nameIndex := 5, descriptorIndex := 145, attributes := #[] }, { accessFlags := 1, nameIndex := 27, descriptorIndex := 28, attributes := #[] }, { accessFlags := 1, nameIndex := 399, descriptorIndex := 400, attributes := #[] }, { accessFlags := 4161, nameIndex := 345, descriptorIndex := 156, attributes := #[] }] 49 2 #[349, 351, 353, 355] #[{ accessFlags := 24, nameIndex := 357, descriptorIndex := 358, attributes := #[] }])
  fields := #[{ name := "serialVersionUID", type := .long, accessFlags := 24, slot := 0, constantValue := 0 }]
  methods := #[k14m0, k14m1, k14m2, k14m3]
  instanceTypes := #[(.array .byte), .byte, .boolean, .int]
  staticTypes := #[.long]
  resolved := Array.replicate 422 none
  statics := none }

def pool15 : Array CpInfo := pool [(2, .class_ 4), (1, u "java/lang/Object"), (0, u "<init>"), (0, u "()V"), (1, .class_ 10), (1, u "java/lang/System"), (0, u "allowSecurityManager"), (0, u "I"), (16, u "cons"), (0, u "Ljava/io/Console;"), (77, .class_ 110), (1, u "java/lang/System$CallersHolder"), (43, u "initialErrStream"), (0, u "Ljava/io/PrintStream;"), (19, u "security"), (0, u "Ljava/lang/SecurityManager;"), (31, .class_ 209), (0, u "java/lang/System$1"), (7, u "props"), (0, u "Ljava/util/Properties;"), (2, u "lineSeparator"), (0, u "Ljava/lang/String;"), (96, .class_ 321), (1, u "java/lang/System$LoggerFinder"), (5, .class_ 328), (0, u "java/lang/System$Logger"), (67, u "err"), (2, u "out"), (91, u "notSupportedJnuEncoding"), (15, u "in"), (17, u "initialIn"), (0, u "Ljava/io/InputStream;"), (35, u "bootLayer"), (0, u "Ljava/lang/ModuleLayer;"), (99, .class_ 664), (0, u "java/lang/System$2"), (9, u "NEVER"), (2, u "MAYBE"), (49, u "arraycopy"), (0, u "(Ljava/lang/Object;ILjava/lang/Object;II)V"), (72, .class_ 802), (0, u "java/lang/System$Logger$Level")] 31

def k15m0 : Method := { name := "<init>", desc := "()V", sig := { parameters := [], returnType := none }, accessFlags := 2, code := none }
def k15m1 : Method := { name := "arraycopy", desc := "(Ljava/lang/Object;ILjava/lang/Object;II)V", sig := { parameters := [(.object "java/lang/Object"), .int, (.object "java/lang/Object"), .int, .int], returnType := none }, accessFlags := 265, code := none }
/-- java/lang/System -/
def k15 : Class := { plain "java/lang/System" (some 0) with
  accessFlags := 49
  interfaces := #[]
  cf := some (fileOf pool15 8 #[.nestMembers #[319, 327, 801, 108, 663, 208]] #[{ accessFlags := 2, nameIndex := 5, descriptorIndex := 6, attributes := #[] }, { accessFlags := 265, nameIndex := 727, descriptorIndex := 728, attributes := #[] }] 49 2 #[] #[{ accessFlags := 25, nameIndex := 507, descriptorIndex := 526, attributes := #[] }, { accessFlags := 25, nameIndex := 399, descriptorIndex := 155, attributes := #[] }, { accessFlags := 25, nameIndex := 396, descriptorIndex := 155, attributes := #[] }, { accessFlags := 10, nameIndex := 525, descriptorIndex := 526, attributes := #[] }, { accessFlags := 26, nameIndex := 674, descriptorIndex := 12, attributes := #[] }, { accessFlags := 26, nameIndex := 677, descriptorIndex := 12, attributes := #[] }, { accessFlags := 10, nameIndex := 11, descriptorIndex := 12, attributes := #[] }, { accessFlags := 74, nameIndex := 175, descriptorIndex := 176, attributes := #[] }, { accessFlags := 10, nameIndex := 491, descriptorIndex := 222, attributes := #[] }, { accessFlags := 74, nameIndex := 29, descriptorIndex := 30, attributes := #[] }, { accessFlags := 74, nameIndex := 154, descriptorIndex := 155, attributes := #[] }, { accessFlags := 10, nameIndex := 217, descriptorIndex := 218, attributes := #[] }, { accessFlags := 10, nameIndex := 221, descriptorIndex := 222, attributes := #[] }, { accessFlags := 8, nameIndex := 562, descriptorIndex := 563, attributes := #[] }])
  fields := #[{ name := "in", type := (.object "java/io/InputStream"), accessFlags := 25, slot := 0, constantValue := 0 }, { name := "out", type := (.object "java/io/PrintStream"), accessFlags := 25, slot := 1, constantValue := 0 }, { name := "err", type := (.object "java/io/PrintStream"), accessFlags := 25, slot := 2, constantValue := 0 }, { name := "initialIn", type := (.object "java/io/InputStream"), accessFlags := 10, slot := 3, constantValue := 0 }, { name := "NEVER", type := .int, accessFlags := 26, slot := 4, constantValue := 0 }, { name := "MAYBE", type := .int, accessFlags := 26, slot := 5, constantValue := 0 }, { name := "allowSecurityManager", type := .int, accessFlags := 10, slot := 6, constantValue := 0 }, { name := "security", type := (.object "java/lang/SecurityManager"), accessFlags := 74, slot := 7, constantValue := 0 }, { name := "notSupportedJnuEncoding", type := (.object "java/lang/String"), accessFlags := 10, slot := 8, constantValue := 0 }, { name := "cons", type := (.object "java/io/Console"), accessFlags := 74, slot := 9, constantValue := 0 }, { name := "initialErrStream", type := (.object "java/io/PrintStream"), accessFlags := 74, slot := 10, constantValue := 0 }, { name := "props", type := (.object "java/util/Properties"), accessFlags := 10, slot := 11, constantValue := 0 }, { name := "lineSeparator", type := (.object "java/lang/String"), accessFlags := 10, slot := 12, constantValue := 0 }, { name := "bootLayer", type := (.object "java/lang/ModuleLayer"), accessFlags := 8, slot := 13, constantValue := 0 }]
  methods := #[k15m0, k15m1]
  instanceTypes := #[]
  staticTypes := #[(.object "java/io/InputStream"), (.object "java/io/PrintStream"), (.object "java/io/PrintStream"), (.object "java/io/InputStream"), .int, .int, .int, (.object "java/lang/SecurityManager"), (.object "java/lang/String"), (.object "java/io/Console"), (.object "java/io/PrintStream"), (.object "java/util/Properties"), (.object "java/lang/String"), (.object "java/lang/ModuleLayer")]
  resolved := Array.replicate 834 none
  statics := none }

def pool16 : Array CpInfo := pool [(2, .class_ 4), (1, u "java/lang/Object"), (0, u "<init>"), (0, u "()V"), (7, .class_ 16), (1, u "java/util/Arrays"), (57, .class_ 76), (1, u "java/util/Arrays$NaturalOrder"), (36, .class_ 115), (1, u "java/util/Arrays$LegacyMergeSort"), (1, u "Z"), (21, u "copyOfRange"), (10, .methodref 151 152), (0, .class_ 153), (0, .nameAndType 154 155), (0, u "java/lang/System"), (0, u "arraycopy"), (0, u "(Ljava/lang/Object;ILjava/lang/Object;II)V"), (148, .methodref 305 306), (0, .class_ 307), (0, .nameAndType 308 309), (0, u "java/lang/Math"), (0, u "min"), (0, u "(II)I"), (29, .methodref 14 340), (0, .nameAndType 341 342), (0, u "copyOfRangeByte"), (0, u "([BII)[B"), (0, .methodref 14 344), (0, .nameAndType 345 346), (0, u "checkLength"), (0, u "(II)V"), (28, .class_ 376), (0, u "java/util/Arrays$ArrayList"), (68, u "$assertionsDisabled"), (269, u "MIN_ARRAY_SORT_GRAN"), (0, u "I"), (2, u "INSERTIONSORT_THRESHOLD"), (255, .class_ 976), (0, u "java/util/Arrays$ArrayItr")] 52

def k16m0 : Method := { name := "<init>", desc := "()V", sig := { parameters := [], returnType := none }, accessFlags := 2, code := none }
def k16c1 : Code := { maxStack := 4, maxLocals := 2, code := jdk_65_method_131_code, exceptionTable := #[], attributes := #[] }
def k16m1 : Method := { name := "checkLength", desc := "(II)V", sig := { parameters := [.int, .int], returnType := none }, accessFlags := 10, code := some k16c1 }
def k16c2 : Code := { maxStack := 3, maxLocals := 3, code := jdk_65_method_132_code, exceptionTable := #[], attributes := #[] }
def k16m2 : Method := { name := "copyOfRange", desc := "([BII)[B", sig := { parameters := [(.array .byte), .int, .int], returnType := some (.array .byte) }, accessFlags := 9, code := some k16c2 }
def k16c3 : Code := { maxStack := 6, maxLocals := 5, code := jdk_65_method_133_code, exceptionTable := #[], attributes := #[] }
def k16m3 : Method := { name := "copyOfRangeByte", desc := "([BII)[B", sig := { parameters := [(.array .byte), .int, .int], returnType := some (.array .byte) }, accessFlags := 10, code := some k16c3 }
/-- java/util/Arrays -/
def k16 : Class := { plain "java/util/Arrays" (some 0) with
  accessFlags := 49
  interfaces := #[]
  cf := some (fileOf pool16 14 #[.nestMembers #[975, 375, 113, 74]] #[{ accessFlags := 2, nameIndex := 5, descriptorIndex := 6, attributes := #[] }, { accessFlags := 10, nameIndex := 345, descriptorIndex := 346, attributes := #[] }, { accessFlags := 9, nameIndex := 139, descriptorIndex := 342, attributes := #[] }, { accessFlags := 10, nameIndex := 341, descriptorIndex := 342, attributes := #[] }] 49 2 #[] #[{ accessFlags := 26, nameIndex := 715, descriptorIndex := 716, attributes := #[] }, { accessFlags := 26, nameIndex := 719, descriptorIndex := 716, attributes := #[] }, { accessFlags := 4120, nameIndex := 445, descriptorIndex := 117, attributes := #[] }])
  fields := #[{ name := "MIN_ARRAY_SORT_GRAN", type := .int, accessFlags := 26, slot := 0, constantValue := 0 }, { name := "INSERTIONSORT_THRESHOLD", type := .int, accessFlags := 26, slot := 1, constantValue := 0 }, { name := "$assertionsDisabled", type := .boolean, accessFlags := 4120, slot := 2, constantValue := 0 }]
  methods := #[k16m0, k16m1, k16m2, k16m3]
  instanceTypes := #[]
  staticTypes := #[.int, .int, .boolean]
  resolved := Array.replicate 1029 none
  statics := none }

def pool17 : Array CpInfo := pool [(1, .class_ 2), (0, u "java/lang/Math"), (1, .class_ 6), (1, u "java/lang/Object"), (0, u "<init>"), (0, u "()V"), (89, .class_ 100), (1, u "java/lang/Math$RandomNumberGeneratorHolder"), (71, u "negativeZeroFloatBits"), (0, u "J"), (2, u "negativeZeroDoubleBits"), (24, u "min"), (43, u "$assertionsDisabled"), (0, u "Z"), (88, u "(II)I"), (2, u "twoToTheDoubleScaleDown"), (0, u "D"), (4, u "twoToTheDoubleScaleUp"), (9, u "E"), (3, u "PI"), (2, u "TAU"), (2, u "DEGREES_TO_RADIANS"), (0, u "RADIANS_TO_DEGREES")] 94

def k17m0 : Method := { name := "<init>", desc := "()V", sig := { parameters := [], returnType := none }, accessFlags := 2, code := none }
def k17c1 : Code := { maxStack := 2, maxLocals := 2, code := jdk_29_method_69_code, exceptionTable := #[], attributes := #[] }
def k17m1 : Method := { name := "min", desc := "(II)I", sig := { parameters := [.int, .int], returnType := some .int }, accessFlags := 9, code := some k17c1 }
/-- java/lang/Math -/
def k17 : Class := { plain "java/lang/Math" (some 0) with
  accessFlags := 49
  interfaces := #[]
  cf := some (fileOf pool17 1 #[.nestMembers #[98]] #[{ accessFlags := 2, nameIndex := 7, descriptorIndex := 8, attributes := #[] }, { accessFlags := 9, nameIndex := 201, descriptorIndex := 335, attributes := #[] }] 49 4 #[] #[{ accessFlags := 25, nameIndex := 354, descriptorIndex := 339, attributes := #[] }, { accessFlags := 25, nameIndex := 358, descriptorIndex := 339, attributes := #[] }, { accessFlags := 25, nameIndex := 361, descriptorIndex := 339, attributes := #[] }, { accessFlags := 26, nameIndex := 364, descriptorIndex := 339, attributes := #[] }, { accessFlags := 26, nameIndex := 365, descriptorIndex := 339, attributes := #[] }, { accessFlags := 26, nameIndex := 172, descriptorIndex := 173, attributes := #[] }, { accessFlags := 26, nameIndex := 176, descriptorIndex := 173, attributes := #[] }, { accessFlags := 8, nameIndex := 344, descriptorIndex := 339, attributes := #[] }, { accessFlags := 8, nameIndex := 338, descriptorIndex := 339, attributes := #[] }, { accessFlags := 4120, nameIndex := 245, descriptorIndex := 246, attributes := #[] }])
  fields := #[{ name := "E", type := .double, accessFlags := 25, slot := 0, constantValue := 0 }, { name := "PI", type := .double, accessFlags := 25, slot := 1, constantValue := 0 }, { name := "TAU", type := .double, accessFlags := 25, slot := 2, constantValue := 0 }, { name := "DEGREES_TO_RADIANS", type := .double, accessFlags := 26, slot := 3, constantValue := 0 }, { name := "RADIANS_TO_DEGREES", type := .double, accessFlags := 26, slot := 4, constantValue := 0 }, { name := "negativeZeroFloatBits", type := .long, accessFlags := 26, slot := 5, constantValue := 0 }, { name := "negativeZeroDoubleBits", type := .long, accessFlags := 26, slot := 6, constantValue := 0 }, { name := "twoToTheDoubleScaleUp", type := .double, accessFlags := 8, slot := 7, constantValue := 0 }, { name := "twoToTheDoubleScaleDown", type := .double, accessFlags := 8, slot := 8, constantValue := 0 }, { name := "$assertionsDisabled", type := .boolean, accessFlags := 4120, slot := 9, constantValue := 0 }]
  methods := #[k17m0, k17m1]
  instanceTypes := #[]
  staticTypes := #[.double, .double, .double, .double, .double, .long, .long, .double, .double, .boolean]
  resolved := Array.replicate 460 none
  statics := none }

def pool18 : Array CpInfo := pool [(1, .class_ 2), (0, u "java/lang/String"), (1, .class_ 6), (1, u "java/lang/Object"), (0, u "<init>"), (0, u "()V"), (0, .methodref 1 10), (0, .nameAndType 11 12), (0, u "checkIndex"), (0, u "(II)V"), (1, .class_ 16), (1, u "java/lang/StringLatin1"), (0, u "inflate"), (2, .class_ 22), (1, u "java/lang/StringUTF16"), (3, .nameAndType 17 27), (0, u "([BI[BII)V"), (25, u "([BI)C"), (36, u "canEncode"), (14, u "(C)Z"), (15, u "$assertionsDisabled"), (0, u "Z"), (98, .class_ 223), (1, u "java/lang/StringLatin1$LinesSpliterator"), (16, .methodref 20 26), (11, u "charAt"), (127, u "toBytes"), (1, u "(C)[B"), (7, .class_ 391), (0, u "java/lang/StringLatin1$CharsSpliterator")] 3

def k18m0 : Method := { name := "<init>", desc := "()V", sig := { parameters := [], returnType := none }, accessFlags := 0, code := none }
def k18c1 : Code := { maxStack := 2, maxLocals := 2, code := jdk_43_method_2_code, exceptionTable := #[], attributes := #[] }
def k18m1 : Method := { name := "charAt", desc := "([BI)C", sig := { parameters := [(.array .byte), .int], returnType := some .char }, accessFlags := 9, code := some k18c1 }
def k18c2 : Code := { maxStack := 2, maxLocals := 1, code := jdk_43_method_3_code, exceptionTable := #[], attributes := #[] }
def k18m2 : Method := { name := "canEncode", desc := "(C)Z", sig := { parameters := [.char], returnType := some .boolean }, accessFlags := 9, code := some k18c2 }
def k18c3 : Code := { maxStack := 4, maxLocals := 1, code := jdk_43_method_46_code, exceptionTable := #[], attributes := #[] }
def k18m3 : Method := { name := "toBytes", desc := "(C)[B", sig := { parameters := [.char], returnType := some (.array .byte) }, accessFlags := 9, code := some k18c3 }
def k18c4 : Code := { maxStack := 5, maxLocals := 5, code := jdk_43_method_50_code, exceptionTable := #[], attributes := #[] }
def k18m4 : Method := { name := "inflate", desc := "([BI[BII)V", sig := { parameters := [(.array .byte), .int, (.array .byte), .int, .int], returnType := none }, accessFlags := 9, code := some k18c4 }
/-- java/lang/StringLatin1 -/
def k18 : Class := { plain "java/lang/StringLatin1" (some 0) with
  accessFlags := 48
  interfaces := #[]
  cf := some (fileOf pool18 14 #[.nestMembers #[390, 221]] #[{ accessFlags := 0, nameIndex := 7, descriptorIndex := 8, attributes := #[] }, { accessFlags := 9, nameIndex := 252, descriptorIndex := 53, attributes := #[] }, { accessFlags := 9, nameIndex := 90, descriptorIndex := 105, attributes := #[] }, { accessFlags := 9, nameIndex := 380, descriptorIndex := 382, attributes := #[] }, { accessFlags := 9, nameIndex := 17, descriptorIndex := 27, attributes := #[] }] 48 4 #[] #[{ accessFlags := 4120, nameIndex := 121, descriptorIndex := 122, attributes := #[] }])
  fields := #[{ name := "$assertionsDisabled", type := .boolean, accessFlags := 4120, slot := 0, constantValue := 0 }]
  methods := #[k18m0, k18m1, k18m2, k18m3, k18m4]
  instanceTypes := #[]
  staticTypes := #[.boolean]
  resolved := Array.replicate 395 none
  statics := none }

def pool19 : Array CpInfo := pool [(2, .class_ 4), (1, u "java/lang/Object"), (0, u "<init>"), (0, u "()V"), (17, .class_ 26), (1, u "jdk/internal/util/Preconditions"), (6, u "checkIndex"), (15, u "checkFromIndexSize"), (5, .class_ 56), (0, u "jdk/internal/util/Preconditions$4"), (57, .class_ 115), (0, u "jdk/internal/util/Preconditions$1"), (7, u "SIOOBE_FORMATTER"), (0, u "Ljava/util/function/BiFunction;"), (0, .class_ 126), (0, u "jdk/internal/util/Preconditions$2"), (3, u "AIOOBE_FORMATTER"), (0, .class_ 132), (0, u "jdk/internal/util/Preconditions$3"), (3, u "IOOBE_FORMATTER"), (41, u "(IILjava/util/function/BiFunction;)I"), (4, u "(IIILjava/util/function/BiFunction;)I")] 10

def k19m0 : Method := { name := "<init>", desc := "()V", sig := { parameters := [], returnType := none }, accessFlags := 1, code := none }
def k19c1 : Code := { maxStack := 3, maxLocals := 3, code := jdk_41_method_11_code, exceptionTable := #[], attributes := #[] }
def k19m1 : Method := { name := "checkIndex", desc := "(IILjava/util/function/BiFunction;)I", sig := { parameters := [.int, .int, (.object "java/util/function/BiFunction")], returnType := some .int }, accessFlags := 9, code := some k19c1 }
def k19c2 : Code := { maxStack := 4, maxLocals := 4, code := jdk_41_method_13_code, exceptionTable := #[], attributes := #[] }
def k19m2 : Method := { name := "checkFromIndexSize", desc := "(IIILjava/util/function/BiFunction;)I", sig := { parameters := [.int, .int, .int, (.object "java/util/function/BiFunction")], returnType := some .int }, accessFlags := 9, code := some k19c2 }
/-- jdk/internal/util/Preconditions -/
def k19 : Class := { plain "jdk/internal/util/Preconditions" (some 0) with
  accessFlags := 33
  interfaces := #[]
  cf := some (fileOf pool19 24 #[.nestMembers #[55, 131, 125, 114]] #[{ accessFlags := 1, nameIndex := 5, descriptorIndex := 6, attributes := #[] }, { accessFlags := 9, nameIndex := 33, descriptorIndex := 178, attributes := #[] }, { accessFlags := 9, nameIndex := 49, descriptorIndex := 183, attributes := #[] }] 33 2 #[] #[{ accessFlags := 25, nameIndex := 123, descriptorIndex := 124, attributes := #[] }, { accessFlags := 25, nameIndex := 130, descriptorIndex := 124, attributes := #[] }, { accessFlags := 25, nameIndex := 136, descriptorIndex := 124, attributes := #[] }])
  fields := #[{ name := "SIOOBE_FORMATTER", type := (.object "java/util/function/BiFunction"), accessFlags := 25, slot := 0, constantValue := 0 }, { name := "AIOOBE_FORMATTER", type := (.object "java/util/function/BiFunction"), accessFlags := 25, slot := 1, constantValue := 0 }, { name := "IOOBE_FORMATTER", type := (.object "java/util/function/BiFunction"), accessFlags := 25, slot := 2, constantValue := 0 }]
  methods := #[k19m0, k19m1, k19m2]
  instanceTypes := #[]
  staticTypes := #[(.object "java/util/function/BiFunction"), (.object "java/util/function/BiFunction"), (.object "java/util/function/BiFunction")]
  resolved := Array.replicate 194 none
  statics := some 3 }

def pool20 : Array CpInfo := pool [(9, u "<init>"), (6, .class_ 18), (1, u "java/lang/Object"), (0, u "()V"), (1, .class_ 23), (1, u "jdk/internal/util/ArraysSupport"), (0, u "LOG2_ARRAY_LONG_INDEX_SCALE"), (0, u "I"), (2, u "U"), (0, u "Ljdk/internal/misc/Unsafe;"), (8, u "BIG_ENDIAN"), (0, u "Z"), (8, u "LOG2_BYTE_BIT_SIZE"), (4, u "LOG2_ARRAY_INT_INDEX_SCALE"), (54, u "JLA"), (0, u "Ljdk/internal/access/JavaLangAccess;"), (11, u "LOG2_ARRAY_BOOLEAN_INDEX_SCALE"), (9, u "LOG2_ARRAY_BYTE_INDEX_SCALE"), (5, u "LOG2_ARRAY_CHAR_INDEX_SCALE"), (5, u "LOG2_ARRAY_SHORT_INDEX_SCALE"), (18, u "LOG2_ARRAY_FLOAT_INDEX_SCALE"), (24, u "LOG2_ARRAY_DOUBLE_INDEX_SCALE"), (89, u "T_BOOLEAN"), (2, u "T_CHAR"), (1, u "T_FLOAT"), (1, u "T_DOUBLE"), (1, u "T_BYTE"), (1, u "T_SHORT"), (1, u "T_INT"), (1, u "T_LONG"), (1, u "SOFT_MAX_ARRAY_LENGTH")] 83

def k20m0 : Method := { name := "<init>", desc := "()V", sig := { parameters := [], returnType := none }, accessFlags := 2, code := none }
/-- jdk/internal/util/ArraysSupport -/
def k20 : Class := { plain "jdk/internal/util/ArraysSupport" (some 0) with
  accessFlags := 33
  interfaces := #[]
  cf := some (fileOf pool20 21 #[] #[{ accessFlags := 2, nameIndex := 9, descriptorIndex := 19, attributes := #[] }] 33 16 #[] #[{ accessFlags := 24, nameIndex := 28, descriptorIndex := 29, attributes := #[] }, { accessFlags := 26, nameIndex := 38, descriptorIndex := 39, attributes := #[] }, { accessFlags := 25, nameIndex := 121, descriptorIndex := 25, attributes := #[] }, { accessFlags := 25, nameIndex := 131, descriptorIndex := 25, attributes := #[] }, { accessFlags := 25, nameIndex := 137, descriptorIndex := 25, attributes := #[] }, { accessFlags := 25, nameIndex := 143, descriptorIndex := 25, attributes := #[] }, { accessFlags := 25, nameIndex := 53, descriptorIndex := 25, attributes := #[] }, { accessFlags := 25, nameIndex := 24, descriptorIndex := 25, attributes := #[] }, { accessFlags := 25, nameIndex := 162, descriptorIndex := 25, attributes := #[] }, { accessFlags := 25, nameIndex := 187, descriptorIndex := 25, attributes := #[] }, { accessFlags := 26, nameIndex := 48, descriptorIndex := 25, attributes := #[] }, { accessFlags := 25, nameIndex := 277, descriptorIndex := 25, attributes := #[] }, { accessFlags := 25, nameIndex := 280, descriptorIndex := 25, attributes := #[] }, { accessFlags := 25, nameIndex := 282, descriptorIndex := 25, attributes := #[] }, { accessFlags := 25, nameIndex := 284, descriptorIndex := 25, attributes := #[] }, { accessFlags := 25, nameIndex := 286, descriptorIndex := 25, attributes := #[] }, { accessFlags := 25, nameIndex := 288, descriptorIndex := 25, attributes := #[] }, { accessFlags := 25, nameIndex := 290, descriptorIndex := 25, attributes := #[] }, { accessFlags := 25, nameIndex := 292, descriptorIndex := 25, attributes := #[] }, { accessFlags := 26, nameIndex := 108, descriptorIndex := 109, attributes := #[] }, { accessFlags := 25, nameIndex := 294, descriptorIndex := 25, attributes := #[] }])
  fields := #[{ name := "U", type := (.object "jdk/internal/misc/Unsafe"), accessFlags := 24, slot := 0, constantValue := 0 }, { name := "BIG_ENDIAN", type := .boolean, accessFlags := 26, slot := 1, constantValue := 0 }, { name := "LOG2_ARRAY_BOOLEAN_INDEX_SCALE", type := .int, accessFlags := 25, slot := 2, constantValue := 0 }, { name := "LOG2_ARRAY_BYTE_INDEX_SCALE", type := .int, accessFlags := 25, slot := 3, constantValue := 0 }, { name := "LOG2_ARRAY_CHAR_INDEX_SCALE", type := .int, accessFlags := 25, slot := 4, constantValue := 0 }, { name := "LOG2_ARRAY_SHORT_INDEX_SCALE", type := .int, accessFlags := 25, slot := 5, constantValue := 0 }, { name := "LOG2_ARRAY_INT_INDEX_SCALE", type := .int, accessFlags := 25, slot := 6, constantValue := 0 }, { name := "LOG2_ARRAY_LONG_INDEX_SCALE", type := .int, accessFlags := 25, slot := 7, constantValue := 0 }, { name := "LOG2_ARRAY_FLOAT_INDEX_SCALE", type := .int, accessFlags := 25, slot := 8, constantValue := 0 }, { name := "LOG2_ARRAY_DOUBLE_INDEX_SCALE", type := .int, accessFlags := 25, slot := 9, constantValue := 0 }, { name := "LOG2_BYTE_BIT_SIZE", type := .int, accessFlags := 26, slot := 10, constantValue := 0 }, { name := "T_BOOLEAN", type := .int, accessFlags := 25, slot := 11, constantValue := 0 }, { name := "T_CHAR", type := .int, accessFlags := 25, slot := 12, constantValue := 0 }, { name := "T_FLOAT", type := .int, accessFlags := 25, slot := 13, constantValue := 0 }, { name := "T_DOUBLE", type := .int, accessFlags := 25, slot := 14, constantValue := 0 }, { name := "T_BYTE", type := .int, accessFlags := 25, slot := 15, constantValue := 0 }, { name := "T_SHORT", type := .int, accessFlags := 25, slot := 16, constantValue := 0 }, { name := "T_INT", type := .int, accessFlags := 25, slot := 17, constantValue := 0 }, { name := "T_LONG", type := .int, accessFlags := 25, slot := 18, constantValue := 0 }, { name := "JLA", type := (.object "jdk/internal/access/JavaLangAccess"), accessFlags := 26, slot := 19, constantValue := 0 }, { name := "SOFT_MAX_ARRAY_LENGTH", type := .int, accessFlags := 25, slot := 20, constantValue := 0 }]
  methods := #[k20m0]
  instanceTypes := #[]
  staticTypes := #[(.object "jdk/internal/misc/Unsafe"), .boolean, .int, .int, .int, .int, .int, .int, .int, .int, .int, .int, .int, .int, .int, .int, .int, .int, .int, (.object "jdk/internal/access/JavaLangAccess"), .int]
  resolved := Array.replicate 378 none
  statics := none }

def pool21 : Array CpInfo := pool [(2, .class_ 4), (1, u "java/lang/Object"), (0, u "<init>"), (0, u "()V"), (12, .class_ 20), (0, u "java/util/Collections"), (63, u "r"), (0, u "Ljava/util/Random;"), (80, .class_ 167), (0, u "java/util/Collections$UnmodifiableCollection"), (6, .class_ 175), (0, u "java/util/Collections$UnmodifiableSequencedCollection"), (6, .class_ 183), (0, u "java/util/Collections$UnmodifiableSet"), (6, .class_ 191), (0, u "java/util/Collections$UnmodifiableSequencedSet"), (6, .class_ 199), (0, u "java/util/Collections$UnmodifiableSortedSet"), (6, .class_ 207), (0, u "java/util/Collections$UnmodifiableNavigableSet"), (4, .class_ 213), (0, u "java/util/Collections$UnmodifiableList"), (1, .class_ 216), (0, u "java/util/Collections$UnmodifiableRandomAccessList"), (6, .class_ 224), (0, u "java/util/Collections$UnmodifiableMap"), (6, .class_ 232), (0, u "java/util/Collections$UnmodifiableSequencedMap"), (4, .class_ 238), (0, u "java/util/Collections$UnmodifiableSortedMap"), (6, .class_ 246), (0, u "java/util/Collections$UnmodifiableNavigableMap"), (3, .class_ 251), (0, u "java/util/Collections$SynchronizedCollection"), (4, .class_ 257), (0, u "java/util/Collections$SynchronizedSet"), (4, .class_ 263), (0, u "java/util/Collections$SynchronizedSortedSet"), (1, .class_ 266), (0, u "java/util/Collections$SynchronizedNavigableSet"), (1, .class_ 269), (0, u "java/util/Collections$SynchronizedRandomAccessList"), (1, .class_ 272), (0, u "java/util/Collections$SynchronizedList"), (5, .class_ 279), (0, u "java/util/Collections$SynchronizedMap"), (1, .class_ 282), (0, u "java/util/Collections$SynchronizedSortedMap"), (1, .class_ 285), (0, u "java/util/Collections$SynchronizedNavigableMap"), (1, .class_ 288), (0, u "java/util/Collections$CheckedCollection"), (11, .class_ 301), (0, u "java/util/Collections$CheckedQueue"), (3, .class_ 306), (0, u "java/util/Collections$CheckedSet"), (3, .class_ 311), (0, u "java/util/Collections$CheckedSortedSet"), (3, .class_ 316), (0, u "java/util/Collections$CheckedNavigableSet"), (3, .class_ 321), (0, u "java/util/Collections$CheckedRandomAccessList"), (3, .class_ 326), (0, u "java/util/Collections$CheckedList"), (1, .class_ 329), (0, u "java/util/Collections$CheckedMap"), (3, .class_ 334), (0, u "java/util/Collections$CheckedSortedMap"), (3, .class_ 339), (0, u "java/util/Collections$CheckedNavigableMap"), (4, .class_ 346), (1, u "java/util/Collections$EmptyIterator"), (3, .class_ 352), (1, u "java/util/Collections$EmptyListIterator"), (2, .class_ 357), (1, u "java/util/Collections$EmptyEnumeration"), (4, u "EMPTY_SET"), (0, u "Ljava/util/Set;"), (6, u "EMPTY_LIST"), (0, u "Ljava/util/List;"), (2, u "EMPTY_MAP"), (0, u "Ljava/util/Map;"), (4, .class_ 381), (0, u "java/util/Collections$SingletonSet"), (2, .class_ 385), (0, u "java/util/Collections$1"), (1, .class_ 388), (0, u "java/util/Collections$2"), (1, .class_ 391), (0, u "java/util/Collections$SingletonList"), (1, .class_ 394), (0, u "java/util/Collections$SingletonMap"), (22, .class_ 418), (0, u "java/util/Collections$CopiesList"), (4, .class_ 425), (1, u "java/util/Collections$ReverseComparator"), (8, .class_ 435), (0, u "java/util/Collections$ReverseComparator2"), (6, .class_ 443), (0, u "java/util/Collections$3"), (25, .class_ 470), (0, u "java/util/Collections$SetFromMap"), (2, .class_ 474), (0, u "java/util/Collections$SequencedSetFromMap"), (3, .class_ 479), (0, u "java/util/Collections$AsLIFOQueue"), (11, .class_ 492), (0, u "java/util/Collections$EmptySet"), (1, .class_ 495), (0, u "java/util/Collections$EmptyList"), (1, .class_ 498), (0, u "java/util/Collections$EmptyMap"), (1, u "BINARYSEARCH_THRESHOLD"), (0, u "I"), (2, u "REVERSE_THRESHOLD"), (1, u "SHUFFLE_THRESHOLD"), (1, u "FILL_THRESHOLD"), (1, u "ROTATE_THRESHOLD"), (1, u "COPY_THRESHOLD"), (1, u "REPLACEALL_THRESHOLD"), (1, u "INDEXOFSUBLIST_THRESHOLD"), (333, .class_ 851), (0, u "java/util/Collections$CheckedMap$CheckedEntrySet"), (0, .class_ 853), (0, u "java/util/Collections$CheckedMap$CheckedEntrySet$CheckedEntry"), (0, .class_ 855), (0, u "java/util/Collections$CheckedMap$CheckedEntrySet$1"), (0, .class_ 857), (0, u "java/util/Collections$CheckedList$1"), (0, .class_ 859), (0, u "java/util/Collections$CheckedCollection$1"), (0, .class_ 861), (0, u "java/util/Collections$UnmodifiableNavigableMap$EmptyNavigableMap"), (0, .class_ 863), (0, u "java/util/Collections$UnmodifiableMap$UnmodifiableEntrySet"), (0, .class_ 865), (0, u "java/util/Collections$UnmodifiableMap$UnmodifiableEntrySet$UnmodifiableEntry"), (0, .class_ 867), (0, u "java/util/Collections$UnmodifiableMap$UnmodifiableEntrySet$UnmodifiableEntrySetSpliterator"), (0, .class_ 869), (0, u "java/util/Collections$UnmodifiableMap$UnmodifiableEntrySet$1"), (0, .class_ 871), (0, u "java/util/Collections$UnmodifiableList$1"), (0, .class_ 873), (0, u "java/util/Collections$UnmodifiableNavigableSet$EmptyNavigableSet"), (0, .class_ 875), (0, u "java/util/Collections$UnmodifiableCollection$1")] 57

def k21m0 : Method := { name := "<init>", desc := "()V", sig := { parameters := [], returnType := none }, accessFlags := 2, code := none }
/-- java/util/Collections -/
def k21 : Class := { plain "java/util/Collections" (some 0) with
  accessFlags := 33
  interfaces := #[]
  cf := some (fileOf pool21 19 #[.nestMembers #[478, 473, 469, 434, 423, 417, 393, 390, 380, 497, 494, 491, 355, 350, 344, 338, 333, 328, 850, 852, 854, 320, 325, 856, 315, 310, 305, 300, 287, 858, 284, 281, 278, 268, 271, 265, 262, 256, 250, 245, 860, 237, 231, 223, 862, 864, 866, 868, 215, 212, 870, 206, 872, 198, 190, 182, 174, 166, 874, 442, 387, 384]] #[{ accessFlags := 2, nameIndex := 5, descriptorIndex := 6, attributes := #[] }] 33 2 #[] #[{ accessFlags := 26, nameIndex := 500, descriptorIndex := 501, attributes := #[] }, { accessFlags := 26, nameIndex := 504, descriptorIndex := 501, attributes := #[] }, { accessFlags := 26, nameIndex := 506, descriptorIndex := 501, attributes := #[] }, { accessFlags := 26, nameIndex := 508, descriptorIndex := 501, attributes := #[] }, { accessFlags := 26, nameIndex := 510, descriptorIndex := 501, attributes := #[] }, { accessFlags := 26, nameIndex := 512, descriptorIndex := 501, attributes := #[] }, { accessFlags := 26, nameIndex := 514, descriptorIndex := 501, attributes := #[] }, { accessFlags := 26, nameIndex := 516, descriptorIndex := 501, attributes := #[] }, { accessFlags := 10, nameIndex := 84, descriptorIndex := 85, attributes := #[] }, { accessFlags := 25, nameIndex := 362, descriptorIndex := 363, attributes := #[] }, { accessFlags := 25, nameIndex := 370, descriptorIndex := 371, attributes := #[] }, { accessFlags := 25, nameIndex := 374, descriptorIndex := 375, attributes := #[] }])
  fields := #[{ name := "BINARYSEARCH_THRESHOLD", type := .int, accessFlags := 26, slot := 0, constantValue := 0 }, { name := "REVERSE_THRESHOLD", type := .int, accessFlags := 26, slot := 1, constantValue := 0 }, { name := "SHUFFLE_THRESHOLD", type := .int, accessFlags := 26, slot := 2, constantValue := 0 }, { name := "FILL_THRESHOLD", type := .int, accessFlags := 26, slot := 3, constantValue := 0 }, { name := "ROTATE_THRESHOLD", type := .int, accessFlags := 26, slot := 4, constantValue := 0 }, { name := "COPY_THRESHOLD", type := .int, accessFlags := 26, slot := 5, constantValue := 0 }, { name := "REPLACEALL_THRESHOLD", type := .int, accessFlags := 26, slot := 6, constantValue := 0 }, { name := "INDEXOFSUBLIST_THRESHOLD", type := .int, accessFlags := 26, slot := 7, constantValue := 0 }, { name := "r", type := (.object "java/util/Random"), accessFlags := 10, slot := 8, constantValue := 0 }, { name := "EMPTY_SET", type := (.object "java/util/Set"), accessFlags := 25, slot := 9, constantValue := 0 }, { name := "EMPTY_LIST", type := (.object "java/util/List"), accessFlags := 25, slot := 10, constantValue := 0 }, { name := "EMPTY_MAP", type := (.object "java/util/Map"), accessFlags := 25, slot := 11, constantValue := 0 }]
  methods := #[k21m0]
  instanceTypes := #[]
  staticTypes := #[.int, .int, .int, .int, .int, .int, .int, .int, (.object "java/util/Random"), (.object "java/util/Set"), (.object "java/util/List"), (.object "java/util/Map")]
  resolved := Array.replicate 933 none
  statics := some 4 }

def pool22 : Array CpInfo := pool [(8, .class_ 10), (1, u "java/lang/Iterable"), (24, .class_ 36), (0, u "java/lang/Object")] 25

/-- java/lang/Iterable -/
def k22 : Class := { plain "java/lang/Iterable" (some 0) with
  accessFlags := 1537
  interfaces := #[]
  cf := some (fileOf pool22 8 #[] #[] 1537 35 #[] #[])
  fields := #[]
  methods := #[]
  instanceTypes := #[]
  staticTypes := #[]
  resolved := Array.replicate 62 none
  statics := none }

def pool23 : Array CpInfo := pool [(10, .class_ 12), (1, u "java/util/Collection"), (47, .class_ 61), (0, u "java/lang/Object"), (0, .class_ 63), (0, u "java/lang/Iterable")] 51

/-- java/util/Collection -/
def k23 : Class := { plain "java/util/Collection" (some 0) with
  accessFlags := 1537
  interfaces := #[22]
  cf := some (fileOf pool23 10 #[] #[] 1537 60 #[62] #[])
  fields := #[]
  methods := #[]
  instanceTypes := #[]
  staticTypes := #[]
  resolved := Array.replicate 115 none
  statics := none }

def pool24 : Array CpInfo := pool [(2, .class_ 4), (1, u "java/lang/Object"), (0, u "<init>"), (0, u "()V"), (1, .class_ 10), (1, u "java/util/AbstractCollection"), (66, .class_ 78), (0, u "java/util/Collection")] 81

def k24m0 : Method := { name := "<init>", desc := "()V", sig := { parameters := [], returnType := none }, accessFlags := 4, code := none }
/-- java/util/AbstractCollection -/
def k24 : Class := { plain "java/util/AbstractCollection" (some 0) with
  accessFlags := 1057
  interfaces := #[23]
  cf := some (fileOf pool24 8 #[] #[{ accessFlags := 4, nameIndex := 5, descriptorIndex := 6, attributes := #[] }] 1057 2 #[77] #[])
  fields := #[]
  methods := #[k24m0]
  instanceTypes := #[]
  staticTypes := #[]
  resolved := Array.replicate 160 none
  statics := none }

def pool25 : Array CpInfo := pool [(8, .class_ 10), (1, u "java/util/SequencedCollection"), (15, .class_ 27), (0, u "java/lang/Object"), (0, .class_ 29), (0, u "java/util/Collection")] 27

/-- java/util/SequencedCollection -/
def k25 : Class := { plain "java/util/SequencedCollection" (some 0) with
  accessFlags := 1537
  interfaces := #[23]
  cf := some (fileOf pool25 8 #[] #[] 1537 26 #[28] #[])
  fields := #[]
  methods := #[]
  instanceTypes := #[]
  staticTypes := #[]
  resolved := Array.replicate 57 none
  statics := none }

def pool26 : Array CpInfo := pool [(8, .class_ 10), (1, u "java/util/List"), (92, .class_ 104), (0, u "java/lang/Object"), (15, .class_ 121), (0, u "java/util/SequencedCollection")] 129

/-- java/util/List -/
def k26 : Class := { plain "java/util/List" (some 0) with
  accessFlags := 1537
  interfaces := #[25]
  cf := some (fileOf pool26 8 #[] #[] 1537 103 #[120] #[])
  fields := #[]
  methods := #[]
  instanceTypes := #[]
  staticTypes := #[]
  resolved := Array.replicate 251 none
  statics := none }

def pool27 : Array CpInfo := pool [(2, .class_ 4), (1, u "java/util/AbstractCollection"), (0, u "<init>"), (0, u "()V"), (1, .class_ 10), (1, u "java/util/AbstractList"), (0, u "modCount"), (0, u "I"), (64, .class_ 78), (0, u "java/util/AbstractList$Itr"), (3, .class_ 83), (0, u "java/util/AbstractList$ListItr"), (9, .class_ 94), (0, u "java/util/AbstractList$RandomAccessSubList"), (3, .class_ 99), (0, u "java/util/AbstractList$SubList"), (33, .class_ 134), (0, u "java/util/List"), (73, .class_ 209), (0, u "java/util/AbstractList$SubList$1"), (0, .class_ 211), (0, u "java/util/AbstractList$RandomAccessSpliterator")] 6

def k27m0 : Method := { name := "<init>", desc := "()V", sig := { parameters := [], returnType := none }, accessFlags := 4, code := none }
/-- java/util/AbstractList -/
def k27 : Class := { plain "java/util/AbstractList" (some 24) with
  accessFlags := 1057
  interfaces := #[26]
  cf := some (fileOf pool27 8 #[.nestMembers #[93, 98, 208, 210, 82, 77]] #[{ accessFlags := 4, nameIndex := 5, descriptorIndex := 6, attributes := #[] }] 1057 2 #[133] #[{ accessFlags := 132, nameIndex := 11, descriptorIndex := 12, attributes := #[] }])
  fields := #[{ name := "modCount", type := .int, accessFlags := 132, slot := 0, constantValue := 0 }]
  methods := #[k27m0]
  instanceTypes := #[.int]
  staticTypes := #[]
  resolved := Array.replicate 218 none
  statics := none }

def pool28 : Array CpInfo := pool [(1, .class_ 2), (0, u "java/util/RandomAccess"), (0, .class_ 4), (0, u "java/lang/Object")] 2

/-- java/util/RandomAccess -/
def k28 : Class := { plain "java/util/RandomAccess" (some 0) with
  accessFlags := 1537
  interfaces := #[]
  cf := some (fileOf pool28 1 #[] #[] 1537 3 #[] #[])
  fields := #[]
  methods := #[]
  instanceTypes := #[]
  staticTypes := #[]
  resolved := Array.replicate 7 none
  statics := none }

def pool29 : Array CpInfo := pool [(2, .class_ 4), (1, u "java/util/AbstractList"), (0, u "<init>"), (0, u "()V"), (1, .class_ 10), (1, u "java/util/Collections"), (54, .class_ 66), (0, u "java/util/Collections$EmptyList"), (0, .class_ 68), (0, u "java/util/RandomAccess"), (0, .class_ 70), (0, u "java/io/Serializable"), (0, u "serialVersionUID"), (0, u "J")] 77

def k29m0 : Method := { name := "<init>", desc := "()V", sig := { parameters := [], returnType := none }, accessFlags := 2, code := none }
/-- java/util/Collections$EmptyList -/
def k29 : Class := { plain "java/util/Collections$EmptyList" (some 27) with
  accessFlags := 32
  interfaces := #[28, 2]
  cf := some (fileOf pool29 65 #[.nestHost 8] #[{ accessFlags := 2, nameIndex := 5, descriptorIndex := 6, attributes := #[] }] 32 2 #[67, 69] #[{ accessFlags := 26, nameIndex := 71, descriptorIndex := 72, attributes := #[] }])
  fields := #[{ name := "serialVersionUID", type := .long, accessFlags := 26, slot := 0, constantValue := 0 }]
  methods := #[k29m0]
  instanceTypes := #[.int]
  staticTypes := #[.long]
  resolved := Array.replicate 150 none
  statics := none }

def pool30 : Array CpInfo := pool [(2, .class_ 4), (1, u "java/lang/StackTraceElement"), (0, u "<init>"), (2, .class_ 10), (1, u "java/lang/Object"), (0, u "()V"), (2, u "format"), (0, u "B"), (2, u "classLoaderName"), (0, u "Ljava/lang/String;"), (2, u "moduleName"), (2, u "moduleVersion"), (12, u "declaringClass"), (4, u "methodName"), (2, u "fileName"), (2, u "lineNumber"), (0, u "I"), (65, u "declaringClassObject"), (0, u "Ljava/lang/Class;"), (33, .class_ 153), (1, u "java/lang/StackTraceElement$HashedModules"), (17, .class_ 172), (0, u "java/io/Serializable"), (0, u "NATIVE_METHOD"), (1, u "UNKNOWN_SOURCE"), (2, u "BUILTIN_CLASS_LOADER"), (1, u "JDK_NON_UPGRADEABLE_MODULE"), (1, u "serialVersionUID"), (0, u "J")] 51

def k30m0 : Method := { name := "<init>", desc := "()V", sig := { parameters := [], returnType := none }, accessFlags := 2, code := none }
/-- java/lang/StackTraceElement -/
def k30 : Class := { plain "java/lang/StackTraceElement" (some 0) with
  accessFlags := 49
  interfaces := #[2]
  cf := some (fileOf pool30 2 #[.nestMembers #[151]] #[{ accessFlags := 2, nameIndex := 5, descriptorIndex := 11, attributes := #[] }] 49 8 #[171] #[{ accessFlags := 26, nameIndex := 173, descriptorIndex := 19, attributes := #[] }, { accessFlags := 26, nameIndex := 175, descriptorIndex := 19, attributes := #[] }, { accessFlags := 130, nameIndex := 116, descriptorIndex := 117, attributes := #[] }, { accessFlags := 2, nameIndex := 18, descriptorIndex := 19, attributes := #[] }, { accessFlags := 2, nameIndex := 22, descriptorIndex := 19, attributes := #[] }, { accessFlags := 2, nameIndex := 25, descriptorIndex := 19, attributes := #[] }, { accessFlags := 2, nameIndex := 38, descriptorIndex := 19, attributes := #[] }, { accessFlags := 2, nameIndex := 43, descriptorIndex := 19, attributes := #[] }, { accessFlags := 2, nameIndex := 46, descriptorIndex := 19, attributes := #[] }, { accessFlags := 2, nameIndex := 49, descriptorIndex := 50, attributes := #[] }, { accessFlags := 2, nameIndex := 14, descriptorIndex := 15, attributes := #[] }, { accessFlags := 26, nameIndex := 178, descriptorIndex := 15, attributes := #[] }, { accessFlags := 26, nameIndex := 180, descriptorIndex := 15, attributes := #[] }, { accessFlags := 26, nameIndex := 182, descriptorIndex := 183, attributes := #[] }])
  fields := #[{ name := "NATIVE_METHOD", type := (.object "java/lang/String"), accessFlags := 26, slot := 0, constantValue := 0 }, { name := "UNKNOWN_SOURCE", type := (.object "java/lang/String"), accessFlags := 26, slot := 1, constantValue := 0 }, { name := "declaringClassObject", type := (.object "java/lang/Class"), accessFlags := 130, slot := 0, constantValue := 0 }, { name := "classLoaderName", type := (.object "java/lang/String"), accessFlags := 2, slot := 1, constantValue := 0 }, { name := "moduleName", type := (.object "java/lang/String"), accessFlags := 2, slot := 2, constantValue := 0 }, { name := "moduleVersion", type := (.object "java/lang/String"), accessFlags := 2, slot := 3, constantValue := 0 }, { name := "declaringClass", type := (.object "java/lang/String"), accessFlags := 2, slot := 4, constantValue := 0 }, { name := "methodName", type := (.object "java/lang/String"), accessFlags := 2, slot := 5, constantValue := 0 }, { name := "fileName", type := (.object "java/lang/String"), accessFlags := 2, slot := 6, constantValue := 0 }, { name := "lineNumber", type := .int, accessFlags := 2, slot := 7, constantValue := 0 }, { name := "format", type := .byte, accessFlags := 2, slot := 8, constantValue := 0 }, { name := "BUILTIN_CLASS_LOADER", type := .byte, accessFlags := 26, slot := 2, constantValue := 0 }, { name := "JDK_NON_UPGRADEABLE_MODULE", type := .byte, accessFlags := 26, slot := 3, constantValue := 0 }, { name := "serialVersionUID", type := .long, accessFlags := 26, slot := 4, constantValue := 0 }]
  methods := #[k30m0]
  instanceTypes := #[(.object "java/lang/Class"), (.object "java/lang/String"), (.object "java/lang/String"), (.object "java/lang/String"), (.object "java/lang/String"), (.object "java/lang/String"), (.object "java/lang/String"), .int, .byte]
  staticTypes := #[(.object "java/lang/String"), (.object "java/lang/String"), .byte, .byte, .long]
  resolved := Array.replicate 235 none
  statics := none }

def pool31 : Array CpInfo := pool [(1, u "java/lang/Cloneable"), (0, .class_ 1), (0, u "java/lang/Object"), (0, .class_ 3)] 3

/-- java/lang/Cloneable -/
def k31 : Class := { plain "java/lang/Cloneable" (some 0) with
  accessFlags := 1537
  interfaces := #[]
  cf := some (fileOf pool31 2 #[] #[] 1537 4 #[] #[])
  fields := #[]
  methods := #[]
  instanceTypes := #[]
  staticTypes := #[]
  resolved := Array.replicate 8 none
  statics := none }

/-- the primitive byte -/
def k32 : Class := { plain "byte" none with kind := .primitive 'B', accessFlags := 0x411 }
/-- [B -/
def k33 : Class := { plain "[B" (some 0) with kind := .array 32 .byte, interfaces := #[31, 2], accessFlags := 1041 }

/-- the primitive char -/
def k34 : Class := { plain "char" none with kind := .primitive 'C', accessFlags := 0x411 }
/-- [C -/
def k35 : Class := { plain "[C" (some 0) with kind := .array 34 .char, interfaces := #[31, 2], accessFlags := 1041 }

/-- the primitive int -/
def k36 : Class := { plain "int" none with kind := .primitive 'I', accessFlags := 0x411 }
/-- [I -/
def k37 : Class := { plain "[I" (some 0) with kind := .array 36 .int, interfaces := #[31, 2], accessFlags := 1041 }

/-- [Ljava/lang/Object; -/
def k38 : Class := { plain "[Ljava/lang/Object;" (some 0) with kind := .array 0 (.object "java/lang/Object"), interfaces := #[31, 2], accessFlags := 1041 }

/-- [Ljava/lang/StackTraceElement; -/
def k39 : Class := { plain "[Ljava/lang/StackTraceElement;" (some 0) with kind := .array 30 (.object "java/lang/StackTraceElement"), interfaces := #[31, 2], accessFlags := 1041 }

/-- [Ljava/lang/Throwable; -/
def k40 : Class := { plain "[Ljava/lang/Throwable;" (some 0) with kind := .array 9 (.object "java/lang/Throwable"), interfaces := #[31, 2], accessFlags := 1041 }

def heap : Heap := #[{ cls := 7, slots := #[.long 0, .int 1, .null, .int 0, .null, .int 0, .int 0], vm := .statics 7 },
  { cls := 8, slots := #[.int 0, .int 8, .int 0, .int 1], vm := .statics 8 },
  { cls := 9, slots := #[.long 0, .ref 5, .ref 6, .null, .null, .null, .null, .ref 7, .int 1], vm := .statics 9 },
  { cls := 19, slots := #[.null, .null, .null], vm := .statics 19 },
  { cls := 21, slots := #[.int 0, .int 0, .int 0, .int 0, .int 0, .int 0, .int 0, .int 0, .null, .null, .ref 6, .null], vm := .statics 21 },
  { cls := 39, slots := #[], vm := .none },
  { cls := 29, slots := #[.int 0], vm := .none },
  { cls := 40, slots := #[], vm := .none }]
def classes : Array Class := #[k0, k1, k2, k3, k4, k5, k6, k7, k8, k9, k10, k11, k12, k13, k14, k15, k16, k17, k18, k19, k20, k21, k22, k23, k24, k25, k26, k27, k28, k29, k30, k31, k32, k33, k34, k35, k36, k37, k38, k39, k40]
def interned : List (Array UInt16 × Addr) := []
def slotsUsed : Nat := 36
def theMethod : MethodId := ⟨1, 3⟩
def args0 : Array Value := #[.int 5, .int 7, .int 5]
def aboutOver (below : List Frame) : State where
  vm := { classes := classes, interned := interned.toArray }
  heap := heap
  slotsUsed := slotsUsed
  threads := #[{ frames := .invoking theMethod args0 :: below }]
def below0 : List Frame := [.native { method := ⟨0, 0⟩, args := #[] }]
def about1 : State := aboutOver below0
def p0 : Program := .bare "" "" ""
def e0 : Env := launch0.env 0 0 0
theorem w_frames : about1.frames = Frame.invoking theMethod args0 :: below0 := rfl
set_option maxRecDepth 65536 in
theorem w_args : argsFit about1.vm theMethod args0 = true := by decide +kernel
set_option maxRecDepth 65536 in
theorem w_heap : heapFits about1 = true := by decide +kernel
set_option maxRecDepth 65536 in
theorem w_runnable : about1.curStatus? = some .runnable := by decide +kernel
set_option maxRecDepth 65536 in
theorem w_alone : about1.alone = true := by decide +kernel
set_option maxRecDepth 65536 in
theorem w_named : about1.methodNamed? x = some theMethod := by decide +kernel
set_option maxRecDepth 65536 in
theorem w_hears : about1.hears theMethod below0 = true := by decide +kernel
set_option maxRecDepth 65536 in
theorem w_ripe : about1.ripe theMethod args0 below0 = true := by decide +kernel
theorem w_running : about1.status = .running := rfl
set_option maxRecDepth 65536 in
theorem w_room : about1.hasRoom e0.platform room_1 = true :=
  launch0.hasRoom_least _ room_1 (by decide +kernel) (by decide +kernel) (by decide +kernel) (by decide +kernel) (by decide +kernel) (by decide +kernel)
theorem allAtoms_all (ts : List Jvm.Cond) (a : Array Jvm.Value) (st : Jvm.State) : (allAtoms ts).before a st = ts.all (fun c => c.before a st) := by
  induction ts with
  | nil => rfl
  | cons c t ih =>
    show (Jvm.Cond.and c (allAtoms t)).before a st = _
    rw [Jvm.Cond.before_and, ih, List.all_cons]
def words1 : List Jvm.Cond := Jvm.Cond.code x code maxLocals ret :: tables_1
/-- a 'code' word, met by the world's own term for the bytes: nothing is compared byte by byte -/
theorem code_word {y : MethodName} {bytes : ByteArray} {mx : Nat} {rt : Option FieldType} {a : Array Value} {s : State} {m : MethodId} {meth : Method} {c : Code} (h1 : s.methodNamed? y = some m) (h2 : s.vm.method? m = some meth) (h3 : meth.code = some c) (h4 : c.code = bytes)
    (h5 : (c.maxLocals == mx && c.exceptionTable.isEmpty && decide (c.maxStack ≤ mostOperands) && decide (meth.sig.returnType = rt) && !meth.locks && decide (parseMethodDescriptor y.desc = some meth.sig)) = true) : (Jvm.Cond.code y bytes mx rt).before a s = true := by
  simp only [Bool.and_eq_true, beq_iff_eq, Bool.not_eq_true', decide_eq_true_eq] at h5
  obtain ⟨⟨⟨⟨⟨g1, g2⟩, g3⟩, g4⟩, g5⟩, g6⟩ := h5
  simp [Cond.before, Cond.holds, Cond.value, h1, h2, h3, h4, g1, g2, g3, g4, g5, g6]
def isCode : Jvm.Cond → Bool
  | .code _ _ _ _ => true
  | _ => false
theorem all_split {L : List Jvm.Cond} {P : Jvm.Cond → Bool} (h1 : L.all (fun c => isCode c || P c) = true) (h2 : ∀ c ∈ L.filter isCode, P c = true) : L.all P = true := by
  refine List.all_eq_true.mpr fun c hc => ?_
  have h := List.all_eq_true.mp h1 c hc
  rcases Bool.eq_false_or_eq_true (isCode c) with hi | hi
  · exact h2 c (List.mem_filter.mpr ⟨hc, hi⟩)
  · simpa [hi] using h
set_option maxRecDepth 65536 in
theorem w_c0 : (Jvm.Cond.code x code maxLocals ret).before args0 about1 = true := code_word (m := ⟨1, 3⟩) (meth := k1m3) (c := k1c3) (by decide +kernel) rfl rfl rfl (by decide +kernel)
set_option maxRecDepth 65536 in
theorem w_c1 : (Jvm.Cond.code ({ cls := "com/example/neti/neti/cli/FailureBadCommandLinePinLaw", name := "str", desc := "(ICC)Ljava/lang/String;" } : Jvm.MethodName) method_2_code (3 : Nat) (Option.some (Jvm.ClassFile.FieldType.object "java/lang/String"))).before args0 about1 = true := code_word (m := ⟨1, 1⟩) (meth := k1m1) (c := k1c1) (by decide +kernel) rfl rfl rfl (by decide +kernel)
set_option maxRecDepth 65536 in
theorem w_c2 : (Jvm.Cond.code ({ cls := "java/lang/String", name := "<init>", desc := "([C)V" } : Jvm.MethodName) jdk_42_method_3_code (2 : Nat) (Option.none : Option Jvm.ClassFile.FieldType)).before args0 about1 = true := code_word (m := ⟨7, 1⟩) (meth := k7m1) (c := k7c1) (by decide +kernel) rfl rfl rfl (by decide +kernel)
set_option maxRecDepth 65536 in
theorem w_c3 : (Jvm.Cond.code ({ cls := "java/lang/String", name := "<init>", desc := "([CIILjava/lang/Void;)V" } : Jvm.MethodName) jdk_42_method_149_code (6 : Nat) (Option.none : Option Jvm.ClassFile.FieldType)).before args0 about1 = true := code_word (m := ⟨7, 7⟩) (meth := k7m7) (c := k7c7) (by decide +kernel) rfl rfl rfl (by decide +kernel)
set_option maxRecDepth 65536 in
theorem w_c4 : (Jvm.Cond.code ({ cls := "java/lang/Object", name := "<init>", desc := "()V" } : Jvm.MethodName) object_method_1_code (1 : Nat) (Option.none : Option Jvm.ClassFile.FieldType)).before args0 about1 = true := code_word (m := ⟨0, 0⟩) (meth := k0m0) (c := k0c0) (by decide +kernel) rfl rfl rfl (by decide +kernel)
set_option maxRecDepth 65536 in
theorem w_c5 : (Jvm.Cond.code ({ cls := "java/lang/StringUTF16", name := "compress", desc := "([CII)[B" } : Jvm.MethodName) jdk_52_method_16_code (6 : Nat) (Option.some (Jvm.ClassFile.FieldType.array Jvm.ClassFile.FieldType.byte))).before args0 about1 = true := code_word (m := ⟨8, 8⟩) (meth := k8m8) (c := k8c8) (by decide +kernel) rfl rfl rfl (by decide +kernel)
set_option maxRecDepth 65536 in
theorem w_c6 : (Jvm.Cond.code ({ cls := "java/lang/StringUTF16", name := "compress", desc := "([CI[BII)I" } : Jvm.MethodName) jdk_52_method_21_code (7 : Nat) (Option.some Jvm.ClassFile.FieldType.int)).before args0 about1 = true := code_word (m := ⟨8, 9⟩) (meth := k8m9) (c := k8c9) (by decide +kernel) rfl rfl rfl (by decide +kernel)
set_option maxRecDepth 65536 in
theorem w_c7 : (Jvm.Cond.code ({ cls := "java/lang/StringUTF16", name := "coderFromArrayLen", desc := "([BI)B" } : Jvm.MethodName) jdk_52_method_15_code (2 : Nat) (Option.some Jvm.ClassFile.FieldType.byte)).before args0 about1 = true := code_word (m := ⟨8, 7⟩) (meth := k8m7) (c := k8c7) (by decide +kernel) rfl rfl rfl (by decide +kernel)
set_option maxRecDepth 65536 in
theorem w_c8 : (Jvm.Cond.code ({ cls := "com/example/neti/neti/cli/Failure", name := "badCommandLine", desc := "(Ljava/lang/String;Ljava/lang/String;)Lcom/example/neti/neti/cli/Failure;" } : Jvm.MethodName) prog_4_method_2_code (2 : Nat) (Option.some (Jvm.ClassFile.FieldType.object "com/example/neti/neti/cli/Failure"))).before args0 about1 = true := code_word (m := ⟨11, 1⟩) (meth := k11m1) (c := k11c1) (by decide +kernel) rfl rfl rfl (by decide +kernel)
set_option maxRecDepth 65536 in
theorem w_c9 : (Jvm.Cond.code ({ cls := "java/lang/StringBuilder", name := "<init>", desc := "()V" } : Jvm.MethodName) jdk_67_method_1_code (1 : Nat) (Option.none : Option Jvm.ClassFile.FieldType)).before args0 about1 = true := code_word (m := ⟨14, 0⟩) (meth := k14m0) (c := k14c0) (by decide +kernel) rfl rfl rfl (by decide +kernel)
set_option maxRecDepth 65536 in
theorem w_c10 : (Jvm.Cond.code ({ cls := "java/lang/AbstractStringBuilder", name := "<init>", desc := "(I)V" } : Jvm.MethodName) jdk_68_method_2_code (2 : Nat) (Option.none : Option Jvm.ClassFile.FieldType)).before args0 about1 = true := code_word (m := ⟨13, 1⟩) (meth := k13m1) (c := k13c1) (by decide +kernel) rfl rfl rfl (by decide +kernel)
set_option maxRecDepth 65536 in
theorem w_c11 : (Jvm.Cond.code ({ cls := "java/lang/StringBuilder", name := "append", desc := "(Ljava/lang/String;)Ljava/lang/StringBuilder;" } : Jvm.MethodName) jdk_67_method_7_code (2 : Nat) (Option.some (Jvm.ClassFile.FieldType.object "java/lang/StringBuilder"))).before args0 about1 = true := code_word (m := ⟨14, 1⟩) (meth := k14m1) (c := k14c1) (by decide +kernel) rfl rfl rfl (by decide +kernel)
set_option maxRecDepth 65536 in
theorem w_c12 : (Jvm.Cond.code ({ cls := "java/lang/AbstractStringBuilder", name := "append", desc := "(Ljava/lang/String;)Ljava/lang/AbstractStringBuilder;" } : Jvm.MethodName) jdk_68_method_22_code (3 : Nat) (Option.some (Jvm.ClassFile.FieldType.object "java/lang/AbstractStringBuilder"))).before args0 about1 = true := code_word (m := ⟨13, 5⟩) (meth := k13m5) (c := k13c5) (by decide +kernel) rfl rfl rfl (by decide +kernel)
set_option maxRecDepth 65536 in
theorem w_c13 : (Jvm.Cond.code ({ cls := "java/lang/String", name := "length", desc := "()I" } : Jvm.MethodName) jdk_42_method_54_code (1 : Nat) (Option.some Jvm.ClassFile.FieldType.int)).before args0 about1 = true := code_word (m := ⟨7, 3⟩) (meth := k7m3) (c := k7c3) (by decide +kernel) rfl rfl rfl (by decide +kernel)
set_option maxRecDepth 65536 in
theorem w_c14 : (Jvm.Cond.code ({ cls := "java/lang/String", name := "coder", desc := "()B" } : Jvm.MethodName) jdk_42_method_152_code (1 : Nat) (Option.some Jvm.ClassFile.FieldType.byte)).before args0 about1 = true := code_word (m := ⟨7, 10⟩) (meth := k7m10) (c := k7c10) (by decide +kernel) rfl rfl rfl (by decide +kernel)
set_option maxRecDepth 65536 in
theorem w_c15 : (Jvm.Cond.code ({ cls := "java/lang/AbstractStringBuilder", name := "ensureCapacityInternal", desc := "(I)V" } : Jvm.MethodName) jdk_68_method_9_code (3 : Nat) (Option.none : Option Jvm.ClassFile.FieldType)).before args0 about1 = true := code_word (m := ⟨13, 3⟩) (meth := k13m3) (c := k13c3) (by decide +kernel) rfl rfl rfl (by decide +kernel)
set_option maxRecDepth 65536 in
theorem w_c16 : (Jvm.Cond.code ({ cls := "java/lang/AbstractStringBuilder", name := "putStringAt", desc := "(ILjava/lang/String;)V" } : Jvm.MethodName) jdk_68_method_73_code (3 : Nat) (Option.none : Option Jvm.ClassFile.FieldType)).before args0 about1 = true := code_word (m := ⟨13, 9⟩) (meth := k13m9) (c := k13c9) (by decide +kernel) rfl rfl rfl (by decide +kernel)
set_option maxRecDepth 65536 in
theorem w_c17 : (Jvm.Cond.code ({ cls := "java/lang/AbstractStringBuilder", name := "inflateIfNeededFor", desc := "(Ljava/lang/String;)V" } : Jvm.MethodName) jdk_68_method_71_code (2 : Nat) (Option.none : Option Jvm.ClassFile.FieldType)).before args0 about1 = true := code_word (m := ⟨13, 8⟩) (meth := k13m8) (c := k13c8) (by decide +kernel) rfl rfl rfl (by decide +kernel)
set_option maxRecDepth 65536 in
theorem w_c18 : (Jvm.Cond.code ({ cls := "java/lang/String", name := "getBytes", desc := "([BIB)V" } : Jvm.MethodName) jdk_42_method_147_code (4 : Nat) (Option.none : Option Jvm.ClassFile.FieldType)).before args0 about1 = true := code_word (m := ⟨7, 6⟩) (meth := k7m6) (c := k7c6) (by decide +kernel) rfl rfl rfl (by decide +kernel)
set_option maxRecDepth 65536 in
theorem w_c19 : (Jvm.Cond.code ({ cls := "java/lang/StringBuilder", name := "toString", desc := "()Ljava/lang/String;" } : Jvm.MethodName) jdk_67_method_42_code (1 : Nat) (Option.some (Jvm.ClassFile.FieldType.object "java/lang/String"))).before args0 about1 = true := code_word (m := ⟨14, 2⟩) (meth := k14m2) (c := k14c2) (by decide +kernel) rfl rfl rfl (by decide +kernel)
set_option maxRecDepth 65536 in
theorem w_c20 : (Jvm.Cond.code ({ cls := "java/lang/String", name := "<init>", desc := "(Ljava/lang/StringBuilder;)V" } : Jvm.MethodName) jdk_42_method_53_code (2 : Nat) (Option.none : Option Jvm.ClassFile.FieldType)).before args0 about1 = true := code_word (m := ⟨7, 2⟩) (meth := k7m2) (c := k7c2) (by decide +kernel) rfl rfl rfl (by decide +kernel)
set_option maxRecDepth 65536 in
theorem w_c21 : (Jvm.Cond.code ({ cls := "java/lang/String", name := "<init>", desc := "(Ljava/lang/AbstractStringBuilder;Ljava/lang/Void;)V" } : Jvm.MethodName) jdk_42_method_150_code (5 : Nat) (Option.none : Option Jvm.ClassFile.FieldType)).before args0 about1 = true := code_word (m := ⟨7, 8⟩) (meth := k7m8) (c := k7c8) (by decide +kernel) rfl rfl rfl (by decide +kernel)
set_option maxRecDepth 65536 in
theorem w_c22 : (Jvm.Cond.code ({ cls := "java/lang/AbstractStringBuilder", name := "getValue", desc := "()[B" } : Jvm.MethodName) jdk_68_method_64_code (1 : Nat) (Option.some (Jvm.ClassFile.FieldType.array Jvm.ClassFile.FieldType.byte))).before args0 about1 = true := code_word (m := ⟨13, 6⟩) (meth := k13m6) (c := k13c6) (by decide +kernel) rfl rfl rfl (by decide +kernel)
set_option maxRecDepth 65536 in
theorem w_c23 : (Jvm.Cond.code ({ cls := "java/lang/StringBuilder", name := "length", desc := "()I" } : Jvm.MethodName) jdk_67_method_93_code (1 : Nat) (Option.some Jvm.ClassFile.FieldType.int)).before args0 about1 = true := code_word (m := ⟨14, 3⟩) (meth := k14m3) (c := k14c3) (by decide +kernel) rfl rfl rfl (by decide +kernel)
set_option maxRecDepth 65536 in
theorem w_c24 : (Jvm.Cond.code ({ cls := "java/lang/AbstractStringBuilder", name := "length", desc := "()I" } : Jvm.MethodName) jdk_68_method_6_code (1 : Nat) (Option.some Jvm.ClassFile.FieldType.int)).before args0 about1 = true := code_word (m := ⟨13, 2⟩) (meth := k13m2) (c := k13c2) (by decide +kernel) rfl rfl rfl (by decide +kernel)
set_option maxRecDepth 65536 in
theorem w_c25 : (Jvm.Cond.code ({ cls := "java/lang/AbstractStringBuilder", name := "isLatin1", desc := "()Z" } : Jvm.MethodName) jdk_68_method_68_code (1 : Nat) (Option.some Jvm.ClassFile.FieldType.boolean)).before args0 about1 = true := code_word (m := ⟨13, 7⟩) (meth := k13m7) (c := k13c7) (by decide +kernel) rfl rfl rfl (by decide +kernel)
set_option maxRecDepth 65536 in
theorem w_c26 : (Jvm.Cond.code ({ cls := "java/util/Arrays", name := "copyOfRange", desc := "([BII)[B" } : Jvm.MethodName) jdk_65_method_132_code (3 : Nat) (Option.some (Jvm.ClassFile.FieldType.array Jvm.ClassFile.FieldType.byte))).before args0 about1 = true := code_word (m := ⟨16, 2⟩) (meth := k16m2) (c := k16c2) (by decide +kernel) rfl rfl rfl (by decide +kernel)
set_option maxRecDepth 65536 in
theorem w_c27 : (Jvm.Cond.code ({ cls := "java/util/Arrays", name := "copyOfRangeByte", desc := "([BII)[B" } : Jvm.MethodName) jdk_65_method_133_code (5 : Nat) (Option.some (Jvm.ClassFile.FieldType.array Jvm.ClassFile.FieldType.byte))).before args0 about1 = true := code_word (m := ⟨16, 3⟩) (meth := k16m3) (c := k16c3) (by decide +kernel) rfl rfl rfl (by decide +kernel)
set_option maxRecDepth 65536 in
theorem w_c28 : (Jvm.Cond.code ({ cls := "java/util/Arrays", name := "checkLength", desc := "(II)V" } : Jvm.MethodName) jdk_65_method_131_code (2 : Nat) (Option.none : Option Jvm.ClassFile.FieldType)).before args0 about1 = true := code_word (m := ⟨16, 1⟩) (meth := k16m1) (c := k16c1) (by decide +kernel) rfl rfl rfl (by decide +kernel)
set_option maxRecDepth 65536 in
theorem w_c29 : (Jvm.Cond.code ({ cls := "java/lang/Math", name := "min", desc := "(II)I" } : Jvm.MethodName) jdk_29_method_69_code (2 : Nat) (Option.some Jvm.ClassFile.FieldType.int)).before args0 about1 = true := code_word (m := ⟨17, 1⟩) (meth := k17m1) (c := k17c1) (by decide +kernel) rfl rfl rfl (by decide +kernel)
set_option maxRecDepth 65536 in
theorem w_c30 : (Jvm.Cond.code ({ cls := "com/example/neti/neti/cli/Failure", name := "<init>", desc := "(ILjava/lang/String;)V" } : Jvm.MethodName) prog_4_method_1_code (3 : Nat) (Option.none : Option Jvm.ClassFile.FieldType)).before args0 about1 = true := code_word (m := ⟨11, 0⟩) (meth := k11m0) (c := k11c0) (by decide +kernel) rfl rfl rfl (by decide +kernel)
set_option maxRecDepth 65536 in
theorem w_c31 : (Jvm.Cond.code ({ cls := "java/lang/Exception", name := "<init>", desc := "(Ljava/lang/String;)V" } : Jvm.MethodName) jdk_59_method_2_code (2 : Nat) (Option.none : Option Jvm.ClassFile.FieldType)).before args0 about1 = true := code_word (m := ⟨10, 1⟩) (meth := k10m1) (c := k10c1) (by decide +kernel) rfl rfl rfl (by decide +kernel)
set_option maxRecDepth 65536 in
theorem w_c32 : (Jvm.Cond.code ({ cls := "java/lang/Throwable", name := "<init>", desc := "(Ljava/lang/String;)V" } : Jvm.MethodName) jdk_78_method_2_code (2 : Nat) (Option.none : Option Jvm.ClassFile.FieldType)).before args0 about1 = true := code_word (m := ⟨9, 1⟩) (meth := k9m1) (c := k9c1) (by decide +kernel) rfl rfl rfl (by decide +kernel)
set_option maxRecDepth 65536 in
theorem w_c33 : (Jvm.Cond.code ({ cls := "java/lang/Throwable", name := "<init>", desc := "()V" } : Jvm.MethodName) jdk_78_method_1_code (1 : Nat) (Option.none : Option Jvm.ClassFile.FieldType)).before args0 about1 = true := code_word (m := ⟨9, 0⟩) (meth := k9m0) (c := k9c0) (by decide +kernel) rfl rfl rfl (by decide +kernel)
set_option maxRecDepth 65536 in
theorem w_c34 : (Jvm.Cond.code ({ cls := "com/example/neti/neti/cli/Failure", name := "status", desc := "()I" } : Jvm.MethodName) prog_4_method_4_code (1 : Nat) (Option.some Jvm.ClassFile.FieldType.int)).before args0 about1 = true := code_word (m := ⟨11, 2⟩) (meth := k11m2) (c := k11c2) (by decide +kernel) rfl rfl rfl (by decide +kernel)
set_option maxRecDepth 65536 in
theorem w_c35 : (Jvm.Cond.code ({ cls := "java/lang/Throwable", name := "getMessage", desc := "()Ljava/lang/String;" } : Jvm.MethodName) jdk_78_method_6_code (1 : Nat) (Option.some (Jvm.ClassFile.FieldType.object "java/lang/String"))).before args0 about1 = true := code_word (m := ⟨9, 2⟩) (meth := k9m2) (c := k9c2) (by decide +kernel) rfl rfl rfl (by decide +kernel)
set_option maxRecDepth 65536 in
theorem w_c36 : (Jvm.Cond.code ({ cls := "com/example/neti/neti/cli/FailureBadCommandLinePinLaw", name := "at", desc := "(Ljava/lang/String;IC)Z" } : Jvm.MethodName) method_3_code (3 : Nat) (Option.some Jvm.ClassFile.FieldType.boolean)).before args0 about1 = true := code_word (m := ⟨1, 2⟩) (meth := k1m2) (c := k1c2) (by decide +kernel) rfl rfl rfl (by decide +kernel)
set_option maxRecDepth 65536 in
theorem w_c37 : (Jvm.Cond.code ({ cls := "java/lang/String", name := "charAt", desc := "(I)C" } : Jvm.MethodName) jdk_42_method_56_code (2 : Nat) (Option.some Jvm.ClassFile.FieldType.char)).before args0 about1 = true := code_word (m := ⟨7, 4⟩) (meth := k7m4) (c := k7c4) (by decide +kernel) rfl rfl rfl (by decide +kernel)
set_option maxRecDepth 65536 in
theorem w_c38 : (Jvm.Cond.code ({ cls := "java/lang/String", name := "isLatin1", desc := "()Z" } : Jvm.MethodName) jdk_42_method_154_code (1 : Nat) (Option.some Jvm.ClassFile.FieldType.boolean)).before args0 about1 = true := code_word (m := ⟨7, 11⟩) (meth := k7m11) (c := k7c11) (by decide +kernel) rfl rfl rfl (by decide +kernel)
set_option maxRecDepth 65536 in
theorem w_c39 : (Jvm.Cond.code ({ cls := "java/lang/StringLatin1", name := "charAt", desc := "([BI)C" } : Jvm.MethodName) jdk_43_method_2_code (2 : Nat) (Option.some Jvm.ClassFile.FieldType.char)).before args0 about1 = true := code_word (m := ⟨18, 1⟩) (meth := k18m1) (c := k18c1) (by decide +kernel) rfl rfl rfl (by decide +kernel)
set_option maxRecDepth 65536 in
theorem w_c40 : (Jvm.Cond.code ({ cls := "java/lang/String", name := "checkIndex", desc := "(II)V" } : Jvm.MethodName) jdk_42_method_155_code (2 : Nat) (Option.none : Option Jvm.ClassFile.FieldType)).before args0 about1 = true := code_word (m := ⟨7, 12⟩) (meth := k7m12) (c := k7c12) (by decide +kernel) rfl rfl rfl (by decide +kernel)
set_option maxRecDepth 65536 in
theorem w_c41 : (Jvm.Cond.code ({ cls := "jdk/internal/util/Preconditions", name := "checkIndex", desc := "(IILjava/util/function/BiFunction;)I" } : Jvm.MethodName) jdk_41_method_11_code (3 : Nat) (Option.some Jvm.ClassFile.FieldType.int)).before args0 about1 = true := code_word (m := ⟨19, 1⟩) (meth := k19m1) (c := k19c1) (by decide +kernel) rfl rfl rfl (by decide +kernel)
set_option maxRecDepth 65536 in
theorem w_c42 : (Jvm.Cond.code ({ cls := "java/lang/String", name := "valueOf", desc := "(C)Ljava/lang/String;" } : Jvm.MethodName) jdk_42_method_139_code (1 : Nat) (Option.some (Jvm.ClassFile.FieldType.object "java/lang/String"))).before args0 about1 = true := code_word (m := ⟨7, 5⟩) (meth := k7m5) (c := k7c5) (by decide +kernel) rfl rfl rfl (by decide +kernel)
set_option maxRecDepth 65536 in
theorem w_c43 : (Jvm.Cond.code ({ cls := "java/lang/StringLatin1", name := "canEncode", desc := "(C)Z" } : Jvm.MethodName) jdk_43_method_3_code (1 : Nat) (Option.some Jvm.ClassFile.FieldType.boolean)).before args0 about1 = true := code_word (m := ⟨18, 2⟩) (meth := k18m2) (c := k18c2) (by decide +kernel) rfl rfl rfl (by decide +kernel)
set_option maxRecDepth 65536 in
theorem w_c44 : (Jvm.Cond.code ({ cls := "java/lang/StringLatin1", name := "toBytes", desc := "(C)[B" } : Jvm.MethodName) jdk_43_method_46_code (1 : Nat) (Option.some (Jvm.ClassFile.FieldType.array Jvm.ClassFile.FieldType.byte))).before args0 about1 = true := code_word (m := ⟨18, 3⟩) (meth := k18m3) (c := k18c3) (by decide +kernel) rfl rfl rfl (by decide +kernel)
set_option maxRecDepth 65536 in
theorem w_c45 : (Jvm.Cond.code ({ cls := "java/lang/String", name := "<init>", desc := "([BB)V" } : Jvm.MethodName) jdk_42_method_151_code (3 : Nat) (Option.none : Option Jvm.ClassFile.FieldType)).before args0 about1 = true := code_word (m := ⟨7, 9⟩) (meth := k7m9) (c := k7c9) (by decide +kernel) rfl rfl rfl (by decide +kernel)
set_option maxRecDepth 65536 in
theorem w_c46 : (Jvm.Cond.code ({ cls := "java/lang/StringUTF16", name := "toBytes", desc := "(C)[B" } : Jvm.MethodName) jdk_52_method_24_code (2 : Nat) (Option.some (Jvm.ClassFile.FieldType.array Jvm.ClassFile.FieldType.byte))).before args0 about1 = true := code_word (m := ⟨8, 10⟩) (meth := k8m10) (c := k8c10) (by decide +kernel) rfl rfl rfl (by decide +kernel)
set_option maxRecDepth 65536 in
theorem w_c47 : (Jvm.Cond.code ({ cls := "java/lang/StringUTF16", name := "putChar", desc := "([BII)V" } : Jvm.MethodName) jdk_52_method_4_code (3 : Nat) (Option.none : Option Jvm.ClassFile.FieldType)).before args0 about1 = true := code_word (m := ⟨8, 3⟩) (meth := k8m3) (c := k8c3) (by decide +kernel) rfl rfl rfl (by decide +kernel)
set_option maxRecDepth 65536 in
theorem w_c48 : (Jvm.Cond.code ({ cls := "java/lang/StringUTF16", name := "toBytes", desc := "([CII)[B" } : Jvm.MethodName) jdk_52_method_14_code (5 : Nat) (Option.some (Jvm.ClassFile.FieldType.array Jvm.ClassFile.FieldType.byte))).before args0 about1 = true := code_word (m := ⟨8, 6⟩) (meth := k8m6) (c := k8c6) (by decide +kernel) rfl rfl rfl (by decide +kernel)
set_option maxRecDepth 65536 in
theorem w_c49 : (Jvm.Cond.code ({ cls := "java/lang/StringUTF16", name := "newBytesFor", desc := "(I)[B" } : Jvm.MethodName) jdk_52_method_2_code (1 : Nat) (Option.some (Jvm.ClassFile.FieldType.array Jvm.ClassFile.FieldType.byte))).before args0 about1 = true := code_word (m := ⟨8, 1⟩) (meth := k8m1) (c := k8c1) (by decide +kernel) rfl rfl rfl (by decide +kernel)
set_option maxRecDepth 65536 in
theorem w_c50 : (Jvm.Cond.code ({ cls := "java/lang/StringUTF16", name := "newBytesLength", desc := "(I)I" } : Jvm.MethodName) jdk_52_method_3_code (1 : Nat) (Option.some Jvm.ClassFile.FieldType.int)).before args0 about1 = true := code_word (m := ⟨8, 2⟩) (meth := k8m2) (c := k8c2) (by decide +kernel) rfl rfl rfl (by decide +kernel)
set_option maxRecDepth 65536 in
theorem w_c51 : (Jvm.Cond.code ({ cls := "java/lang/StringUTF16", name := "getChar", desc := "([BI)C" } : Jvm.MethodName) jdk_52_method_5_code (2 : Nat) (Option.some Jvm.ClassFile.FieldType.char)).before args0 about1 = true := code_word (m := ⟨8, 4⟩) (meth := k8m4) (c := k8c4) (by decide +kernel) rfl rfl rfl (by decide +kernel)
set_option maxRecDepth 65536 in
theorem w_c52 : (Jvm.Cond.code ({ cls := "java/lang/AbstractStringBuilder", name := "inflate", desc := "()V" } : Jvm.MethodName) jdk_68_method_11_code (2 : Nat) (Option.none : Option Jvm.ClassFile.FieldType)).before args0 about1 = true := code_word (m := ⟨13, 4⟩) (meth := k13m4) (c := k13c4) (by decide +kernel) rfl rfl rfl (by decide +kernel)
set_option maxRecDepth 65536 in
theorem w_c53 : (Jvm.Cond.code ({ cls := "java/lang/StringLatin1", name := "inflate", desc := "([BI[BII)V" } : Jvm.MethodName) jdk_43_method_50_code (5 : Nat) (Option.none : Option Jvm.ClassFile.FieldType)).before args0 about1 = true := code_word (m := ⟨18, 4⟩) (meth := k18m4) (c := k18c4) (by decide +kernel) rfl rfl rfl (by decide +kernel)
set_option maxRecDepth 65536 in
theorem w_c54 : (Jvm.Cond.code ({ cls := "java/lang/StringUTF16", name := "inflate", desc := "([BI[BII)V" } : Jvm.MethodName) jdk_52_method_86_code (6 : Nat) (Option.none : Option Jvm.ClassFile.FieldType)).before args0 about1 = true := code_word (m := ⟨8, 12⟩) (meth := k8m12) (c := k8c12) (by decide +kernel) rfl rfl rfl (by decide +kernel)
set_option maxRecDepth 65536 in
theorem w_c55 : (Jvm.Cond.code ({ cls := "java/lang/StringUTF16", name := "checkBoundsOffCount", desc := "(II[B)V" } : Jvm.MethodName) jdk_52_method_94_code (3 : Nat) (Option.none : Option Jvm.ClassFile.FieldType)).before args0 about1 = true := code_word (m := ⟨8, 14⟩) (meth := k8m14) (c := k8c14) (by decide +kernel) rfl rfl rfl (by decide +kernel)
set_option maxRecDepth 65536 in
theorem w_c56 : (Jvm.Cond.code ({ cls := "java/lang/StringUTF16", name := "length", desc := "([B)I" } : Jvm.MethodName) jdk_52_method_6_code (1 : Nat) (Option.some Jvm.ClassFile.FieldType.int)).before args0 about1 = true := code_word (m := ⟨8, 5⟩) (meth := k8m5) (c := k8c5) (by decide +kernel) rfl rfl rfl (by decide +kernel)
set_option maxRecDepth 65536 in
theorem w_c57 : (Jvm.Cond.code ({ cls := "java/lang/String", name := "checkBoundsOffCount", desc := "(III)I" } : Jvm.MethodName) jdk_42_method_157_code (3 : Nat) (Option.some Jvm.ClassFile.FieldType.int)).before args0 about1 = true := code_word (m := ⟨7, 13⟩) (meth := k7m13) (c := k7c13) (by decide +kernel) rfl rfl rfl (by decide +kernel)
set_option maxRecDepth 65536 in
theorem w_c58 : (Jvm.Cond.code ({ cls := "jdk/internal/util/Preconditions", name := "checkFromIndexSize", desc := "(IIILjava/util/function/BiFunction;)I" } : Jvm.MethodName) jdk_41_method_13_code (4 : Nat) (Option.some Jvm.ClassFile.FieldType.int)).before args0 about1 = true := code_word (m := ⟨19, 2⟩) (meth := k19m2) (c := k19c2) (by decide +kernel) rfl rfl rfl (by decide +kernel)
set_option maxRecDepth 65536 in
theorem w_c59 : (Jvm.Cond.code ({ cls := "java/lang/StringUTF16", name := "charAt", desc := "([BI)C" } : Jvm.MethodName) jdk_52_method_83_code (2 : Nat) (Option.some Jvm.ClassFile.FieldType.char)).before args0 about1 = true := code_word (m := ⟨8, 11⟩) (meth := k8m11) (c := k8c11) (by decide +kernel) rfl rfl rfl (by decide +kernel)
set_option maxRecDepth 65536 in
theorem w_c60 : (Jvm.Cond.code ({ cls := "java/lang/StringUTF16", name := "checkIndex", desc := "(I[B)V" } : Jvm.MethodName) jdk_52_method_91_code (2 : Nat) (Option.none : Option Jvm.ClassFile.FieldType)).before args0 about1 = true := code_word (m := ⟨8, 13⟩) (meth := k8m13) (c := k8c13) (by decide +kernel) rfl rfl rfl (by decide +kernel)
def codes1 : List Jvm.Cond := [Jvm.Cond.code x code maxLocals ret, Jvm.Cond.code ({ cls := "com/example/neti/neti/cli/FailureBadCommandLinePinLaw", name := "str", desc := "(ICC)Ljava/lang/String;" } : Jvm.MethodName) method_2_code (3 : Nat) (Option.some (Jvm.ClassFile.FieldType.object "java/lang/String")), Jvm.Cond.code ({ cls := "java/lang/String", name := "<init>", desc := "([C)V" } : Jvm.MethodName) jdk_42_method_3_code (2 : Nat) (Option.none : Option Jvm.ClassFile.FieldType), Jvm.Cond.code ({ cls := "java/lang/String", name := "<init>", desc := "([CIILjava/lang/Void;)V" } : Jvm.MethodName) jdk_42_method_149_code (6 : Nat) (Option.none : Option Jvm.ClassFile.FieldType), Jvm.Cond.code ({ cls := "java/lang/Object", name := "<init>", desc := "()V" } : Jvm.MethodName) object_method_1_code (1 : Nat) (Option.none : Option Jvm.ClassFile.FieldType), Jvm.Cond.code ({ cls := "java/lang/StringUTF16", name := "compress", desc := "([CII)[B" } : Jvm.MethodName) jdk_52_method_16_code (6 : Nat) (Option.some (Jvm.ClassFile.FieldType.array Jvm.ClassFile.FieldType.byte)), Jvm.Cond.code ({ cls := "java/lang/StringUTF16", name := "compress", desc := "([CI[BII)I" } : Jvm.MethodName) jdk_52_method_21_code (7 : Nat) (Option.some Jvm.ClassFile.FieldType.int), Jvm.Cond.code ({ cls := "java/lang/StringUTF16", name := "coderFromArrayLen", desc := "([BI)B" } : Jvm.MethodName) jdk_52_method_15_code (2 : Nat) (Option.some Jvm.ClassFile.FieldType.byte), Jvm.Cond.code ({ cls := "com/example/neti/neti/cli/Failure", name := "badCommandLine", desc := "(Ljava/lang/String;Ljava/lang/String;)Lcom/example/neti/neti/cli/Failure;" } : Jvm.MethodName) prog_4_method_2_code (2 : Nat) (Option.some (Jvm.ClassFile.FieldType.object "com/example/neti/neti/cli/Failure")), Jvm.Cond.code ({ cls := "java/lang/StringBuilder", name := "<init>", desc := "()V" } : Jvm.MethodName) jdk_67_method_1_code (1 : Nat) (Option.none : Option Jvm.ClassFile.FieldType), Jvm.Cond.code ({ cls := "java/lang/AbstractStringBuilder", name := "<init>", desc := "(I)V" } : Jvm.MethodName) jdk_68_method_2_code (2 : Nat) (Option.none : Option Jvm.ClassFile.FieldType), Jvm.Cond.code ({ cls := "java/lang/StringBuilder", name := "append", desc := "(Ljava/lang/String;)Ljava/lang/StringBuilder;" } : Jvm.MethodName) jdk_67_method_7_code (2 : Nat) (Option.some (Jvm.ClassFile.FieldType.object "java/lang/StringBuilder")), Jvm.Cond.code ({ cls := "java/lang/AbstractStringBuilder", name := "append", desc := "(Ljava/lang/String;)Ljava/lang/AbstractStringBuilder;" } : Jvm.MethodName) jdk_68_method_22_code (3 : Nat) (Option.some (Jvm.ClassFile.FieldType.object "java/lang/AbstractStringBuilder")), Jvm.Cond.code ({ cls := "java/lang/String", name := "length", desc := "()I" } : Jvm.MethodName) jdk_42_method_54_code (1 : Nat) (Option.some Jvm.ClassFile.FieldType.int), Jvm.Cond.code ({ cls := "java/lang/String", name := "coder", desc := "()B" } : Jvm.MethodName) jdk_42_method_152_code (1 : Nat) (Option.some Jvm.ClassFile.FieldType.byte), Jvm.Cond.code ({ cls := "java/lang/AbstractStringBuilder", name := "ensureCapacityInternal", desc := "(I)V" } : Jvm.MethodName) jdk_68_method_9_code (3 : Nat) (Option.none : Option Jvm.ClassFile.FieldType), Jvm.Cond.code ({ cls := "java/lang/AbstractStringBuilder", name := "putStringAt", desc := "(ILjava/lang/String;)V" } : Jvm.MethodName) jdk_68_method_73_code (3 : Nat) (Option.none : Option Jvm.ClassFile.FieldType), Jvm.Cond.code ({ cls := "java/lang/AbstractStringBuilder", name := "inflateIfNeededFor", desc := "(Ljava/lang/String;)V" } : Jvm.MethodName) jdk_68_method_71_code (2 : Nat) (Option.none : Option Jvm.ClassFile.FieldType), Jvm.Cond.code ({ cls := "java/lang/String", name := "getBytes", desc := "([BIB)V" } : Jvm.MethodName) jdk_42_method_147_code (4 : Nat) (Option.none : Option Jvm.ClassFile.FieldType), Jvm.Cond.code ({ cls := "java/lang/StringBuilder", name := "toString", desc := "()Ljava/lang/String;" } : Jvm.MethodName) jdk_67_method_42_code (1 : Nat) (Option.some (Jvm.ClassFile.FieldType.object "java/lang/String")), Jvm.Cond.code ({ cls := "java/lang/String", name := "<init>", desc := "(Ljava/lang/StringBuilder;)V" } : Jvm.MethodName) jdk_42_method_53_code (2 : Nat) (Option.none : Option Jvm.ClassFile.FieldType), Jvm.Cond.code ({ cls := "java/lang/String", name := "<init>", desc := "(Ljava/lang/AbstractStringBuilder;Ljava/lang/Void;)V" } : Jvm.MethodName) jdk_42_method_150_code (5 : Nat) (Option.none : Option Jvm.ClassFile.FieldType), Jvm.Cond.code ({ cls := "java/lang/AbstractStringBuilder", name := "getValue", desc := "()[B" } : Jvm.MethodName) jdk_68_method_64_code (1 : Nat) (Option.some (Jvm.ClassFile.FieldType.array Jvm.ClassFile.FieldType.byte)), Jvm.Cond.code ({ cls := "java/lang/StringBuilder", name := "length", desc := "()I" } : Jvm.MethodName) jdk_67_method_93_code (1 : Nat) (Option.some Jvm.ClassFile.FieldType.int), Jvm.Cond.code ({ cls := "java/lang/AbstractStringBuilder", name := "length", desc := "()I" } : Jvm.MethodName) jdk_68_method_6_code (1 : Nat) (Option.some Jvm.ClassFile.FieldType.int), Jvm.Cond.code ({ cls := "java/lang/AbstractStringBuilder", name := "isLatin1", desc := "()Z" } : Jvm.MethodName) jdk_68_method_68_code (1 : Nat) (Option.some Jvm.ClassFile.FieldType.boolean), Jvm.Cond.code ({ cls := "java/util/Arrays", name := "copyOfRange", desc := "([BII)[B" } : Jvm.MethodName) jdk_65_method_132_code (3 : Nat) (Option.some (Jvm.ClassFile.FieldType.array Jvm.ClassFile.FieldType.byte)), Jvm.Cond.code ({ cls := "java/util/Arrays", name := "copyOfRangeByte", desc := "([BII)[B" } : Jvm.MethodName) jdk_65_method_133_code (5 : Nat) (Option.some (Jvm.ClassFile.FieldType.array Jvm.ClassFile.FieldType.byte)), Jvm.Cond.code ({ cls := "java/util/Arrays", name := "checkLength", desc := "(II)V" } : Jvm.MethodName) jdk_65_method_131_code (2 : Nat) (Option.none : Option Jvm.ClassFile.FieldType), Jvm.Cond.code ({ cls := "java/lang/Math", name := "min", desc := "(II)I" } : Jvm.MethodName) jdk_29_method_69_code (2 : Nat) (Option.some Jvm.ClassFile.FieldType.int), Jvm.Cond.code ({ cls := "com/example/neti/neti/cli/Failure", name := "<init>", desc := "(ILjava/lang/String;)V" } : Jvm.MethodName) prog_4_method_1_code (3 : Nat) (Option.none : Option Jvm.ClassFile.FieldType), Jvm.Cond.code ({ cls := "java/lang/Exception", name := "<init>", desc := "(Ljava/lang/String;)V" } : Jvm.MethodName) jdk_59_method_2_code (2 : Nat) (Option.none : Option Jvm.ClassFile.FieldType), Jvm.Cond.code ({ cls := "java/lang/Throwable", name := "<init>", desc := "(Ljava/lang/String;)V" } : Jvm.MethodName) jdk_78_method_2_code (2 : Nat) (Option.none : Option Jvm.ClassFile.FieldType), Jvm.Cond.code ({ cls := "java/lang/Throwable", name := "<init>", desc := "()V" } : Jvm.MethodName) jdk_78_method_1_code (1 : Nat) (Option.none : Option Jvm.ClassFile.FieldType), Jvm.Cond.code ({ cls := "com/example/neti/neti/cli/Failure", name := "status", desc := "()I" } : Jvm.MethodName) prog_4_method_4_code (1 : Nat) (Option.some Jvm.ClassFile.FieldType.int), Jvm.Cond.code ({ cls := "java/lang/Throwable", name := "getMessage", desc := "()Ljava/lang/String;" } : Jvm.MethodName) jdk_78_method_6_code (1 : Nat) (Option.some (Jvm.ClassFile.FieldType.object "java/lang/String")), Jvm.Cond.code ({ cls := "com/example/neti/neti/cli/FailureBadCommandLinePinLaw", name := "at", desc := "(Ljava/lang/String;IC)Z" } : Jvm.MethodName) method_3_code (3 : Nat) (Option.some Jvm.ClassFile.FieldType.boolean), Jvm.Cond.code ({ cls := "java/lang/String", name := "charAt", desc := "(I)C" } : Jvm.MethodName) jdk_42_method_56_code (2 : Nat) (Option.some Jvm.ClassFile.FieldType.char), Jvm.Cond.code ({ cls := "java/lang/String", name := "isLatin1", desc := "()Z" } : Jvm.MethodName) jdk_42_method_154_code (1 : Nat) (Option.some Jvm.ClassFile.FieldType.boolean), Jvm.Cond.code ({ cls := "java/lang/StringLatin1", name := "charAt", desc := "([BI)C" } : Jvm.MethodName) jdk_43_method_2_code (2 : Nat) (Option.some Jvm.ClassFile.FieldType.char), Jvm.Cond.code ({ cls := "java/lang/String", name := "checkIndex", desc := "(II)V" } : Jvm.MethodName) jdk_42_method_155_code (2 : Nat) (Option.none : Option Jvm.ClassFile.FieldType), Jvm.Cond.code ({ cls := "jdk/internal/util/Preconditions", name := "checkIndex", desc := "(IILjava/util/function/BiFunction;)I" } : Jvm.MethodName) jdk_41_method_11_code (3 : Nat) (Option.some Jvm.ClassFile.FieldType.int), Jvm.Cond.code ({ cls := "java/lang/String", name := "valueOf", desc := "(C)Ljava/lang/String;" } : Jvm.MethodName) jdk_42_method_139_code (1 : Nat) (Option.some (Jvm.ClassFile.FieldType.object "java/lang/String")), Jvm.Cond.code ({ cls := "java/lang/StringLatin1", name := "canEncode", desc := "(C)Z" } : Jvm.MethodName) jdk_43_method_3_code (1 : Nat) (Option.some Jvm.ClassFile.FieldType.boolean), Jvm.Cond.code ({ cls := "java/lang/StringLatin1", name := "toBytes", desc := "(C)[B" } : Jvm.MethodName) jdk_43_method_46_code (1 : Nat) (Option.some (Jvm.ClassFile.FieldType.array Jvm.ClassFile.FieldType.byte)), Jvm.Cond.code ({ cls := "java/lang/String", name := "<init>", desc := "([BB)V" } : Jvm.MethodName) jdk_42_method_151_code (3 : Nat) (Option.none : Option Jvm.ClassFile.FieldType), Jvm.Cond.code ({ cls := "java/lang/StringUTF16", name := "toBytes", desc := "(C)[B" } : Jvm.MethodName) jdk_52_method_24_code (2 : Nat) (Option.some (Jvm.ClassFile.FieldType.array Jvm.ClassFile.FieldType.byte)), Jvm.Cond.code ({ cls := "java/lang/StringUTF16", name := "putChar", desc := "([BII)V" } : Jvm.MethodName) jdk_52_method_4_code (3 : Nat) (Option.none : Option Jvm.ClassFile.FieldType), Jvm.Cond.code ({ cls := "java/lang/StringUTF16", name := "toBytes", desc := "([CII)[B" } : Jvm.MethodName) jdk_52_method_14_code (5 : Nat) (Option.some (Jvm.ClassFile.FieldType.array Jvm.ClassFile.FieldType.byte)), Jvm.Cond.code ({ cls := "java/lang/StringUTF16", name := "newBytesFor", desc := "(I)[B" } : Jvm.MethodName) jdk_52_method_2_code (1 : Nat) (Option.some (Jvm.ClassFile.FieldType.array Jvm.ClassFile.FieldType.byte)), Jvm.Cond.code ({ cls := "java/lang/StringUTF16", name := "newBytesLength", desc := "(I)I" } : Jvm.MethodName) jdk_52_method_3_code (1 : Nat) (Option.some Jvm.ClassFile.FieldType.int), Jvm.Cond.code ({ cls := "java/lang/StringUTF16", name := "getChar", desc := "([BI)C" } : Jvm.MethodName) jdk_52_method_5_code (2 : Nat) (Option.some Jvm.ClassFile.FieldType.char), Jvm.Cond.code ({ cls := "java/lang/AbstractStringBuilder", name := "inflate", desc := "()V" } : Jvm.MethodName) jdk_68_method_11_code (2 : Nat) (Option.none : Option Jvm.ClassFile.FieldType), Jvm.Cond.code ({ cls := "java/lang/StringLatin1", name := "inflate", desc := "([BI[BII)V" } : Jvm.MethodName) jdk_43_method_50_code (5 : Nat) (Option.none : Option Jvm.ClassFile.FieldType), Jvm.Cond.code ({ cls := "java/lang/StringUTF16", name := "inflate", desc := "([BI[BII)V" } : Jvm.MethodName) jdk_52_method_86_code (6 : Nat) (Option.none : Option Jvm.ClassFile.FieldType), Jvm.Cond.code ({ cls := "java/lang/StringUTF16", name := "checkBoundsOffCount", desc := "(II[B)V" } : Jvm.MethodName) jdk_52_method_94_code (3 : Nat) (Option.none : Option Jvm.ClassFile.FieldType), Jvm.Cond.code ({ cls := "java/lang/StringUTF16", name := "length", desc := "([B)I" } : Jvm.MethodName) jdk_52_method_6_code (1 : Nat) (Option.some Jvm.ClassFile.FieldType.int), Jvm.Cond.code ({ cls := "java/lang/String", name := "checkBoundsOffCount", desc := "(III)I" } : Jvm.MethodName) jdk_42_method_157_code (3 : Nat) (Option.some Jvm.ClassFile.FieldType.int), Jvm.Cond.code ({ cls := "jdk/internal/util/Preconditions", name := "checkFromIndexSize", desc := "(IIILjava/util/function/BiFunction;)I" } : Jvm.MethodName) jdk_41_method_13_code (4 : Nat) (Option.some Jvm.ClassFile.FieldType.int), Jvm.Cond.code ({ cls := "java/lang/StringUTF16", name := "charAt", desc := "([BI)C" } : Jvm.MethodName) jdk_52_method_83_code (2 : Nat) (Option.some Jvm.ClassFile.FieldType.char), Jvm.Cond.code ({ cls := "java/lang/StringUTF16", name := "checkIndex", desc := "(I[B)V" } : Jvm.MethodName) jdk_52_method_91_code (2 : Nat) (Option.none : Option Jvm.ClassFile.FieldType)]
set_option maxRecDepth 65536 in
theorem codes_eq : words1.filter isCode = codes1 := rfl
theorem w_codes : ∀ c ∈ words1.filter isCode, c.before args0 about1 = true := by
  rw [codes_eq]
  intro c hc
  simp only [codes1, List.mem_cons, List.not_mem_nil, or_false] at hc
  rcases hc with rfl | rfl | rfl | rfl | rfl | rfl | rfl | rfl | rfl | rfl | rfl | rfl | rfl | rfl | rfl | rfl | rfl | rfl | rfl | rfl | rfl | rfl | rfl | rfl | rfl | rfl | rfl | rfl | rfl | rfl | rfl | rfl | rfl | rfl | rfl | rfl | rfl | rfl | rfl | rfl | rfl | rfl | rfl | rfl | rfl | rfl | rfl | rfl | rfl | rfl | rfl | rfl | rfl | rfl | rfl | rfl | rfl | rfl | rfl | rfl | rfl
  · exact w_c0
  · exact w_c1
  · exact w_c2
  · exact w_c3
  · exact w_c4
  · exact w_c5
  · exact w_c6
  · exact w_c7
  · exact w_c8
  · exact w_c9
  · exact w_c10
  · exact w_c11
  · exact w_c12
  · exact w_c13
  · exact w_c14
  · exact w_c15
  · exact w_c16
  · exact w_c17
  · exact w_c18
  · exact w_c19
  · exact w_c20
  · exact w_c21
  · exact w_c22
  · exact w_c23
  · exact w_c24
  · exact w_c25
  · exact w_c26
  · exact w_c27
  · exact w_c28
  · exact w_c29
  · exact w_c30
  · exact w_c31
  · exact w_c32
  · exact w_c33
  · exact w_c34
  · exact w_c35
  · exact w_c36
  · exact w_c37
  · exact w_c38
  · exact w_c39
  · exact w_c40
  · exact w_c41
  · exact w_c42
  · exact w_c43
  · exact w_c44
  · exact w_c45
  · exact w_c46
  · exact w_c47
  · exact w_c48
  · exact w_c49
  · exact w_c50
  · exact w_c51
  · exact w_c52
  · exact w_c53
  · exact w_c54
  · exact w_c55
  · exact w_c56
  · exact w_c57
  · exact w_c58
  · exact w_c59
  · exact w_c60
set_option maxRecDepth 65536 in
theorem w_t1 : (words1.take 24).all (fun c => isCode c || c.before args0 about1) = true := by decide +kernel
set_option maxRecDepth 65536 in
theorem w_t2 : ((words1.drop 24).take 24).all (fun c => isCode c || c.before args0 about1) = true := by decide +kernel
set_option maxRecDepth 65536 in
theorem w_t3 : (((words1.drop 24).drop 24).take 24).all (fun c => isCode c || c.before args0 about1) = true := by decide +kernel
set_option maxRecDepth 65536 in
theorem w_t4 : ((((words1.drop 24).drop 24).drop 24).take 24).all (fun c => isCode c || c.before args0 about1) = true := by decide +kernel
set_option maxRecDepth 65536 in
theorem w_t5 : (((((words1.drop 24).drop 24).drop 24).drop 24).take 24).all (fun c => isCode c || c.before args0 about1) = true := by decide +kernel
set_option maxRecDepth 65536 in
theorem w_t6 : ((((((words1.drop 24).drop 24).drop 24).drop 24).drop 24).take 24).all (fun c => isCode c || c.before args0 about1) = true := by decide +kernel
set_option maxRecDepth 65536 in
theorem w_t7 : (((((((words1.drop 24).drop 24).drop 24).drop 24).drop 24).drop 24).take 24).all (fun c => isCode c || c.before args0 about1) = true := by decide +kernel
set_option maxRecDepth 65536 in
theorem w_t8 : ((((((((words1.drop 24).drop 24).drop 24).drop 24).drop 24).drop 24).drop 24).take 24).all (fun c => isCode c || c.before args0 about1) = true := by decide +kernel
set_option maxRecDepth 65536 in
theorem w_t9 : (((((((((words1.drop 24).drop 24).drop 24).drop 24).drop 24).drop 24).drop 24).drop 24).take 24).all (fun c => isCode c || c.before args0 about1) = true := by decide +kernel
set_option maxRecDepth 65536 in
theorem w_t10 : ((((((((((words1.drop 24).drop 24).drop 24).drop 24).drop 24).drop 24).drop 24).drop 24).drop 24).take 24).all (fun c => isCode c || c.before args0 about1) = true := by decide +kernel
set_option maxRecDepth 65536 in
theorem w_t11 : (((((((((((words1.drop 24).drop 24).drop 24).drop 24).drop 24).drop 24).drop 24).drop 24).drop 24).drop 24).take 24).all (fun c => isCode c || c.before args0 about1) = true := by decide +kernel
set_option maxRecDepth 65536 in
theorem w_t12 : ((((((((((((words1.drop 24).drop 24).drop 24).drop 24).drop 24).drop 24).drop 24).drop 24).drop 24).drop 24).drop 24).take 24).all (fun c => isCode c || c.before args0 about1) = true := by decide +kernel
set_option maxRecDepth 65536 in
theorem w_t13 : (((((((((((((words1.drop 24).drop 24).drop 24).drop 24).drop 24).drop 24).drop 24).drop 24).drop 24).drop 24).drop 24).drop 24).take 24).all (fun c => isCode c || c.before args0 about1) = true := by decide +kernel
set_option maxRecDepth 65536 in
theorem w_t14 : (((((((((((((words1.drop 24).drop 24).drop 24).drop 24).drop 24).drop 24).drop 24).drop 24).drop 24).drop 24).drop 24).drop 24).drop 24).all (fun c => isCode c || c.before args0 about1) = true := by decide +kernel
theorem w_tables : (allAtoms (Jvm.Cond.code x code maxLocals ret :: tables_1)).before args0 about1 = true := by
  rw [allAtoms_all]
  show words1.all (fun c => c.before args0 about1) = true
  refine all_split ?_ w_codes
  rw [← List.take_append_drop 24 words1, List.all_append, w_t1, ← List.take_append_drop 24 (words1.drop 24), List.all_append, w_t2, ← List.take_append_drop 24 ((words1.drop 24).drop 24), List.all_append, w_t3, ← List.take_append_drop 24 (((words1.drop 24).drop 24).drop 24), List.all_append, w_t4, ← List.take_append_drop 24 ((((words1.drop 24).drop 24).drop 24).drop 24), List.all_append, w_t5, ← List.take_append_drop 24 (((((words1.drop 24).drop 24).drop 24).drop 24).drop 24), List.all_append, w_t6, ← List.take_append_drop 24 ((((((words1.drop 24).drop 24).drop 24).drop 24).drop 24).drop 24), List.all_append, w_t7, ← List.take_append_drop 24 (((((((words1.drop 24).drop 24).drop 24).drop 24).drop 24).drop 24).drop 24), List.all_append, w_t8, ← List.take_append_drop 24 ((((((((words1.drop 24).drop 24).drop 24).drop 24).drop 24).drop 24).drop 24).drop 24), List.all_append, w_t9, ← List.take_append_drop 24 (((((((((words1.drop 24).drop 24).drop 24).drop 24).drop 24).drop 24).drop 24).drop 24).drop 24), List.all_append, w_t10, ← List.take_append_drop 24 ((((((((((words1.drop 24).drop 24).drop 24).drop 24).drop 24).drop 24).drop 24).drop 24).drop 24).drop 24), List.all_append, w_t11, ← List.take_append_drop 24 (((((((((((words1.drop 24).drop 24).drop 24).drop 24).drop 24).drop 24).drop 24).drop 24).drop 24).drop 24).drop 24), List.all_append, w_t12, ← List.take_append_drop 24 ((((((((((((words1.drop 24).drop 24).drop 24).drop 24).drop 24).drop 24).drop 24).drop 24).drop 24).drop 24).drop 24).drop 24), List.all_append, w_t13, w_t14]
  rfl
set_option maxRecDepth 65536 in
theorem w_rest : rest_1_c.before args0 about1 = true := by decide +kernel
set_option maxRecDepth 65536 in
theorem w_case : (Jvm.Cond.and given_1 narrow_1).before args0 about1 = true := by decide +kernel
set_option maxRecDepth 65536 in
theorem w_consts : constsHeld consts_1 about1 := Jvm.Lit.constsHeldB_iff.mp (by decide +kernel)
theorem w_applies : (headSpec (Jvm.Cond.code x code maxLocals ret :: tables_1) room_1).applies x e0.platform about1 = true :=
  (Spec.applies_iff w_frames).mpr ⟨w_running, w_runnable, w_alone, w_named, w_hears, w_ripe, w_room, w_tables⟩
theorem atStart : AtStart classFile x code maxLocals ret World_1 tables_1 room_1 Calls_1 rest_1 Pre_1 launch0 p0 e0 about1 theMethod args0 below0 :=
  ⟨lists_1, trivial, launch0.admits_env _ _ _, launch0.least_env, fairChoices_fair.cas, fairChoices_fair.clock, w_frames, w_args, w_heap, w_applies, ⟨(by decide +kernel : framesKnown about1 = true), ⟨(by decide +kernel : tablesKnown about1 = true), ⟨w_consts, trivial⟩⟩⟩, w_rest, w_case⟩
end start1
theorem witness_1 : WitnessClaimed_1 := ⟨start1.p0, start1.e0, start1.about1, start1.theMethod, start1.args0, start1.below0, start1.atStart⟩
end Jvm.Pilot.@@N@@
